import Derived.Test.Qxb6601556aTailB
import Derived.Deep.DeepCutAuto
namespace Go.Proofs.Qxb6601556a
open Go.RowKit
set_option linter.unusedVariables false
set_option linter.unusedSimpArgs false

set_option maxRecDepth 100000 in
set_option maxHeartbeats 16000000 in
theorem law4_all (a0 a1 a2 a4 : Option Addr) (c0 c1 c2 c4 : Nat) (st v : Int) (R C : List (List Int)) (comp path : List Int) (w : World) (hR : RowsV w a0 R) (hC : RowsV w a2 C) (hcomp : RowI w a1 comp) (hpath : RowI w a4 path)
    (z0 : a0 = none → R.length = 0) (z1 : a1 = none → comp.length = 0) (z2 : a2 = none → C.length = 0) (z4 : a4 = none → path.length = 0)
    (l0 : R.length ≤ 9223372036854775807) (l1 : comp.length ≤ 9223372036854775807) (l2 : C.length ≤ 9223372036854775807) (l4 : path.length ≤ 9223372036854775807) :
    Calls Try.prog 4 #[.slice a0 R.length c0, .slice a1 comp.length c1, .slice a2 C.length c2, .int .i64 st, .slice a4 path.length c4, .int .i64 v] w fun e w' => e = .returned (.bool true) ∧ Below w.heap.size w w' := by
  have hmm := @run_makeMap Try.prog
  go_enter Try.func4, Try.ntmps4
  go_wp2_with fail
  refine (zzBytes18_any a0 a1 a2 a4 c0 c1 comp.length c2 path.length c4 st v R C w hR hC l0 l1 l2 l4).mono ?_
  rintro e w' ⟨⟨bz, rfl⟩, hw'⟩
  rw [hw']
  clear hw'
  cases bz
  · go_wp2_with fail
    go_ret
    exact ⟨rfl, Below.refl _ _⟩
  go_wp2_with fail
  refine (walkInDomain_any a0 a1 a2 a4 c0 c1 comp.length c2 path.length c4 st v R C w hR hC l0 l1 l2 l4).mono ?_
  rintro e w' ⟨hd, hw'⟩
  rw [hw']
  clear hw'
  rcases hd with rfl | ⟨rfl, D⟩
  · go_wp2_with fail
    go_ret
    exact ⟨rfl, Below.refl _ _⟩
  clear l0 l1 l2 l4
  obtain ⟨d1, d2, d3, d4, d5, d6, d7, d8, d9, d10⟩ := D
  obtain ⟨stn, rfl⟩ := Int.eq_ofNat_of_zero_le d7.1
  go_wp2_with fail
  refine (cloneIntss_any a0 R.length c0 R w rfl hR z0 (by omega) (fun i hi => by have := d5 i hi; omega)).mono ?_
  rintro e w1 ⟨vR, rfl, rv, cpR⟩
  go_wp2_with fail
  refine (cloneInts_any a1 comp.length c1 comp w1 rfl (hcomp.chg cpR.chg (fun _ _ h => h)) z1 (by omega)).mono ?_
  rintro e w2 ⟨vC, rfl, oC, ch2, fr2⟩
  have ch02 := cpR.chg.trans ch2 (fun _ _ h => h)
  go_wp2_with fail
  refine (cloneIntss_any a2 C.length c2 C w2 rfl (hC.chg ch02 (fun _ _ h => h)) z2 (by omega) (fun i hi => by have := d6 i hi; omega)).mono ?_
  rintro e w3 ⟨vK, rfl, kv, cpK⟩
  have ch03 := ch02.trans cpK.chg (fun _ _ h => h)
  go_wp2_with fail
  refine (cloneInts_any a4 path.length c4 path w3 rfl (hpath.chg ch03 (fun _ _ h => h)) z4 (by omega)).mono ?_
  rintro e w4 ⟨vP, rfl, oP, ch4, fr4⟩
  have ch04 := ch03.trans ch4 (fun _ _ h => h)
  have tR : Tab w4 vR rv R := (cpR.tab.new (ch2.trans (cpK.chg.trans ch4 (fun _ _ h => h)) (fun _ _ h => h)))
  have oC4 : OI w4 vC comp := (oC.chg (cpK.chg.trans ch4 (fun _ _ h => h)) (fun _ _ h => h))
  have tK : Tab w4 vK kv C := cpK.tab.new ch4
  clear cpR ch2 fr2 ch02 cpK ch03 fr4 ch4 oC
  obtain ⟨aR, cR, rfl, zR⟩ := tR.shape
  obtain ⟨aC, cC, rfl, -, -, -, -, -⟩ := oC4.shape
  obtain ⟨aK, cK, rfl, zK⟩ := tK.shape
  obtain ⟨aP, cP, rfl, -, -, zP, -, rowP⟩ := oP.shape
  go_wp2_with fail
  obtain ⟨c45, hmb5, hmB5, hm5, sz5⟩ := setup5 w4 (.slice aR R.length cR) (.slice aC comp.length cC) (.slice none 0 0) (.slice none 0 0) (.slice none 0 0) (.int .i64 0) (.slice none 0 0) stn R.length
  generalize ((w4.alloc (.cells #[.slice aR R.length cR, .slice aC comp.length cC, .int .i64 stn, .int .i64 R.length, .slice none 0 0, .slice none 0 0, .slice none 0 0, .int .i64 0, .slice none 0 0] 30)).alloc (.map #[] 0)).alloc (.map #[] 0) = w5 at *
  refine (cloneIntss_any aK C.length cK C w5 rfl (tK.new c45).rowsV zK (by omega) (fun i hi => by have := d6 i hi; omega)).mono ?_
  rintro e w6 ⟨vc, rfl, kv', cpc⟩
  go_wp2_with fail
  refine (cloneInts_any aP path.length cP path w6 rfl (rowP.chg (c45.trans cpc.chg (fun _ _ h => h)) (fun _ _ h => h)) (fun e => (zP e).1) (by omega)).mono ?_
  rintro e w7 ⟨vp, rfl, op7, ch7, fr7⟩
  have tc7 := cpc.tab.new ch7
  have c57 : Chg (fun _ => False) w5 w7 := cpc.chg.trans ch7 (fun _ _ h => h)
  have c47 : Chg (fun _ => False) w4 w7 := c45.trans c57 (fun _ _ h => h)
  have s6 := cpc.chg.size
  have s7 := ch7.size
  have DD : Dom R comp stn := ⟨d1, d2, d9, by omega, fun i => by
    by_cases hi : i < R.length
    · exact d5 i hi
    · simp [List.getD, hi], fun i x hx => by
    by_cases hi : i < R.length
    · exact d10 i hi x hx
    · simp [List.getD, hi] at hx⟩
  have lR := tR.lt
  have lK := cpc.tab.lt
  have G7 : Graph w7 (.slice aR R.length cR) (.slice aC comp.length cC) rv R comp := ⟨(tR.new c47).top, tR.len, (tR.new c47).row, oC4.chg c47 (fun _ _ h => h)⟩
  have GI7 : GraphI (fun b => b < w4.heap.size + 1) (.slice aR R.length cR) (.slice aC comp.length cC) rv := ⟨fun b hb => by have := lR.1 b hb; omega, fun b hb => by have := oC4.lt b hb; omega, fun i b hb => by have := lR.2 i b hb; omega⟩
  have hcvb : ∀ b, vc.ownBlock = some b → w4.heap.size + 3 ≤ b := fun b hb => by have := cpc.tb b hb; omega
  have hpvb : ∀ b, vp.ownBlock = some b → w4.heap.size + 3 ≤ b := fun b hb => by have := fr7 b hb; omega
  have hI7 : ∀ b, b < w4.heap.size + 1 → b < w7.heap.size ∧ ¬ ZF (w4.heap.size + 1) (w4.heap.size + 1 + 1) vp vc b := fun b hb => ⟨by omega, by
    rintro (h | h | h | h)
    · omega
    · omega
    · have := hpvb b h; omega
    · have := hcvb b h; omega⟩
  have hsr7 : ∀ u ∈ kv', ∀ b, u.ownBlock = some b → vp.ownBlock ≠ some b := fun u hu b hb hp => by
    obtain ⟨i, hi, rfl⟩ := List.mem_iff_getElem.1 hu
    have h1 := lK.2 i b (by simpa [List.getD, hi] using hb)
    have h2 := fr7 b hp
    omega
  go_wp2_with fail
  refine (zzwalk_any R comp stn DD (fun b => b < w4.heap.size + 1) (.slice aR R.length cR) (.slice aC comp.length cC) rv vc vp kv' C path (w4.heap.size + 1) (w4.heap.size + 1 + 1) v w7 G7 GI7 tc7.top tc7.len (fun i hi => tc7.row i (by rw [← tc7.len]; exact hi)) op7
    (hmb5.of_block (c57.block _ hmb5.lt (fun h => h))) (hmB5.of_block (c57.block _ hmB5.lt (fun h => h))) (by omega) hI7 hsr7 d8 (by omega) (by omega)).mono ?_
  rintro e w8 ⟨L, rfl, hst8, ch8⟩
  have RD := ready_of (N := 0) (cv := vc) (pv := vp) (kv' := kv') (w0 := w) tR oC4 tK oP (w6 := w7) (by
    refine ⟨c57.cellEq hm5.c0 (fun h => h), c57.cellEq hm5.c1 (fun h => h), c57.cellEq hm5.c2 (fun h => h), c57.cellEq hm5.c3 (fun h => h)⟩) c47 (by omega) hcvb hpvb ch8 hst8
  have hb8 : Below w.heap.size w w8 := by
    have h1 : Chg (fun b => w.heap.size ≤ b) w w8 := (ch04.trans c47 (fun _ _ h => h)).mono (fun _ _ h => h.elim) |>.trans ch8 (fun i hi h => by
      have s4 := ch04.size
      rcases h with h | h | h | h
      · omega
      · omega
      · have := hpvb i h; omega
      · have := hcvb i h; omega)
    exact h1.below (Nat.le_refl _) (fun _ h => h)
  have FC := result_facts DD C path v d8
  clear hst8 ch8 hI7 hsr7 hcvb hpvb GI7 G7 lR lK c47 c57 tc7 cpc op7 ch7 fr7 ch04 tR oC4 tK oP hmb5 hmB5 hm5 c45 sz5 s6 s7 hR hC hcomp hpath z0 z1 z2 z4 zR zK zP rowP hmm
  generalize Pl.wk (ctxOf R comp stn) R.length path (s0 C) v = r at *
  obtain ⟨fd, r⟩ := r
  simp only at FC RD
  go_wp2_with fail
  have hfd := FC.fd
  have hfe2 : (fd == decide (C.length < r.circ.length)) = true := by rw [hfd]; simp
  clear hfd
  have f1 := FC.lo
  have f2 := FC.hi
  have HFC := hideP FC
  clear FC
  generalize r.circ = circ at *
  clear r
  generalize L.cv = cO at *
  generalize L.pv = pO at *
  generalize L.rows = ro at *
  clear L
  obtain ⟨aO, cOc, rfl, -, -, -, -, -⟩ := ownsRow_shape RD.co
  obtain ⟨ap, cp, rfl, -, -, -, -, rowO⟩ := RD.po.shape
  obtain ⟨aPx, cPx, hpe, -, -, -, -, rowP8⟩ := RD.p.shape
  cases hpe
  have hrl := RD.rl
  rw [hrl] at RD ⊢
  have HRD := hideP RD
  clear RD hrl
  refine (sameInts_any ap aP path.length path.length cp cP path path w8 rfl rfl rowO rowP8 (by omega) (by omega)).mono ?_
  rintro e w9 ⟨rfl, q9, rfl⟩
  have hsm : sameI path path = true := by simp [sameI]
  rw [hsm]
  clear hsm rowO rowP8
  have f2i : ¬ (max 64 C.length < circ.length) := by omega
  have HD6 := hideP d6
  have HD5 := hideP d5
  have HDD := hideP DD
  clear d5 d6 d10 DD
  go_upto_if 90 with fail
  go_cut [20] (fun l wc => wc = w8.drewN q9 ∧ ∃ lim : Nat, l = .int .i64 lim ∧ circ.length ≤ lim ∧ lim ≤ 4096)
  case first =>
    by_cases hlim : (64 : Int) < (C.length : Int)
    · go_wp2_with fail
      go_meet
      case rel => exact ⟨rfl, C.length, rfl, by omega, by omega⟩
    · go_wp2_with fail
      go_meet
      case rel => exact ⟨rfl, 64, rfl, by omega, by omega⟩
  case rest =>
    obtain ⟨rfl, lim, rfl, hlim1, hlim2⟩ := hcut
    have b1 : ¬ (circ.length : Int) < (C.length : Int) := by omega
    have b2 : ¬ (lim : Int) < (circ.length : Int) := by omega
    go_upto_if 110 with fail
    go_cut [20] (fun l wc => wc = w8.drewN q9 ∧ l = .int .i64 lim)
    case first =>
      go_wp2_with fail
      go_meet
      case rel => exact ⟨rfl, rfl⟩
    case rest =>
    obtain ⟨rfl, rfl⟩ := hcut
    rename_i K hK
    refine hK _ _ ?_
    exact law4_tail23 _ _ _ _ _ _ _ _ _ _ _ _ _ _ _ _ _ _ _ _ _ _ _ _ _ _ _ _ _ _ _ _ _ _ _ _ _ _ _ _ _ _ _ _ _ _ _ _ _ _ _ _ _ _ _ _ _ _ _ _ _ _ _ _ _ _ _ _ _ _ _ _ _ _ _ _ _ _ _ _ _ _ _ _ _ _ _ _ _ _ _ _ _ _ _ _ _ _ _ _ _ _ _ _ _ _ _ _ _ _ _ _ _ _ _ _ _ _ _ _ _ _ _ _ _ _ _ _ _ _ _ _ _ _ _ _ _ _ _ _ _ _ _ _ _ _ _ _ _ _ _ _ _ _ _ _ _ _ _ _ _ _ _ _ _ _ _ _ _ _ _ _ _ _ _ _ _ _ _ _ _ _ _ _ _ _ _ _ _ _ _ _ _ _ _ _ _ _ _ _ _ _ _ _ _ _ _ _ _ _ _ _ _ _ _ _ _ _ _ _ _ _ _ _ _ _ _ _ _ _ _ _ _ _ _ _ _ _ _ _ _ _ _ _ _ _ _ _ _ _ _ _ _ _ _ _ _ _ _ _ R C circ comp path v stn w4.heap.size aR aC aK aP aO ap cR cC cK cP cOc cp rv kv ro w w8 _ d1 d2 d3 d4 d7 d8 d9 f1 f2 fd HFC HDD HRD hb8 ⟨q9, rfl⟩ HD5 HD6

end Go.Proofs.Qxb6601556a
