/-
  counters.addWords 32, o's fields as wide as c's.
-/
import Derived.Test.Qxb6601640aMg
namespace Go.Proofs.Qxb6601640a
open Go.RowKit
set_option linter.unusedVariables false
set_option linter.unusedSimpArgs false

/-- What addWords leaves: it stopped at word ts. -/
def AWr (W p : Nat) (lc : List Nat) (y : Nat → Nat) (g t0 t1 : Nat) (w : World) (r : Ending) (w' : World) : Prop :=
  ∃ ts, r = .returned (.tuple #[.int .i64 ((ts * p : Nat) : Int), .int .i64 ((fil W p lc y t0 (ts - t0) : Nat) : Int)]) ∧ t0 ≤ ts ∧ ts ≤ t1 ∧ (∀ k, t0 ≤ k → k < ts → Fits W p (lc.getD k 0) (y k)) ∧ (ts < t1 → ¬ Fits W p (lc.getD ts 0) (y ts)) ∧ OBk w' g (mg lc y t0 ts) ∧ Chg (fun b => b = g) w w'
/-- o's word for c's word t, of the same width, dd words on. -/
def ysame (lo : List Nat) (dd : Int) (t : Nat) : Nat := lo.getD ((t : Int) + dd).toNat 0
theorem ysame_lt {lo : List Nat} (h : WB lo) (dd : Int) (t : Nat) : ysame lo dd t < 18446744073709551616 := by
  unfold ysame
  by_cases hk : ((t : Int) + dd).toNat < lo.length
  · exact h _ hk
  · simp [List.getD, List.getElem?_eq_none (by omega : lo.length ≤ ((t : Int) + dd).toNat)]

/-- The memory behind 'f := c.fields()'. -/
theorem aw_setup (w : World) (q : Nat) (O : Obj) : Chg (fun _ => False) w (((w.drewN q).alloc O).alloc O) ∧ (((w.drewN q).alloc O).alloc O).heap[w.heap.size + 1]? = some O := by
  refine ⟨(((Chg.refl _ w).drewN q).alloc O).alloc O, ?_⟩
  have := heap_alloc_new ((w.drewN q).alloc O) O
  simpa using this

set_option maxRecDepth 100000 in
set_option maxHeartbeats 4000000 in
theorem addWords_same (c o g go : Nat) (lc lo : List Nat) (full b pl W p B T : Nat) (t0 t1 e : Nat) (dd ai ad : Int) (hai : ai = (t0 : Int) * (p : Int)) (had : ad = dd * (p : Int)) (hL : Lay full b pl W) (hF : Fld b W p B T) (w : World)
    (hB : Box w c (.slice (some ⟨g, 0, none⟩) lc.length lc.length) full b pl) (hBo : Box w o (.slice (some ⟨go, 0, none⟩) lo.length lo.length) full b pl) (ho : OBk w g lc) (hoo : OBk w go lo) (hX : WB lc) (hXo : WB lo)
    (hal : go = g → lo = lc ∧ dd = 0) (hl : lc.length ≤ 100000000) (hlo : lo.length ≤ 100000000) (h01 : t0 < t1) (ht1 : t1 ≤ lc.length) (he1 : (t1 - 1) * p < e) (he2 : e ≤ t1 * p) (hd0 : 0 ≤ (t0 : Int) + dd) (hd1 : (t1 : Int) + dd ≤ (lo.length : Int)) :
    Calls Try.prog 32 #[.pointer (some ⟨c, 0, none⟩), .pointer (some ⟨o, 0, none⟩), .int .i64 ai, .int .i64 e, .int .i64 ad] w fun r w' => AWr W p lc (ysame lo dd) g t0 t1 w r w' := by
  obtain ⟨c0, c1, c2, c3⟩ := hB.cells
  obtain ⟨o0, o1, o2, o3⟩ := hBo.cells
  have hfl := fun q => fields_any c _ full b pl W p B T hL hF (w.drewN q) hB
  have hbl := hB.lt
  have hol := hBo.lt
  unfold FV FO at hfl
  obtain ⟨f, hf⟩ : ∃ f : Nat, (t0 : Int) + dd = (f : Int) := ⟨((t0 : Int) + dd).toNat, by omega⟩
  have D := hF.wd
  have hpop := fun x y => pop_newly hF x y
  have hyk : ∀ k, ysame lo dd (t0 + k) = lo.getD (f + k) 0 := fun k => by unfold ysame; congr 1; omega
  have HYL := hideP (fun t => ysame_lt hXo dd t)
  have HYK := hideP hyk
  have HAL := hideP hal
  have HO := hideP ho
  have HOO := hideP hoo
  have HD := hideP D
  have HPOP := hideP hpop
  have hgl := ho.lt
  have hgol := hoo.lt
  have hfk : f + (t1 - t0) ≤ lo.length := by omega
  clear D hpop hyk hal
  generalize hyy : ysame lo dd = y at *
  clear hyy
  obtain ⟨-, rfl, rfl⟩ := hL
  rcases hF with ⟨rfl, rfl, rfl, rfl, rfl⟩ | ⟨rfl, rfl, rfl, rfl, rfl⟩ | ⟨rfl, rfl, rfl, rfl, rfl⟩ | ⟨rfl, rfl, rfl, rfl, rfl⟩
  · have e1 : bits BinOp.and IntKind.u8 3 3 = 3 := by decide
    have q1 : ((e : Int) - 1) / 8 = (t1 : Int) - 1 := by omega
    have q2 : ad / 8 = dd := by omega
    have q3 : ai / 8 = (t0 : Int) := by omega
    clear hai had
    go_enter Try.func32, Try.ntmps32
    go_wp2_with fail
    go_quiet (fail)
    go_wp2_with fail
    refine (hfl nq).mono ?_
    rintro r w1 ⟨rfl, rfl⟩
    go_wp2_with fail
    obtain ⟨hc1, hfb⟩ := aw_setup w nq (.cells #[.int .u64 72340172838076673, .int .u64 9259542123273814144, .int .u64 7, .int .u64 56] 57)
    generalize (((w.drewN nq).alloc (.cells #[.int .u64 72340172838076673, .int .u64 9259542123273814144, .int .u64 7, .int .u64 56] 57)).alloc (.cells #[.int .u64 72340172838076673, .int .u64 9259542123273814144, .int .u64 7, .int .u64 56] 57)) = w1 at *
    have c2' := hc1.cellEq c2 (fun h => h)
    have o2' := hc1.cellEq o2 (fun h => h)
    have o0' := hc1.cellEq o0 (fun h => h)
    clear hfl o2 o3 o1 c1 c3 c0 c2 o0
    go_quiet (fail)
    go_wp2_with fail
    have hc2 : Chg (fun _ => False) w (w1.drewN nq) := hc1.drewN nq
    have hfb2 : (w1.drewN nq).heap[w.heap.size + 1]? = some (.cells #[.int .u64 72340172838076673, .int .u64 9259542123273814144, .int .u64 7, .int .u64 56] 57) := hfb
    clear hc1 hfb c2' o2' o0'
    generalize w1.drewN nq = w2 at *
    go_loopw [11, 70] (fun fv i wr => ∃ k : Nat, k ≤ t1 - t0 ∧ i = .int .i64 k ∧ fv = .int .i64 ((fil 8 8 lc y t0 k : Nat) : Int) ∧ Hid (OBk wr g (mg lc y t0 (t0 + k))) ∧ Hid (Chg (fun b => b = g) w wr) ∧ Hid (wr.heap[w.heap.size + 1]? = some (.cells #[.int .u64 72340172838076673, .int .u64 9259542123273814144, .int .u64 7, .int .u64 56] 57)) ∧ Hid (w.heap.size + 1 < wr.heap.size) ∧ Hid (∀ k', t0 ≤ k' → k' < t0 + k → Fits 8 8 (lc.getD k' 0) (y k'))) (fun _ i _ => t1 - t0 - (intOf i).toNat)
    case atStart =>
      refine ⟨0, Nat.zero_le _, rfl, rfl, ?_, ?_, hfb2, ?_, ?_⟩
      · rw [mg_start _ _ _ _ (by omega)]; exact HO.out.chg hc2 (fun h => h)
      · exact hc2.mono (fun _ _ h => h.elim)
      · rcases Nat.lt_or_ge (w.heap.size + 1) w2.heap.size with h | h
        · exact h
        · rw [Array.getElem?_eq_none h] at hfb2; cases hfb2
      · intro k' h1 h2; omega
    case round =>
      obtain ⟨k, hk, rfl, rfl, HOk, HCk, HFk, HSk, HTk⟩ := hrel
      by_cases hlt : k < t1 - t0
      · have hti : (k : Int) < ((t1 - t0 : Nat) : Int) := by omega
        have hcy : wr.cell? ⟨go, f + k, none⟩ = some (.int .u64 ((y (t0 + k) : Nat) : Int)) := by
          rw [HYK.out k]
          by_cases hgg : go = g
          · obtain ⟨e1, e2⟩ := HAL.out hgg
            have := HOk.out.cell (t0 + k) (by rw [mg_len]; omega)
            rw [mg_get _ _ _ _ _ (by omega), if_neg (by omega)] at this
            rw [hgg, e1, show f = t0 by omega]
            exact this
          · exact (HOO.out.chg HCk.out hgg).cell (f + k) (by omega)
        have hyl := HYL.out (t0 + k)
        have k0 : wr.cell? ⟨w.heap.size + 1, 0, none⟩ = some (.int .u64 72340172838076673) := by simp [World.cell?, HFk.out]
        have k1 : wr.cell? ⟨w.heap.size + 1, 1, none⟩ = some (.int .u64 9259542123273814144) := by simp [World.cell?, HFk.out]
        have k2 : wr.cell? ⟨w.heap.size + 1, 2, none⟩ = some (.int .u64 7) := by simp [World.cell?, HFk.out]
        have k3 : wr.cell? ⟨w.heap.size + 1, 3, none⟩ = some (.int .u64 56) := by simp [World.cell?, HFk.out]
        have hmx : (mg lc y t0 (t0 + k)).getD (t0 + k) 0 = lc.getD (t0 + k) 0 := by rw [mg_get _ _ _ _ _ (by omega), if_neg (by omega)]
        have hwb := mg_wb HD.out.wp hX HYL.out HTk.out
        have hml : t0 + k < (mg lc y t0 (t0 + k)).length := by rw [mg_len]; omega
        by_cases hfit : Fits 8 8 (lc.getD (t0 + k) 0) (y (t0 + k))
        · have hca := add_fits HD.out (d := 7) (u := 56) g (t1 - t0) (lc.length - t0) t0 k (y (t0 + k)) (mg lc y t0 (t0 + k)) wr HOk.out hml hlt (by omega) hwb hyl (by rw [hmx]; exact hfit)
          rw [hmx, mg_set _ _ _ _ (by omega) (by omega)] at hca
          unfold FV at hca
          have hcn := count_any (newly 9259542123273814144 (lc.getD (t0 + k) 0) (y (t0 + k))) 72340172838076673 9259542123273814144 8 _ (by decide) (by decide) (hn := HPOP.out _ _) (hn8 := Nat.le_trans (newc_le _ _ _ _) (by decide))
          unfold FV FO at hcn
          have hnne : (((newly 9259542123273814144 (lc.getD (t0 + k) 0) (y (t0 + k)) : Nat) : Int) == 18446744073709551615) = false := by
            have := newly_ne HD.out (lc.getD (t0 + k) 0) (y (t0 + k))
            rw [beq_eq_false_iff_ne]; omega
          have hfs : fil 8 8 lc y t0 (k + 1) = fil 8 8 lc y t0 k + newc 8 8 (lc.getD (t0 + k) 0) (y (t0 + k)) := rfl
          have hfl1 := fil_le 8 8 (by decide) lc y t0 (k + 1)
          have HFS := hideP hfs
          have hfb1 : fil 8 8 lc y t0 k + newc 8 8 (lc.getD (t0 + k) 0) (y (t0 + k)) ≤ 8 * (k + 1) := hfl1
          clear hfs hfl1 hwb hml hmx
          have HFIT := hideP hfit
          clear hfit
          have htt : t0 + k + 1 = t0 + (k + 1) := by omega
          rw [htt] at hca
          clear htt
          generalize newly 9259542123273814144 (lc.getD (t0 + k) 0) (y (t0 + k)) = nw at *
          generalize newc 8 8 (lc.getD (t0 + k) 0) (y (t0 + k)) = nc at *
          generalize fil 8 8 lc y t0 k = fk at *
          go_wp2_with fail
          refine hca.mono ?_
          rintro r w3 ⟨rfl, ob3, ch3⟩
          have hs3 := ch3.size
          have HS := HSk.out
          have hF3 : w3.heap[w.heap.size + 1]? = some (.cells #[.int .u64 72340172838076673, .int .u64 9259542123273814144, .int .u64 7, .int .u64 56] 57) := (ch3.block _ HS (by show ¬ (w.heap.size + 1 = g); omega)).trans HFk.out
          have m0 : w3.cell? ⟨w.heap.size + 1, 0, none⟩ = some (.int .u64 72340172838076673) := by simp [World.cell?, hF3]
          have m1 : w3.cell? ⟨w.heap.size + 1, 1, none⟩ = some (.int .u64 9259542123273814144) := by simp [World.cell?, hF3]
          have m2 : w3.cell? ⟨w.heap.size + 1, 2, none⟩ = some (.int .u64 7) := by simp [World.cell?, hF3]
          have m3 : w3.cell? ⟨w.heap.size + 1, 3, none⟩ = some (.int .u64 56) := by simp [World.cell?, hF3]
          have H3 := hideP hF3
          have HO3 := hideP ob3
          have HC3 := hideP (HCk.out.trans ch3 (fun _ _ h => h))
          clear hca k0 k1 k2 k3 hcy hF3 ob3 ch3
          go_wp2_with fail
          refine (hcn w3).mono ?_
          rintro r w4 ⟨rfl, hw4⟩
          have hc4 : Chg (fun _ => False) w3 w4 := by rw [hw4]; exact (Chg.refl _ w3).alloc _
          clear hw4 hcn m0 m1 m2 m3
          go_wp2_with fail
          go_roundw
          case rel =>
            refine ⟨k + 1, hlt, by go_num, ?_, HO3.out.chg hc4 (fun h => h), HC3.out.trans hc4 (fun _ _ h => h.elim), ?_, ?_, ?_⟩
            · rw [HFS.out]; simp
            · exact (hc4.block _ (by omega) (fun h => h)).trans H3.out
            · have := hc4.size
              show w.heap.size + 1 < w4.heap.size
              omega
            · intro k' h1 h2
              by_cases hk' : k' = t0 + k
              · rw [hk']; exact HFIT.out
              · exact HTk.out k' h1 (by omega)
          case measure => simp [intOf]; omega
        · have hca := add_over HD.out (d := 7) (u := 56) g (t1 - t0) (lc.length - t0) t0 k (y (t0 + k)) (mg lc y t0 (t0 + k)) wr HOk.out hml hlt (by omega) hwb hyl (by rw [hmx]; exact hfit)
          unfold FV at hca
          have HFIT := hideP hfit
          clear hfit hwb hml hmx
          have hfl0 := fil_le 8 8 (by decide) lc y t0 k
          generalize hfk0 : fil 8 8 lc y t0 k = fk at *
          have HFK := hideP hfk0
          clear hfk0
          go_wp2_with fail
          refine hca.mono ?_
          rintro r w3 ⟨rfl, ch3⟩
          clear hca k0 k1 k2 k3 hcy
          go_wp2_with fail
          go_ret2
          refine ⟨t0 + k, ?_, by omega, by omega, HTk.out, fun _ => HFIT.out, HOk.out.chg ch3 (fun h => h), HCk.out.trans ch3 (fun _ _ h => h.elim)⟩
          rw [show t0 + k - t0 = k by omega, HFK.out, show (((t0 + k) * 8 : Nat) : Int) = ((t0 : Int) + (k : Int)) * 8 by omega]
          first | rfl | (rw [Int.mul_one]; rfl)
      · have hti : ¬ ((k : Int) < ((t1 - t0 : Nat) : Int)) := by omega
        obtain rfl : k = t1 - t0 := by omega
        have hfl0 := fil_le 8 8 (by decide) lc y t0 (t1 - t0)
        generalize hfk0 : fil 8 8 lc y t0 (t1 - t0) = fk at *
        have HFK := hideP hfk0
        clear hfk0
        go_wp2_with fail
        go_ret2
        have htt : t0 + (t1 - t0) = t1 := by omega
        have o1 := HOk.out
        have o2 := HTk.out
        rw [htt] at o1 o2
        refine ⟨t1, ?_, by omega, Nat.le_refl _, o2, fun h => absurd h (Nat.lt_irrefl _), o1, HCk.out⟩
        rw [HFK.out, show ((t1 * 8 : Nat) : Int) = ((t1 : Int) - 1 + 1) * 8 by omega]
        first | rfl | (simp; done) | (simp; rfl)
  · have e1 : bits BinOp.and IntKind.u8 2 3 = 2 := by decide
    have q1 : ((e : Int) - 1) / 4 = (t1 : Int) - 1 := by omega
    have q2 : ad / 4 = dd := by omega
    have q3 : ai / 4 = (t0 : Int) := by omega
    clear hai had
    go_enter Try.func32, Try.ntmps32
    go_wp2_with fail
    go_quiet (fail)
    go_wp2_with fail
    refine (hfl nq).mono ?_
    rintro r w1 ⟨rfl, rfl⟩
    go_wp2_with fail
    obtain ⟨hc1, hfb⟩ := aw_setup w nq (.cells #[.int .u64 281479271743489, .int .u64 9223512776490647552, .int .u64 15, .int .u64 48] 57)
    generalize (((w.drewN nq).alloc (.cells #[.int .u64 281479271743489, .int .u64 9223512776490647552, .int .u64 15, .int .u64 48] 57)).alloc (.cells #[.int .u64 281479271743489, .int .u64 9223512776490647552, .int .u64 15, .int .u64 48] 57)) = w1 at *
    have c2' := hc1.cellEq c2 (fun h => h)
    have o2' := hc1.cellEq o2 (fun h => h)
    have o0' := hc1.cellEq o0 (fun h => h)
    clear hfl o2 o3 o1 c1 c3 c0 c2 o0
    go_quiet (fail)
    go_wp2_with fail
    have hc2 : Chg (fun _ => False) w (w1.drewN nq) := hc1.drewN nq
    have hfb2 : (w1.drewN nq).heap[w.heap.size + 1]? = some (.cells #[.int .u64 281479271743489, .int .u64 9223512776490647552, .int .u64 15, .int .u64 48] 57) := hfb
    clear hc1 hfb c2' o2' o0'
    generalize w1.drewN nq = w2 at *
    go_loopw [11, 70] (fun fv i wr => ∃ k : Nat, k ≤ t1 - t0 ∧ i = .int .i64 k ∧ fv = .int .i64 ((fil 16 4 lc y t0 k : Nat) : Int) ∧ Hid (OBk wr g (mg lc y t0 (t0 + k))) ∧ Hid (Chg (fun b => b = g) w wr) ∧ Hid (wr.heap[w.heap.size + 1]? = some (.cells #[.int .u64 281479271743489, .int .u64 9223512776490647552, .int .u64 15, .int .u64 48] 57)) ∧ Hid (w.heap.size + 1 < wr.heap.size) ∧ Hid (∀ k', t0 ≤ k' → k' < t0 + k → Fits 16 4 (lc.getD k' 0) (y k'))) (fun _ i _ => t1 - t0 - (intOf i).toNat)
    case atStart =>
      refine ⟨0, Nat.zero_le _, rfl, rfl, ?_, ?_, hfb2, ?_, ?_⟩
      · rw [mg_start _ _ _ _ (by omega)]; exact HO.out.chg hc2 (fun h => h)
      · exact hc2.mono (fun _ _ h => h.elim)
      · rcases Nat.lt_or_ge (w.heap.size + 1) w2.heap.size with h | h
        · exact h
        · rw [Array.getElem?_eq_none h] at hfb2; cases hfb2
      · intro k' h1 h2; omega
    case round =>
      obtain ⟨k, hk, rfl, rfl, HOk, HCk, HFk, HSk, HTk⟩ := hrel
      by_cases hlt : k < t1 - t0
      · have hti : (k : Int) < ((t1 - t0 : Nat) : Int) := by omega
        have hcy : wr.cell? ⟨go, f + k, none⟩ = some (.int .u64 ((y (t0 + k) : Nat) : Int)) := by
          rw [HYK.out k]
          by_cases hgg : go = g
          · obtain ⟨e1, e2⟩ := HAL.out hgg
            have := HOk.out.cell (t0 + k) (by rw [mg_len]; omega)
            rw [mg_get _ _ _ _ _ (by omega), if_neg (by omega)] at this
            rw [hgg, e1, show f = t0 by omega]
            exact this
          · exact (HOO.out.chg HCk.out hgg).cell (f + k) (by omega)
        have hyl := HYL.out (t0 + k)
        have k0 : wr.cell? ⟨w.heap.size + 1, 0, none⟩ = some (.int .u64 281479271743489) := by simp [World.cell?, HFk.out]
        have k1 : wr.cell? ⟨w.heap.size + 1, 1, none⟩ = some (.int .u64 9223512776490647552) := by simp [World.cell?, HFk.out]
        have k2 : wr.cell? ⟨w.heap.size + 1, 2, none⟩ = some (.int .u64 15) := by simp [World.cell?, HFk.out]
        have k3 : wr.cell? ⟨w.heap.size + 1, 3, none⟩ = some (.int .u64 48) := by simp [World.cell?, HFk.out]
        have hmx : (mg lc y t0 (t0 + k)).getD (t0 + k) 0 = lc.getD (t0 + k) 0 := by rw [mg_get _ _ _ _ _ (by omega), if_neg (by omega)]
        have hwb := mg_wb HD.out.wp hX HYL.out HTk.out
        have hml : t0 + k < (mg lc y t0 (t0 + k)).length := by rw [mg_len]; omega
        by_cases hfit : Fits 16 4 (lc.getD (t0 + k) 0) (y (t0 + k))
        · have hca := add_fits HD.out (d := 15) (u := 48) g (t1 - t0) (lc.length - t0) t0 k (y (t0 + k)) (mg lc y t0 (t0 + k)) wr HOk.out hml hlt (by omega) hwb hyl (by rw [hmx]; exact hfit)
          rw [hmx, mg_set _ _ _ _ (by omega) (by omega)] at hca
          unfold FV at hca
          have hcn := count_any (newly 9223512776490647552 (lc.getD (t0 + k) 0) (y (t0 + k))) 281479271743489 9223512776490647552 16 _ (by decide) (by decide) (hn := HPOP.out _ _) (hn8 := Nat.le_trans (newc_le _ _ _ _) (by decide))
          unfold FV FO at hcn
          have hnne : (((newly 9223512776490647552 (lc.getD (t0 + k) 0) (y (t0 + k)) : Nat) : Int) == 18446744073709551615) = false := by
            have := newly_ne HD.out (lc.getD (t0 + k) 0) (y (t0 + k))
            rw [beq_eq_false_iff_ne]; omega
          have hfs : fil 16 4 lc y t0 (k + 1) = fil 16 4 lc y t0 k + newc 16 4 (lc.getD (t0 + k) 0) (y (t0 + k)) := rfl
          have hfl1 := fil_le 16 4 (by decide) lc y t0 (k + 1)
          have HFS := hideP hfs
          have hfb1 : fil 16 4 lc y t0 k + newc 16 4 (lc.getD (t0 + k) 0) (y (t0 + k)) ≤ 8 * (k + 1) := hfl1
          clear hfs hfl1 hwb hml hmx
          have HFIT := hideP hfit
          clear hfit
          have htt : t0 + k + 1 = t0 + (k + 1) := by omega
          rw [htt] at hca
          clear htt
          generalize newly 9223512776490647552 (lc.getD (t0 + k) 0) (y (t0 + k)) = nw at *
          generalize newc 16 4 (lc.getD (t0 + k) 0) (y (t0 + k)) = nc at *
          generalize fil 16 4 lc y t0 k = fk at *
          go_wp2_with fail
          refine hca.mono ?_
          rintro r w3 ⟨rfl, ob3, ch3⟩
          have hs3 := ch3.size
          have HS := HSk.out
          have hF3 : w3.heap[w.heap.size + 1]? = some (.cells #[.int .u64 281479271743489, .int .u64 9223512776490647552, .int .u64 15, .int .u64 48] 57) := (ch3.block _ HS (by show ¬ (w.heap.size + 1 = g); omega)).trans HFk.out
          have m0 : w3.cell? ⟨w.heap.size + 1, 0, none⟩ = some (.int .u64 281479271743489) := by simp [World.cell?, hF3]
          have m1 : w3.cell? ⟨w.heap.size + 1, 1, none⟩ = some (.int .u64 9223512776490647552) := by simp [World.cell?, hF3]
          have m2 : w3.cell? ⟨w.heap.size + 1, 2, none⟩ = some (.int .u64 15) := by simp [World.cell?, hF3]
          have m3 : w3.cell? ⟨w.heap.size + 1, 3, none⟩ = some (.int .u64 48) := by simp [World.cell?, hF3]
          have H3 := hideP hF3
          have HO3 := hideP ob3
          have HC3 := hideP (HCk.out.trans ch3 (fun _ _ h => h))
          clear hca k0 k1 k2 k3 hcy hF3 ob3 ch3
          go_wp2_with fail
          refine (hcn w3).mono ?_
          rintro r w4 ⟨rfl, hw4⟩
          have hc4 : Chg (fun _ => False) w3 w4 := by rw [hw4]; exact (Chg.refl _ w3).alloc _
          clear hw4 hcn m0 m1 m2 m3
          go_wp2_with fail
          go_roundw
          case rel =>
            refine ⟨k + 1, hlt, by go_num, ?_, HO3.out.chg hc4 (fun h => h), HC3.out.trans hc4 (fun _ _ h => h.elim), ?_, ?_, ?_⟩
            · rw [HFS.out]; simp
            · exact (hc4.block _ (by omega) (fun h => h)).trans H3.out
            · have := hc4.size
              show w.heap.size + 1 < w4.heap.size
              omega
            · intro k' h1 h2
              by_cases hk' : k' = t0 + k
              · rw [hk']; exact HFIT.out
              · exact HTk.out k' h1 (by omega)
          case measure => simp [intOf]; omega
        · have hca := add_over HD.out (d := 15) (u := 48) g (t1 - t0) (lc.length - t0) t0 k (y (t0 + k)) (mg lc y t0 (t0 + k)) wr HOk.out hml hlt (by omega) hwb hyl (by rw [hmx]; exact hfit)
          unfold FV at hca
          have HFIT := hideP hfit
          clear hfit hwb hml hmx
          have hfl0 := fil_le 16 4 (by decide) lc y t0 k
          generalize hfk0 : fil 16 4 lc y t0 k = fk at *
          have HFK := hideP hfk0
          clear hfk0
          go_wp2_with fail
          refine hca.mono ?_
          rintro r w3 ⟨rfl, ch3⟩
          clear hca k0 k1 k2 k3 hcy
          go_wp2_with fail
          go_ret2
          refine ⟨t0 + k, ?_, by omega, by omega, HTk.out, fun _ => HFIT.out, HOk.out.chg ch3 (fun h => h), HCk.out.trans ch3 (fun _ _ h => h.elim)⟩
          rw [show t0 + k - t0 = k by omega, HFK.out, show (((t0 + k) * 4 : Nat) : Int) = ((t0 : Int) + (k : Int)) * 4 by omega]
          first | rfl | (rw [Int.mul_one]; rfl)
      · have hti : ¬ ((k : Int) < ((t1 - t0 : Nat) : Int)) := by omega
        obtain rfl : k = t1 - t0 := by omega
        have hfl0 := fil_le 16 4 (by decide) lc y t0 (t1 - t0)
        generalize hfk0 : fil 16 4 lc y t0 (t1 - t0) = fk at *
        have HFK := hideP hfk0
        clear hfk0
        go_wp2_with fail
        go_ret2
        have htt : t0 + (t1 - t0) = t1 := by omega
        have o1 := HOk.out
        have o2 := HTk.out
        rw [htt] at o1 o2
        refine ⟨t1, ?_, by omega, Nat.le_refl _, o2, fun h => absurd h (Nat.lt_irrefl _), o1, HCk.out⟩
        rw [HFK.out, show ((t1 * 4 : Nat) : Int) = ((t1 : Int) - 1 + 1) * 4 by omega]
        first | rfl | (simp; done) | (simp; rfl)
  · have e1 : bits BinOp.and IntKind.u8 1 3 = 1 := by decide
    have q1 : ((e : Int) - 1) / 2 = (t1 : Int) - 1 := by omega
    have q2 : ad / 2 = dd := by omega
    have q3 : ai / 2 = (t0 : Int) := by omega
    clear hai had
    go_enter Try.func32, Try.ntmps32
    go_wp2_with fail
    go_quiet (fail)
    go_wp2_with fail
    refine (hfl nq).mono ?_
    rintro r w1 ⟨rfl, rfl⟩
    go_wp2_with fail
    obtain ⟨hc1, hfb⟩ := aw_setup w nq (.cells #[.int .u64 4294967297, .int .u64 9223372039002259456, .int .u64 31, .int .u64 32] 57)
    generalize (((w.drewN nq).alloc (.cells #[.int .u64 4294967297, .int .u64 9223372039002259456, .int .u64 31, .int .u64 32] 57)).alloc (.cells #[.int .u64 4294967297, .int .u64 9223372039002259456, .int .u64 31, .int .u64 32] 57)) = w1 at *
    have c2' := hc1.cellEq c2 (fun h => h)
    have o2' := hc1.cellEq o2 (fun h => h)
    have o0' := hc1.cellEq o0 (fun h => h)
    clear hfl o2 o3 o1 c1 c3 c0 c2 o0
    go_quiet (fail)
    go_wp2_with fail
    have hc2 : Chg (fun _ => False) w (w1.drewN nq) := hc1.drewN nq
    have hfb2 : (w1.drewN nq).heap[w.heap.size + 1]? = some (.cells #[.int .u64 4294967297, .int .u64 9223372039002259456, .int .u64 31, .int .u64 32] 57) := hfb
    clear hc1 hfb c2' o2' o0'
    generalize w1.drewN nq = w2 at *
    go_loopw [11, 70] (fun fv i wr => ∃ k : Nat, k ≤ t1 - t0 ∧ i = .int .i64 k ∧ fv = .int .i64 ((fil 32 2 lc y t0 k : Nat) : Int) ∧ Hid (OBk wr g (mg lc y t0 (t0 + k))) ∧ Hid (Chg (fun b => b = g) w wr) ∧ Hid (wr.heap[w.heap.size + 1]? = some (.cells #[.int .u64 4294967297, .int .u64 9223372039002259456, .int .u64 31, .int .u64 32] 57)) ∧ Hid (w.heap.size + 1 < wr.heap.size) ∧ Hid (∀ k', t0 ≤ k' → k' < t0 + k → Fits 32 2 (lc.getD k' 0) (y k'))) (fun _ i _ => t1 - t0 - (intOf i).toNat)
    case atStart =>
      refine ⟨0, Nat.zero_le _, rfl, rfl, ?_, ?_, hfb2, ?_, ?_⟩
      · rw [mg_start _ _ _ _ (by omega)]; exact HO.out.chg hc2 (fun h => h)
      · exact hc2.mono (fun _ _ h => h.elim)
      · rcases Nat.lt_or_ge (w.heap.size + 1) w2.heap.size with h | h
        · exact h
        · rw [Array.getElem?_eq_none h] at hfb2; cases hfb2
      · intro k' h1 h2; omega
    case round =>
      obtain ⟨k, hk, rfl, rfl, HOk, HCk, HFk, HSk, HTk⟩ := hrel
      by_cases hlt : k < t1 - t0
      · have hti : (k : Int) < ((t1 - t0 : Nat) : Int) := by omega
        have hcy : wr.cell? ⟨go, f + k, none⟩ = some (.int .u64 ((y (t0 + k) : Nat) : Int)) := by
          rw [HYK.out k]
          by_cases hgg : go = g
          · obtain ⟨e1, e2⟩ := HAL.out hgg
            have := HOk.out.cell (t0 + k) (by rw [mg_len]; omega)
            rw [mg_get _ _ _ _ _ (by omega), if_neg (by omega)] at this
            rw [hgg, e1, show f = t0 by omega]
            exact this
          · exact (HOO.out.chg HCk.out hgg).cell (f + k) (by omega)
        have hyl := HYL.out (t0 + k)
        have k0 : wr.cell? ⟨w.heap.size + 1, 0, none⟩ = some (.int .u64 4294967297) := by simp [World.cell?, HFk.out]
        have k1 : wr.cell? ⟨w.heap.size + 1, 1, none⟩ = some (.int .u64 9223372039002259456) := by simp [World.cell?, HFk.out]
        have k2 : wr.cell? ⟨w.heap.size + 1, 2, none⟩ = some (.int .u64 31) := by simp [World.cell?, HFk.out]
        have k3 : wr.cell? ⟨w.heap.size + 1, 3, none⟩ = some (.int .u64 32) := by simp [World.cell?, HFk.out]
        have hmx : (mg lc y t0 (t0 + k)).getD (t0 + k) 0 = lc.getD (t0 + k) 0 := by rw [mg_get _ _ _ _ _ (by omega), if_neg (by omega)]
        have hwb := mg_wb HD.out.wp hX HYL.out HTk.out
        have hml : t0 + k < (mg lc y t0 (t0 + k)).length := by rw [mg_len]; omega
        by_cases hfit : Fits 32 2 (lc.getD (t0 + k) 0) (y (t0 + k))
        · have hca := add_fits HD.out (d := 31) (u := 32) g (t1 - t0) (lc.length - t0) t0 k (y (t0 + k)) (mg lc y t0 (t0 + k)) wr HOk.out hml hlt (by omega) hwb hyl (by rw [hmx]; exact hfit)
          rw [hmx, mg_set _ _ _ _ (by omega) (by omega)] at hca
          unfold FV at hca
          have hcn := count_any (newly 9223372039002259456 (lc.getD (t0 + k) 0) (y (t0 + k))) 4294967297 9223372039002259456 32 _ (by decide) (by decide) (hn := HPOP.out _ _) (hn8 := Nat.le_trans (newc_le _ _ _ _) (by decide))
          unfold FV FO at hcn
          have hnne : (((newly 9223372039002259456 (lc.getD (t0 + k) 0) (y (t0 + k)) : Nat) : Int) == 18446744073709551615) = false := by
            have := newly_ne HD.out (lc.getD (t0 + k) 0) (y (t0 + k))
            rw [beq_eq_false_iff_ne]; omega
          have hfs : fil 32 2 lc y t0 (k + 1) = fil 32 2 lc y t0 k + newc 32 2 (lc.getD (t0 + k) 0) (y (t0 + k)) := rfl
          have hfl1 := fil_le 32 2 (by decide) lc y t0 (k + 1)
          have HFS := hideP hfs
          have hfb1 : fil 32 2 lc y t0 k + newc 32 2 (lc.getD (t0 + k) 0) (y (t0 + k)) ≤ 8 * (k + 1) := hfl1
          clear hfs hfl1 hwb hml hmx
          have HFIT := hideP hfit
          clear hfit
          have htt : t0 + k + 1 = t0 + (k + 1) := by omega
          rw [htt] at hca
          clear htt
          generalize newly 9223372039002259456 (lc.getD (t0 + k) 0) (y (t0 + k)) = nw at *
          generalize newc 32 2 (lc.getD (t0 + k) 0) (y (t0 + k)) = nc at *
          generalize fil 32 2 lc y t0 k = fk at *
          go_wp2_with fail
          refine hca.mono ?_
          rintro r w3 ⟨rfl, ob3, ch3⟩
          have hs3 := ch3.size
          have HS := HSk.out
          have hF3 : w3.heap[w.heap.size + 1]? = some (.cells #[.int .u64 4294967297, .int .u64 9223372039002259456, .int .u64 31, .int .u64 32] 57) := (ch3.block _ HS (by show ¬ (w.heap.size + 1 = g); omega)).trans HFk.out
          have m0 : w3.cell? ⟨w.heap.size + 1, 0, none⟩ = some (.int .u64 4294967297) := by simp [World.cell?, hF3]
          have m1 : w3.cell? ⟨w.heap.size + 1, 1, none⟩ = some (.int .u64 9223372039002259456) := by simp [World.cell?, hF3]
          have m2 : w3.cell? ⟨w.heap.size + 1, 2, none⟩ = some (.int .u64 31) := by simp [World.cell?, hF3]
          have m3 : w3.cell? ⟨w.heap.size + 1, 3, none⟩ = some (.int .u64 32) := by simp [World.cell?, hF3]
          have H3 := hideP hF3
          have HO3 := hideP ob3
          have HC3 := hideP (HCk.out.trans ch3 (fun _ _ h => h))
          clear hca k0 k1 k2 k3 hcy hF3 ob3 ch3
          go_wp2_with fail
          refine (hcn w3).mono ?_
          rintro r w4 ⟨rfl, hw4⟩
          have hc4 : Chg (fun _ => False) w3 w4 := by rw [hw4]; exact (Chg.refl _ w3).alloc _
          clear hw4 hcn m0 m1 m2 m3
          go_wp2_with fail
          go_roundw
          case rel =>
            refine ⟨k + 1, hlt, by go_num, ?_, HO3.out.chg hc4 (fun h => h), HC3.out.trans hc4 (fun _ _ h => h.elim), ?_, ?_, ?_⟩
            · rw [HFS.out]; simp
            · exact (hc4.block _ (by omega) (fun h => h)).trans H3.out
            · have := hc4.size
              show w.heap.size + 1 < w4.heap.size
              omega
            · intro k' h1 h2
              by_cases hk' : k' = t0 + k
              · rw [hk']; exact HFIT.out
              · exact HTk.out k' h1 (by omega)
          case measure => simp [intOf]; omega
        · have hca := add_over HD.out (d := 31) (u := 32) g (t1 - t0) (lc.length - t0) t0 k (y (t0 + k)) (mg lc y t0 (t0 + k)) wr HOk.out hml hlt (by omega) hwb hyl (by rw [hmx]; exact hfit)
          unfold FV at hca
          have HFIT := hideP hfit
          clear hfit hwb hml hmx
          have hfl0 := fil_le 32 2 (by decide) lc y t0 k
          generalize hfk0 : fil 32 2 lc y t0 k = fk at *
          have HFK := hideP hfk0
          clear hfk0
          go_wp2_with fail
          refine hca.mono ?_
          rintro r w3 ⟨rfl, ch3⟩
          clear hca k0 k1 k2 k3 hcy
          go_wp2_with fail
          go_ret2
          refine ⟨t0 + k, ?_, by omega, by omega, HTk.out, fun _ => HFIT.out, HOk.out.chg ch3 (fun h => h), HCk.out.trans ch3 (fun _ _ h => h.elim)⟩
          rw [show t0 + k - t0 = k by omega, HFK.out, show (((t0 + k) * 2 : Nat) : Int) = ((t0 : Int) + (k : Int)) * 2 by omega]
          first | rfl | (rw [Int.mul_one]; rfl)
      · have hti : ¬ ((k : Int) < ((t1 - t0 : Nat) : Int)) := by omega
        obtain rfl : k = t1 - t0 := by omega
        have hfl0 := fil_le 32 2 (by decide) lc y t0 (t1 - t0)
        generalize hfk0 : fil 32 2 lc y t0 (t1 - t0) = fk at *
        have HFK := hideP hfk0
        clear hfk0
        go_wp2_with fail
        go_ret2
        have htt : t0 + (t1 - t0) = t1 := by omega
        have o1 := HOk.out
        have o2 := HTk.out
        rw [htt] at o1 o2
        refine ⟨t1, ?_, by omega, Nat.le_refl _, o2, fun h => absurd h (Nat.lt_irrefl _), o1, HCk.out⟩
        rw [HFK.out, show ((t1 * 2 : Nat) : Int) = ((t1 : Int) - 1 + 1) * 2 by omega]
        first | rfl | (simp; done) | (simp; rfl)
  · have e1 : bits BinOp.and IntKind.u8 0 3 = 0 := by decide
    have q1 : ((e : Int) - 1) / 1 = (t1 : Int) - 1 := by omega
    have q2 : ad / 1 = dd := by omega
    have q3 : ai / 1 = (t0 : Int) := by omega
    clear hai had
    go_enter Try.func32, Try.ntmps32
    go_wp2_with fail
    go_quiet (fail)
    go_wp2_with fail
    refine (hfl nq).mono ?_
    rintro r w1 ⟨rfl, rfl⟩
    go_wp2_with fail
    obtain ⟨hc1, hfb⟩ := aw_setup w nq (.cells #[.int .u64 1, .int .u64 9223372036854775808, .int .u64 63, .int .u64 0] 57)
    generalize (((w.drewN nq).alloc (.cells #[.int .u64 1, .int .u64 9223372036854775808, .int .u64 63, .int .u64 0] 57)).alloc (.cells #[.int .u64 1, .int .u64 9223372036854775808, .int .u64 63, .int .u64 0] 57)) = w1 at *
    have c2' := hc1.cellEq c2 (fun h => h)
    have o2' := hc1.cellEq o2 (fun h => h)
    have o0' := hc1.cellEq o0 (fun h => h)
    clear hfl o2 o3 o1 c1 c3 c0 c2 o0
    go_quiet (fail)
    go_wp2_with fail
    have hc2 : Chg (fun _ => False) w (w1.drewN nq) := hc1.drewN nq
    have hfb2 : (w1.drewN nq).heap[w.heap.size + 1]? = some (.cells #[.int .u64 1, .int .u64 9223372036854775808, .int .u64 63, .int .u64 0] 57) := hfb
    clear hc1 hfb c2' o2' o0'
    generalize w1.drewN nq = w2 at *
    go_loopw [11, 70] (fun fv i wr => ∃ k : Nat, k ≤ t1 - t0 ∧ i = .int .i64 k ∧ fv = .int .i64 ((fil 64 1 lc y t0 k : Nat) : Int) ∧ Hid (OBk wr g (mg lc y t0 (t0 + k))) ∧ Hid (Chg (fun b => b = g) w wr) ∧ Hid (wr.heap[w.heap.size + 1]? = some (.cells #[.int .u64 1, .int .u64 9223372036854775808, .int .u64 63, .int .u64 0] 57)) ∧ Hid (w.heap.size + 1 < wr.heap.size) ∧ Hid (∀ k', t0 ≤ k' → k' < t0 + k → Fits 64 1 (lc.getD k' 0) (y k'))) (fun _ i _ => t1 - t0 - (intOf i).toNat)
    case atStart =>
      refine ⟨0, Nat.zero_le _, rfl, rfl, ?_, ?_, hfb2, ?_, ?_⟩
      · rw [mg_start _ _ _ _ (by omega)]; exact HO.out.chg hc2 (fun h => h)
      · exact hc2.mono (fun _ _ h => h.elim)
      · rcases Nat.lt_or_ge (w.heap.size + 1) w2.heap.size with h | h
        · exact h
        · rw [Array.getElem?_eq_none h] at hfb2; cases hfb2
      · intro k' h1 h2; omega
    case round =>
      obtain ⟨k, hk, rfl, rfl, HOk, HCk, HFk, HSk, HTk⟩ := hrel
      by_cases hlt : k < t1 - t0
      · have hti : (k : Int) < ((t1 - t0 : Nat) : Int) := by omega
        have hcy : wr.cell? ⟨go, f + k, none⟩ = some (.int .u64 ((y (t0 + k) : Nat) : Int)) := by
          rw [HYK.out k]
          by_cases hgg : go = g
          · obtain ⟨e1, e2⟩ := HAL.out hgg
            have := HOk.out.cell (t0 + k) (by rw [mg_len]; omega)
            rw [mg_get _ _ _ _ _ (by omega), if_neg (by omega)] at this
            rw [hgg, e1, show f = t0 by omega]
            exact this
          · exact (HOO.out.chg HCk.out hgg).cell (f + k) (by omega)
        have hyl := HYL.out (t0 + k)
        have k0 : wr.cell? ⟨w.heap.size + 1, 0, none⟩ = some (.int .u64 1) := by simp [World.cell?, HFk.out]
        have k1 : wr.cell? ⟨w.heap.size + 1, 1, none⟩ = some (.int .u64 9223372036854775808) := by simp [World.cell?, HFk.out]
        have k2 : wr.cell? ⟨w.heap.size + 1, 2, none⟩ = some (.int .u64 63) := by simp [World.cell?, HFk.out]
        have k3 : wr.cell? ⟨w.heap.size + 1, 3, none⟩ = some (.int .u64 0) := by simp [World.cell?, HFk.out]
        have hmx : (mg lc y t0 (t0 + k)).getD (t0 + k) 0 = lc.getD (t0 + k) 0 := by rw [mg_get _ _ _ _ _ (by omega), if_neg (by omega)]
        have hwb := mg_wb HD.out.wp hX HYL.out HTk.out
        have hml : t0 + k < (mg lc y t0 (t0 + k)).length := by rw [mg_len]; omega
        by_cases hfit : Fits 64 1 (lc.getD (t0 + k) 0) (y (t0 + k))
        · have hca := add_fits HD.out (d := 63) (u := 0) g (t1 - t0) (lc.length - t0) t0 k (y (t0 + k)) (mg lc y t0 (t0 + k)) wr HOk.out hml hlt (by omega) hwb hyl (by rw [hmx]; exact hfit)
          rw [hmx, mg_set _ _ _ _ (by omega) (by omega)] at hca
          unfold FV at hca
          have hcn := count_any (newly 9223372036854775808 (lc.getD (t0 + k) 0) (y (t0 + k))) 1 9223372036854775808 64 _ (by decide) (by decide) (hn := HPOP.out _ _) (hn8 := Nat.le_trans (newc_le _ _ _ _) (by decide))
          unfold FV FO at hcn
          have hnne : (((newly 9223372036854775808 (lc.getD (t0 + k) 0) (y (t0 + k)) : Nat) : Int) == 18446744073709551615) = false := by
            have := newly_ne HD.out (lc.getD (t0 + k) 0) (y (t0 + k))
            rw [beq_eq_false_iff_ne]; omega
          have hfs : fil 64 1 lc y t0 (k + 1) = fil 64 1 lc y t0 k + newc 64 1 (lc.getD (t0 + k) 0) (y (t0 + k)) := rfl
          have hfl1 := fil_le 64 1 (by decide) lc y t0 (k + 1)
          have HFS := hideP hfs
          have hfb1 : fil 64 1 lc y t0 k + newc 64 1 (lc.getD (t0 + k) 0) (y (t0 + k)) ≤ 8 * (k + 1) := hfl1
          clear hfs hfl1 hwb hml hmx
          have HFIT := hideP hfit
          clear hfit
          have htt : t0 + k + 1 = t0 + (k + 1) := by omega
          rw [htt] at hca
          clear htt
          generalize newly 9223372036854775808 (lc.getD (t0 + k) 0) (y (t0 + k)) = nw at *
          generalize newc 64 1 (lc.getD (t0 + k) 0) (y (t0 + k)) = nc at *
          generalize fil 64 1 lc y t0 k = fk at *
          go_wp2_with fail
          refine hca.mono ?_
          rintro r w3 ⟨rfl, ob3, ch3⟩
          have hs3 := ch3.size
          have HS := HSk.out
          have hF3 : w3.heap[w.heap.size + 1]? = some (.cells #[.int .u64 1, .int .u64 9223372036854775808, .int .u64 63, .int .u64 0] 57) := (ch3.block _ HS (by show ¬ (w.heap.size + 1 = g); omega)).trans HFk.out
          have m0 : w3.cell? ⟨w.heap.size + 1, 0, none⟩ = some (.int .u64 1) := by simp [World.cell?, hF3]
          have m1 : w3.cell? ⟨w.heap.size + 1, 1, none⟩ = some (.int .u64 9223372036854775808) := by simp [World.cell?, hF3]
          have m2 : w3.cell? ⟨w.heap.size + 1, 2, none⟩ = some (.int .u64 63) := by simp [World.cell?, hF3]
          have m3 : w3.cell? ⟨w.heap.size + 1, 3, none⟩ = some (.int .u64 0) := by simp [World.cell?, hF3]
          have H3 := hideP hF3
          have HO3 := hideP ob3
          have HC3 := hideP (HCk.out.trans ch3 (fun _ _ h => h))
          clear hca k0 k1 k2 k3 hcy hF3 ob3 ch3
          go_wp2_with fail
          refine (hcn w3).mono ?_
          rintro r w4 ⟨rfl, hw4⟩
          have hc4 : Chg (fun _ => False) w3 w4 := by rw [hw4]; exact (Chg.refl _ w3).alloc _
          clear hw4 hcn m0 m1 m2 m3
          go_wp2_with fail
          go_roundw
          case rel =>
            refine ⟨k + 1, hlt, by go_num, ?_, HO3.out.chg hc4 (fun h => h), HC3.out.trans hc4 (fun _ _ h => h.elim), ?_, ?_, ?_⟩
            · rw [HFS.out]; simp
            · exact (hc4.block _ (by omega) (fun h => h)).trans H3.out
            · have := hc4.size
              show w.heap.size + 1 < w4.heap.size
              omega
            · intro k' h1 h2
              by_cases hk' : k' = t0 + k
              · rw [hk']; exact HFIT.out
              · exact HTk.out k' h1 (by omega)
          case measure => simp [intOf]; omega
        · have hca := add_over HD.out (d := 63) (u := 0) g (t1 - t0) (lc.length - t0) t0 k (y (t0 + k)) (mg lc y t0 (t0 + k)) wr HOk.out hml hlt (by omega) hwb hyl (by rw [hmx]; exact hfit)
          unfold FV at hca
          have HFIT := hideP hfit
          clear hfit hwb hml hmx
          have hfl0 := fil_le 64 1 (by decide) lc y t0 k
          generalize hfk0 : fil 64 1 lc y t0 k = fk at *
          have HFK := hideP hfk0
          clear hfk0
          go_wp2_with fail
          refine hca.mono ?_
          rintro r w3 ⟨rfl, ch3⟩
          clear hca k0 k1 k2 k3 hcy
          go_wp2_with fail
          go_ret2
          refine ⟨t0 + k, ?_, by omega, by omega, HTk.out, fun _ => HFIT.out, HOk.out.chg ch3 (fun h => h), HCk.out.trans ch3 (fun _ _ h => h.elim)⟩
          rw [show t0 + k - t0 = k by omega, HFK.out, show (((t0 + k) * 1 : Nat) : Int) = ((t0 : Int) + (k : Int)) * 1 by omega]
          first | rfl | (rw [Int.mul_one]; rfl)
      · have hti : ¬ ((k : Int) < ((t1 - t0 : Nat) : Int)) := by omega
        obtain rfl : k = t1 - t0 := by omega
        have hfl0 := fil_le 64 1 (by decide) lc y t0 (t1 - t0)
        generalize hfk0 : fil 64 1 lc y t0 (t1 - t0) = fk at *
        have HFK := hideP hfk0
        clear hfk0
        go_wp2_with fail
        go_ret2
        have htt : t0 + (t1 - t0) = t1 := by omega
        have o1 := HOk.out
        have o2 := HTk.out
        rw [htt] at o1 o2
        refine ⟨t1, ?_, by omega, Nat.le_refl _, o2, fun h => absurd h (Nat.lt_irrefl _), o1, HCk.out⟩
        rw [HFK.out, show ((t1 * 1 : Nat) : Int) = ((t1 : Int) - 1 + 1) * 1 by omega]
        first | rfl | (simp; done) | (simp; rfl)

end Go.Proofs.Qxb6601640a
