/-
  counters.addAll 31 into wider fields that are all 0, counters.widen 34.
-/
import Derived.Test.Qxb6601640aMk
namespace Go.Proofs.Qxb6601640a
open Go.RowKit
set_option linter.unusedVariables false
set_option linter.unusedSimpArgs false

theorem rep_get (q t : Nat) : (List.replicate q 0).getD t 0 = 0 := by
  simp only [List.getD]
  rw [List.getElem?_replicate]
  split <;> rfl
theorem rep_wb (q : Nat) : WB (List.replicate q 0) := fun i _ => by rw [rep_get]; decide
theorem fl_zero (W i : Nat) : fl W 0 i = 0 := by simp [fl]
theorem cnt_rep (W q m : Nat) : cnt W (List.replicate q 0) m = 0 := by unfold cnt; rw [rep_get]; simp

set_option maxRecDepth 100000 in
set_option maxHeartbeats 2000000 in
theorem addAll_nar (c o g : Nat) (v : Value) (lo : List Nat) (full b pl W p B T fullo bo plo Wo po q n : Nat) (hL : Lay full b pl W) (hF : Fld b W p B T) (hLo : Lay fullo bo plo Wo) (hwpo : Wo * po = 64) (hN : Nar bo Wo b W p) (w : World)
    (hB : Box w c (.slice (some ⟨g, 0, none⟩) q q) full b pl) (hBo : Box w o v fullo bo plo) (ho : OBk w g (List.replicate q 0)) (hoo : OW w v lo) (hXo : WB lo) (hal : v.ownBlock ≠ some g) (hq : q * p = n) (hn : lo.length * po = n) (hlo : lo.length ≤ 100000000) (hql : q ≤ 100000000) :
    Calls Try.prog 31 #[.pointer (some ⟨c, 0, none⟩), .pointer (some ⟨o, 0, none⟩), .int .i64 0, .int .i64 0, .int .i64 n] w fun r w' => (∃ f : Nat, r = .returned (.int .i64 f)) ∧ ∃ l2, OBk w' g l2 ∧ l2.length = q ∧ WB l2 ∧ (∀ m, m < n → cnt W l2 m = cnt Wo lo m) ∧ Chg (fun x => x = g) w w' := by
  obtain ⟨c0, c1, c2, c3⟩ := hB.cells
  obtain ⟨o0, o1, o2, o3⟩ := hBo.cells
  obtain ⟨e1, e2, hpl3, hb6, hp1, hp8, hW8, hW64⟩ := hF.nums hL
  have hbb : bo < b := by
    rcases hN with ⟨rfl, rfl, rfl, rfl, rfl⟩ | ⟨rfl, rfl, rfl, rfl, rfl⟩ | ⟨rfl, rfl, rfl, rfl, rfl⟩ | ⟨rfl, rfl, rfl, rfl, rfl⟩ | ⟨rfl, rfl, rfl, rfl, rfl⟩ | ⟨rfl, rfl, rfl, rfl, rfl⟩ <;> decide
  have g1 : ¬ ((bo : Int) > (b : Int)) := by omega
  have g1' : decide (b < bo) = false := by rw [decide_eq_false_iff_not]; omega
  have e5 : bits BinOp.andNot IntKind.i64 0 ((p : Int) - 1) = 0 := by
    rcases hF with ⟨rfl, rfl, rfl, rfl, rfl⟩ | ⟨rfl, rfl, rfl, rfl, rfl⟩ | ⟨rfl, rfl, rfl, rfl, rfl⟩ | ⟨rfl, rfl, rfl, rfl, rfl⟩ <;> decide
  have hnb : n ≤ 800000000 := by rw [← hq]; exact Nat.mul_le_mul hql hp8
  have hpo0 : 0 < po := Nat.pos_of_ne_zero (fun e => by rw [e] at hwpo; simp at hwpo)
  have HB := hideP hB
  have HBO := hideP hBo
  have HO := hideP ho
  have HOO := hideP hoo
  go_enter Try.func31, Try.ntmps31
  go_wp2_with fail
  go_quiet (fail)
  go_wp2_with fail
  have hc2 : Chg (fun _ => False) w (w.drewN nq) := (Chg.refl _ w).drewN nq
  generalize w.drewN nq = w2 at *
  clear hB hBo ho hoo c0 c1 c2 c3 o0 o1 o2 o3
  go_loopw [10, 12] (fun fv iv wr => ∃ z f : Nat, iv = .int .i64 z ∧ fv = .int .i64 f ∧ f ≤ 8 * q ∧ z ≤ n ∧ Hid ((z = 0 ∧ f = 0 ∧ 0 < n ∧ Chg (fun _ => False) w wr) ∨ (z = n ∧ ∃ l2, OBk wr g l2 ∧ l2.length = q ∧ WB l2 ∧ (∀ m, m < n → cnt W l2 m = cnt Wo lo m) ∧ Chg (fun x => x = g) w wr))) (fun _ iv _ => n - (intOf iv).toNat)
  case atStart =>
    by_cases hn0 : n = 0
    · refine ⟨0, 0, rfl, rfl, Nat.zero_le _, Nat.zero_le _, .inr ⟨hn0.symm, List.replicate q 0, HO.out.chg hc2 (fun h => h), by simp, rep_wb q, fun m hm => by omega, hc2.mono (fun _ _ h => h.elim)⟩⟩
    · exact ⟨0, 0, rfl, rfl, Nat.zero_le _, Nat.zero_le _, .inl ⟨rfl, rfl, by omega, hc2⟩⟩
  case round =>
    obtain ⟨z, f0, rfl, rfl, hf0, hzn, HZ⟩ := hrel
    rcases HZ.out with ⟨rfl, rfl, hn0, hC⟩ | ⟨rfl, hD⟩
    · have HC := hideP hC
      clear hC HZ
      have hlo0 : 0 < lo.length := by
        rcases Nat.eq_zero_or_pos lo.length with h | h
        · rw [h] at hn; simp at hn; omega
        · exact h
      obtain ⟨go, rfl, hgo⟩ := HOO.out.pos hlo0
      have hgg : go ≠ g := fun h => hal (by rw [h]; rfl)
      have hB2 := HB.out.chg HC.out (fun h => h)
      have hBo2 := HBO.out.chg HC.out (fun h => h)
      have hy0 : ∀ t, t < q → Fits W p ((List.replicate q 0).getD t 0) (ynar Wo W p lo 0 t) := fun t _ i _ => by
        rw [rep_get, fl_zero, Nat.zero_add]; exact fl_lt _ _ _
      have hrl : (List.replicate q 0).length = q := by simp
      have hcall := addWords_nar c o g go (List.replicate q 0) lo full b pl W p B T fullo bo plo Wo 0 q n 0 0 (by simp) hL hF hLo hN wr (by rw [hrl]; exact hB2) hBo2 (HO.out.chg HC.out (fun h => h)) (hgo.chg HC.out (fun h => h)) (rep_wb q) hXo hgg (by rw [hrl]; exact hql) hlo (Nat.zero_le _) (by rw [hrl]; exact Nat.le_refl _)
        (fun t _ ht => by rw [← hq]; exact ⟨fun h => Nat.lt_of_mul_lt_mul_right h, fun h => Nat.mul_lt_mul_of_pos_right h (by omega)⟩) (by simp) (fun t ht => by
          refine in_word hwpo hpo0 ?_
          rw [hn, ← hq]
          have : t * p < q * p := Nat.mul_lt_mul_of_pos_right ht (by omega)
          omega) (by omega) (by omega)
      have HCALL := hideP hcall
      have HY0 := hideP hy0
      clear hcall hy0 hB2 hBo2
      obtain ⟨m0, m1, m2, m3⟩ := (HB.out.chg HC.out (fun h => h)).cells
      have hni : (0 : Int) < (n : Int) := by omega
      go_wp2_with fail
      refine HCALL.out.mono ?_
      rintro r w3 ⟨ts, rfl, h1, h2, h3, h4, h5, h6⟩
      have hts : ts = q := by
        rcases Nat.lt_or_ge ts q with h | h
        · exact absurd (HY0.out ts h) (h4 h)
        · omega
      subst hts
      have hfb := fil_le W p hp8 (List.replicate ts 0) (ynar Wo W p lo 0) 0 (ts - 0)
      rw [hq]
      generalize fil W p (List.replicate ts 0) (ynar Wo W p lo 0) 0 (ts - 0) = f at *
      have HFIN : Hid (∃ l2, OBk w3 g l2 ∧ l2.length = ts ∧ WB l2 ∧ (∀ m, m < n → cnt W l2 m = cnt Wo lo m) ∧ Chg (fun x => x = g) w w3) := by
        have hYC : YC W p (List.replicate ts 0) (ynar Wo W p lo 0) (ocOf Wo lo 0) 0 ts := ⟨hF.wd.wp, fun t _ ht s hs => by
          rw [fl_ynar hN lo 0 t s hs (by have := Int.natCast_nonneg (t * p); omega) (Int.dvd_zero _)]; rfl⟩
        refine ⟨_, h5, by rw [mg_len, hrl], mg_wb hF.wd.wp (rep_wb ts) (ynar_lt hN lo 0) h3, fun m hm => ?_, (HC.out.mono (fun _ _ h => h.elim)).trans h6 (fun _ _ h => h)⟩
        rw [hYC.cnt (Nat.zero_le _) (Nat.le_refl _) h3 m (by rw [hrl, hq]; exact hm), Nat.zero_mul, if_pos ⟨Nat.zero_le _, by rw [hq]; exact hm⟩, cnt_rep, Nat.zero_add]
        unfold ocOf
        simp
      clear h3 h4 h5 h6 HCALL HY0
      go_wp2_with fail
      go_roundw
      case rel => exact ⟨n, f, by go_num, by go_num, by omega, Nat.le_refl _, .inr ⟨rfl, HFIN.out⟩⟩
      case measure => simp [intOf]; omega
    · have hni : ¬ ((z : Int) < (z : Int)) := by omega
      have HD := hideP hD
      clear hD HZ
      go_wp2_with fail
      go_ret
      exact ⟨⟨f0, rfl⟩, HD.out⟩

/-- The world behind '*c = w'. -/
def stW (w1 : World) (h : Nat) (v f b p : Value) : World := (((w1.setCell ⟨h, 0, none⟩ v).setCell ⟨h, 1, none⟩ f).setCell ⟨h, 2, none⟩ b).setCell ⟨h, 3, none⟩ p
theorem st_end {w1 : World} {h : Nat} {x0 x1 x2 x3 v f b p : Value} (h4 : w1.heap[h]? = some (.cells #[x0, x1, x2, x3] 46)) :
    (stW w1 h v f b p).heap[h]? = some (.cells #[v, f, b, p] 46) ∧ Chg (fun x => x = h) w1 (stW w1 h v f b p) := by
  refine ⟨?_, ?_⟩
  · unfold stW
    simp [World.setCell, Array.getElem?_modify] at h4 ⊢
    simp [h4]
  · unfold stW
    exact (((Chg.setCell (F := fun x => x = h) (Chg.refl _ w1) (fun _ => rfl) _).setCell (fun _ => rfl) _).setCell (fun _ => rfl) _).setCell (fun _ => rfl) _

set_option maxRecDepth 100000 in
set_option maxHeartbeats 2000000 in
theorem widen_any (c : Nat) (v : Value) (lc : List Nat) (full b pl W p b2 W2 : Nat) (hL : Lay full b pl W) (hwp : W * p = 64) (hw2 : Wid b2 W2) (hlt : b < b2) (w : World) (hB : Box w c v full b pl) (ho : OW w v lc) (hX : WB lc) (hn : lc.length ≤ 10000000) :
    Calls Try.prog 34 #[.pointer (some ⟨c, 0, none⟩), .int .u8 b2] w fun r w' => r = .returned (.tuple #[]) ∧ ∃ v2 l2 p2, W2 * p2 = 64 ∧ Box w' c v2 (2 ^ W2 - 1) b2 (6 - b2) ∧ OW w' v2 l2 ∧ WB l2 ∧ l2.length * p2 = lc.length * p ∧ (∀ m, m < lc.length * p → cnt W2 l2 m = cnt W lc m) ∧ Chg (fun x => x = c) w w' ∧ (∀ x, v2.ownBlock = some x → w.heap.size ≤ x) := by
  obtain ⟨p', B, T, hF⟩ := hL.wid.fld
  obtain rfl : p' = p := Nat.eq_of_mul_eq_mul_left (Nat.pos_of_ne_zero (fun e => by rw [e] at hwp; simp at hwp)) (hF.wd.wp.trans hwp.symm)
  obtain ⟨p2, B2, T2, hF2⟩ := hw2.fld
  have hL2 : Lay (2 ^ W2 - 1) b2 (6 - b2) W2 := ⟨hw2, rfl, rfl⟩
  have hNar := hw2.nar hL.wid hlt hF2.wd.wp
  obtain ⟨-, -, -, hb6, hp1, hp8, -, -⟩ := hF.nums hL
  obtain ⟨-, -, -, hb26, hp21, hp28, -, -⟩ := hF2.nums hL2
  obtain ⟨a, hv, ha, -, -⟩ := ho.shape
  obtain ⟨N, hN⟩ : ∃ N, lc.length * p' = N := ⟨_, rfl⟩
  obtain ⟨q, hq⟩ : ∃ q, q * p2 = N := by
    have : p2 ∣ p' := by
      rcases hF with ⟨rfl, rfl, rfl, rfl, rfl⟩ | ⟨rfl, rfl, rfl, rfl, rfl⟩ | ⟨rfl, rfl, rfl, rfl, rfl⟩ | ⟨rfl, rfl, rfl, rfl, rfl⟩ <;> rcases hF2 with ⟨rfl, rfl, rfl, rfl, rfl⟩ | ⟨rfl, rfl, rfl, rfl, rfl⟩ | ⟨rfl, rfl, rfl, rfl, rfl⟩ | ⟨rfl, rfl, rfl, rfl, rfl⟩ <;> first | omega | decide
    obtain ⟨k, hk⟩ := this
    exact ⟨lc.length * k, by rw [← hN, hk, Nat.mul_assoc, Nat.mul_comm k]⟩
  have hNb : N ≤ 80000000 := by rw [← hN]; exact Nat.mul_le_mul hn hp8
  have hqb : q ≤ 80000000 := by
    have : q * 1 ≤ q * p2 := Nat.mul_le_mul_left _ hp21
    omega
  subst hv
  have hlen := fun (w1 : World) (hB1 : Box w1 c (.slice a lc.length lc.length) full b pl) => len_any c a lc.length full b pl W p' B T hL hF w1 hB1 (by omega)
  rw [hN] at hlen
  have hmk := fun w1 => make_any N q (2 ^ W2 - 1) b2 (6 - b2) W2 p2 B2 T2 hL2 hF2 w1 (by omega) hq
  have hcl := hB.lt
  have hl := ho.lt
  have HB := hideP hB
  have HO := hideP ho
  have HLEN := hideP hlen
  have HMK := hideP hmk
  clear hB ho hlen hmk
  go_enter Try.func34, Try.ntmps34
  go_wp2_with fail
  refine (HLEN.out w HB.out).mono ?_
  rintro r w1 ⟨rfl, q1, hw1⟩
  have c1 : Chg (fun _ => False) w w1 := by rw [hw1]; exact (Chg.refl _ w).drewN q1
  clear hw1
  go_wp2_with fail
  refine (HMK.out w1).mono ?_
  rintro r w2 ⟨rfl, ob2, c2⟩
  go_wp2_with fail
  have hbx := heap_alloc_new w2 (.cells #[.slice (some ⟨w1.heap.size + 2, 0, none⟩) q q, .int .u64 ((2 ^ W2 - 1 : Nat) : Int), .int .u8 (b2 : Int), .int .u8 ((6 - b2 : Nat) : Int)] 46)
  have c3 : Chg (fun _ => False) w2 (w2.alloc (.cells #[.slice (some ⟨w1.heap.size + 2, 0, none⟩) q q, .int .u64 ((2 ^ W2 - 1 : Nat) : Int), .int .u8 (b2 : Int), .int .u8 ((6 - b2 : Nat) : Int)] 46)) := (Chg.refl _ w2).alloc _
  generalize (w2.alloc (.cells #[.slice (some ⟨w1.heap.size + 2, 0, none⟩) q q, .int .u64 ((2 ^ W2 - 1 : Nat) : Int), .int .u8 (b2 : Int), .int .u8 ((6 - b2 : Nat) : Int)] 46)) = w3 at *
  have c03 : Chg (fun _ => False) w w3 := (c1.trans c2 (fun _ _ h => h)).trans c3 (fun _ _ h => h)
  refine (HLEN.out w3 (HB.out.chg c03 (fun h => h))).mono ?_
  rintro r w4 ⟨rfl, q4, hw4⟩
  have c34 : Chg (fun _ => False) w3 w4 := by rw [hw4]; exact (Chg.refl _ w3).drewN q4
  clear hw4
  have s1 := c1.size
  have s2 := ob2.lt
  have hbx3 : Box w3 w2.heap.size (.slice (some ⟨w1.heap.size + 2, 0, none⟩) q q) (2 ^ W2 - 1) b2 (6 - b2) := hbx
  have hbx4 := hbx3.chg c34 (fun h => h)
  have hc4 := (HB.out.chg c03 (fun h => h)).chg c34 (fun h => h)
  have ob4 := (ob2.chg c3 (fun h => h)).chg c34 (fun h => h)
  have ho4 := (HO.out.chg c03 (fun _ _ h => h)).chg c34 (fun _ _ h => h)
  have hcall := addAll_nar w2.heap.size c (w1.heap.size + 2) _ lc (2 ^ W2 - 1) b2 (6 - b2) W2 p2 B2 T2 full b pl W p' q N hL2 hF2 hL hwp hNar w4 hbx4 hc4 ob4 ho4 hX (fun h => by have := hl _ h; omega) hq hN (by omega) (by omega)
  have HCALL := hideP hcall
  have HC04 := hideP (c03.trans c34 (fun _ _ h => h))
  have HBX := hideP hbx4
  have HC4 := hideP hc4
  clear hcall hbx hbx3 hbx4 hc4 ob4 ho4 c34 c03 c3 c2 c1 ob2
  go_wp2_with fail
  refine HCALL.out.mono ?_
  rintro r w5 ⟨⟨f, rfl⟩, l2, ob5, hl2, hwb2, hcn2, c5⟩
  have hbx5 := HBX.out.chg c5 (by show ¬ (w2.heap.size = w1.heap.size + 2); omega)
  have hc5 := HC4.out.chg c5 (by show ¬ (c = w1.heap.size + 2); omega)
  obtain ⟨x0, x1, x2, x3⟩ := hbx5.cells
  obtain ⟨y0, y1, y2, y3, y4⟩ := blk_cells hc5
  obtain ⟨z1, z2⟩ := st_end (v := .slice (some ⟨w1.heap.size + 2, 0, none⟩) q q) (f := .int .u64 ((2 ^ W2 - 1 : Nat) : Int)) (b := .int .u8 (b2 : Int)) (p := .int .u8 ((6 - b2 : Nat) : Int)) hc5
  have HFIN : Hid (∃ v2 l2 p2, W2 * p2 = 64 ∧ Box (stW w5 c (.slice (some ⟨w1.heap.size + 2, 0, none⟩) q q) (.int .u64 ((2 ^ W2 - 1 : Nat) : Int)) (.int .u8 (b2 : Int)) (.int .u8 ((6 - b2 : Nat) : Int))) c v2 (2 ^ W2 - 1) b2 (6 - b2) ∧ OW (stW w5 c (.slice (some ⟨w1.heap.size + 2, 0, none⟩) q q) (.int .u64 ((2 ^ W2 - 1 : Nat) : Int)) (.int .u8 (b2 : Int)) (.int .u8 ((6 - b2 : Nat) : Int))) v2 l2 ∧ WB l2 ∧ l2.length * p2 = N ∧ (∀ m, m < N → cnt W2 l2 m = cnt W lc m) ∧ Chg (fun x => x = c) w (stW w5 c (.slice (some ⟨w1.heap.size + 2, 0, none⟩) q q) (.int .u64 ((2 ^ W2 - 1 : Nat) : Int)) (.int .u8 (b2 : Int)) (.int .u8 ((6 - b2 : Nat) : Int))) ∧ (∀ x, v2.ownBlock = some x → w.heap.size ≤ x)) := by
    refine ⟨.slice (some ⟨w1.heap.size + 2, 0, none⟩) q q, l2, p2, hF2.wd.wp, z1, .inr ⟨w1.heap.size + 2, by rw [hl2], ob5.chg z2 (by show ¬ (w1.heap.size + 2 = c); omega)⟩, hwb2, by rw [hl2]; exact hq, hcn2, ?_, fun x hx => by
      have e : some (w1.heap.size + 2) = some x := hx
      injection e
      omega⟩
    have h1 : Chg (fun x => x = w1.heap.size + 2) w w5 := (HC04.out.mono (fun _ _ h => h.elim)).trans c5 (fun _ _ h => h)
    exact (h1.mono (G := fun x => x = c) (fun i hi h => by omega)).trans z2 (fun _ _ h => h)
  have hbw : w2.heap.size ≠ c := by omega
  clear z1 z2 hbx5 hc5 c5 ob5 hl2 hwb2 hcn2 HCALL HC04 HBX HC4 HB HO HLEN HMK
  go_wp2_with fail
  go_end0
  have hf := HFIN.out
  rw [← hN] at hf
  exact ⟨rfl, hf⟩

end Go.Proofs.Qxb6601640a
