/-
  FnAddHeldAgreesWithAdd: the walk.
-/
import Derived.Test.Qxb6601640aAdd
import Derived.Test.Qxb6601640aLaw3
namespace Go.Proofs.Qxb6601640a
open Go.RowKit
set_option linter.unusedVariables false
set_option linter.unusedSimpArgs false

theorem zz16_any (a : Option Addr) (n cap : Nat) (f b p : Nat) (j : Int) (m : Nat) (w : World) (hl : n ≤ 9223372036854775807) : Calls Try.prog 16 #[.slice a n cap, .int .u64 f, .int .u8 b, .int .u8 p, .int .i64 j, .int .u64 m] w fun e w' => e = .returned (.bool (decide (n ≤ 1048576))) ∧ w' = w := by
  by_cases h : n ≤ 1048576
  · have h1 : ¬ ((n : Int) > 1048576) := by omega
    go_enter Try.func16, Try.ntmps16
    go_wp2
    go_ret
    exact ⟨ret_bool (by simp [h]), rfl⟩
  · have h1 : ((n : Int) > 1048576) := by omega
    go_enter Try.func16, Try.ntmps16
    go_wp2
    go_ret
    exact ⟨ret_bool (by simp [h]), rfl⟩

set_option maxRecDepth 1000000 in
set_option maxHeartbeats 4000000 in
theorem law4_main (a : Option Addr) (cap : Nat) (l : List Nat) (full b pl : Nat) (jI : Int) (n : Nat) (w : World) (hr : RowW w a l) (hnil : a = none → l.length = 0) (hX : WB l)
    (h1 : full < 18446744073709551616) (h2 : b < 256) (h3 : pl < 256) (h4 : -9223372036854775808 ≤ jI ∧ jI ≤ 9223372036854775807) (h5 : n < 18446744073709551616) (hlen : l.length ≤ 131072) :
    Calls Try.prog 4 #[.slice a l.length cap, .int .u64 full, .int .u8 b, .int .u8 pl, .int .i64 jI, .int .u64 n] w fun e w' => e = .returned (.bool true) ∧ Below w.heap.size w w' := by
  have g1 : ¬ ((l.length : Int) > 131072) := by omega
  go_enter Try.func4, Try.ntmps4
  go_wp2_with fail
  refine (zz16_any a l.length cap full b pl jI n w (by omega)).mono ?_
  rintro e w' ⟨rfl, hw'⟩
  rw [hw']
  clear hw'
  rw [show decide (l.length ≤ 1048576) = true by simp; omega]
  go_wp2_with fail
  refine (validLayout_any full b pl _ h1 h2 h3).mono ?_
  rintro e w' ⟨hv, hw'⟩
  rw [hw']
  clear hw'
  rcases hv with rfl | ⟨rfl, W, hL⟩
  · go_wp2_with fail
    go_ret
    exact ⟨rfl, Below.refl _ _⟩
  obtain ⟨p, hp1, hp2, hp3, hW1, hW2, hper, hpp⟩ := hL.per
  obtain ⟨N, hN⟩ : ∃ N, l.length * p = N := ⟨_, rfl⟩
  have hNi : (l.length : Int) * (p : Int) = (N : Int) := by rw [← hN]; simp
  have hNb : N ≤ 131072 * 8 := by rw [← hN]; exact Nat.mul_le_mul hlen hp3
  by_cases hj0 : 0 ≤ jI
  rotate_left
  · have k1 : jI < 0 := by omega
    go_wp2_with fail
    go_ret
    exact ⟨rfl, Below.refl _ _⟩
  have k1 : ¬ (jI < 0) := by omega
  obtain ⟨j, rfl⟩ := Int.eq_ofNat_of_zero_le hj0
  by_cases hj : j < N
  rotate_left
  · have k2 : (j : Int) ≥ (N : Int) := by omega
    go_wp2_with fail
    go_ret
    exact ⟨rfl, Below.refl _ _⟩
  have k2 : ¬ ((j : Int) ≥ (N : Int)) := by omega
  have hjp : j < l.length * p := by rw [hN]; exact hj
  have hjl := in_word hp1 hp2 hjp
  have hpos : 0 < l.length := by omega
  have hvl := cnt_lt W l j
  have hf64' : 2 ^ W ≤ 2 ^ 64 := Nat.pow_le_pow_right (by decide) hW1
  have hf64 : 2 ^ W ≤ 18446744073709551616 := hf64'
  clear hf64'
  go_wp2_with fail
  refine (countAt_any a cap l b j W w hr hL.wid hjl (by omega) hX).mono ?_
  rintro e w' ⟨rfl, hw'⟩
  rw [hw']
  clear hw'
  by_cases hsum : cnt W l j + n < 18446744073709551616
  rotate_left
  · have k3 : (n : Int) > 18446744073709551615 - ((cnt W l j : Nat) : Int) := by omega
    go_wp2_with fail
    go_ret
    exact ⟨rfl, Below.refl _ _⟩
  have k3 : ¬ ((n : Int) > 18446744073709551615 - ((cnt W l j : Nat) : Int)) := by omega
  have k3' : cnt W l j ≤ 18446744073709551615 := by omega
  go_wp2_with fail
  refine (cloneWords_any a cap l _ hr hnil (by omega)).mono ?_
  rintro e w1 ⟨v1, rfl, o1, c1, f1⟩
  obtain ⟨ga, rfl, b1⟩ := o1.pos hpos
  have hcl := fun w' (hk : OBk w' ga l) => cloneWords_any (some ⟨ga, 0, none⟩) l.length l w' (fun i hi => ⟨ga, 0, rfl, by simpa using hk.cell i hi⟩) (fun e => by cases e) (by omega)
  go_wp2_with fail
  refine (hcl w1 b1).mono ?_
  rintro e w2 ⟨v2, rfl, o2, c2, f2⟩
  obtain ⟨gb, rfl, b2⟩ := o2.pos hpos
  go_wp2_with fail
  refine (hcl w2 (b1.chg c2 (fun h => h))).mono ?_
  rintro e w3 ⟨v3, rfl, o3, c3, f3⟩
  obtain ⟨gt, rfl, b3⟩ := o3.pos hpos
  go_wp2_with fail
  refine (ZZMake_any _ (some ⟨ga, 0, none⟩) l.length l.length rfl full b pl w3).mono ?_
  rintro e w4 ⟨rfl, hB1, c4, s4⟩
  go_wp2_with fail
  refine (ZZMake_any _ (some ⟨gt, 0, none⟩) l.length l.length rfl full b pl w4).mono ?_
  rintro e w5 ⟨rfl, hB2, c5, s5⟩
  rw [s4] at hB2 s5
  have hga : w.heap.size ≤ ga := f1 ga rfl
  have hgb : w1.heap.size ≤ gb := f2 gb rfl
  have hgt : w2.heap.size ≤ gt := f3 gt rfl
  have la := b1.lt
  have lb := b2.lt
  have lt := b3.lt
  have z2 := c2.size
  have z3 := c3.size
  have c05 : Chg (fun _ => False) w w5 := (((c1.trans c2 (fun _ _ h => h)).trans c3 (fun _ _ h => h)).trans c4 (fun _ _ h => h)).trans c5 (fun _ _ h => h)
  have a5 : OBk w5 ga l := (((b1.chg c2 (fun h => h)).chg c3 (fun h => h)).chg c4 (fun h => h)).chg c5 (fun h => h)
  have bb5 : OBk w5 gb l := ((b2.chg c3 (fun h => h)).chg c4 (fun h => h)).chg c5 (fun h => h)
  have t5 : OBk w5 gt l := (b3.chg c4 (fun h => h)).chg c5 (fun h => h)
  have hB15 := hB1.chg c5 (fun h => h)
  have hsz : w.heap.size ≤ w3.heap.size := by have := c1.size; omega
  clear hcl c1 c2 c3 c4 c5 o1 o2 o3 b1 b2 b3 f1 f2 f3 hB1 z2 z3
  have hji : ((j : Int) % 18446744073709551616) = (j : Int) := by omega
  go_wp2_with fail
  refine (ZZAddHeld_of (P := fun z w' => z = heldOk W l j n ∧ OBk w' ga (held W l j n) ∧ Chg (fun b => b = ga) w5 w') ((addHeld_any w3.heap.size ga l full b pl W j n w5 hL hB15 a5 hX h5 hjl (by omega)).mono ?_)).mono ?_
  · rintro e w' ⟨h1, h2, h3⟩
    exact ⟨_, h1, rfl, h2, h3⟩
  rintro e w6 ⟨z, rfl, hz, a6, c6⟩
  have bb6 : OBk w6 gb l := bb5.chg c6 (by show ¬ (gb = ga); omega)
  have t6 : OBk w6 gt l := t5.chg c6 (by show ¬ (gt = ga); omega)
  have hB16 := hB15.chg c6 (by show ¬ (w3.heap.size = ga); omega)
  have hB26 := hB2.chg c6 (by show ¬ (w3.heap.size + 1 = ga); omega)
  have c06 : Chg (fun x => w.heap.size ≤ x) w w6 := (c05.mono (fun _ _ h => h.elim)).trans c6 (fun i _ h => by omega)
  have hlh : (held W l j n).length = l.length := held_len
  have HA6 := hideP a6
  have HBB6 := hideP bb6
  have HB16 := hideP hB16
  have HC06 := hideP c06
  have hz' := hideP hz
  clear c6 c05 a5 bb5 t5 hB15 hB2 a6 bb6 hB16 c06 hr hz
  by_cases hfit : cnt W l j + n < 2 ^ W
  · have hcall := add_plain (w3.heap.size + 1) gt l full b pl W j n hL w6 hB26 t6 hX (by omega) hjl h5 hfit
    have HCALL := hideP hcall
    have HB26 := hideP hB26
    clear hcall hB26 t6
    go_wp2_with fail
    refine (ZZAdd_of (P := fun v w' => v = cnt W l j ∧ OBk w' gt (l.set (j * W / 64) (l.getD (j * W / 64) 0 + n * 2 ^ (j * W % 64))) ∧ Chg (fun x => x = gt) w6 w') (HCALL.out.mono ?_)).mono ?_
    · rintro e w' ⟨h1, h2, h3⟩
      exact ⟨_, h1, rfl, h2, h3⟩
    rintro e w7 ⟨v, rfl, rfl, t7, c7⟩
    have b17 := HB16.out.chg c7 (by show ¬ (w3.heap.size = gt); omega)
    have b27 := HB26.out.chg c7 (by show ¬ (w3.heap.size + 1 = gt); omega)
    have a7 := HA6.out.chg c7 (by show ¬ (ga = gt); omega)
    have bb7 := HBB6.out.chg c7 (by show ¬ (gb = gt); omega)
    have c07 : Chg (fun x => w.heap.size ≤ x) w w7 := HC06.out.trans c7 (fun i _ h => by omega)
    go_wp2_with fail
    refine (ZZFields_any _ _ _ _ _ w7 b17).mono ?_
    rintro e w8 ⟨rfl, q8, hw8⟩
    rw [hw8]
    clear hw8
    go_wp2_with fail
    refine (ZZFields_any _ _ _ _ _ (w7.drewN q8) b27).mono ?_
    rintro e w9 ⟨rfl, q9, hw9⟩
    have a9 : OBk w9 ga (held W l j n) := by rw [hw9]; exact a7
    have bb9 : OBk w9 gb l := by rw [hw9]; exact bb7
    have t9 : OBk w9 gt (l.set (j * W / 64) (l.getD (j * W / 64) 0 + n * 2 ^ (j * W % 64))) := by rw [hw9]; exact t7
    have c09 : Chg (fun x => w.heap.size ≤ x) w w9 := by rw [hw9]; exact (c07.drewN q8).drewN q9
    clear hw9 c7 t7 b17 b27 a7 bb7 c07 HCALL HB26 HA6 HBB6 HB16 HC06
    by_cases hok : heldOk W l j n = true
    · have hk : cnt W l j ≠ 0 ∧ cnt W l j + n < 2 ^ W := of_decide_eq_true hok
      have hne : (((cnt W l j : Nat) : Int) != 0) = true := by rw [bne_iff_ne]; omega
      have hheld : held W l j n = l.set (j * W / 64) (l.getD (j * W / 64) 0 + n * 2 ^ (j * W % 64)) := by unfold held; rw [if_pos hok]
      rw [← hheld] at t9
      have hsw := sameWords_any (some ⟨ga, 0, none⟩) (some ⟨gt, 0, none⟩) l.length l.length (held W l j n) (held W l j n) w9 (fun i hi => ⟨ga, 0, rfl, by simpa using a9.cell i hi⟩) (fun i hi => ⟨gt, 0, rfl, by simpa using t9.cell i hi⟩) (by rw [hlh]; omega) (by rw [hlh]; omega)
      rw [hlh] at hsw
      have HSW := hideP hsw
      clear hsw hheld
      rw [show z = true from hz'.out.trans hok]
      clear hz'
      go_wp2_with fail
      refine HSW.out.mono ?_
      rintro e w10 ⟨rfl, q10, hw10⟩
      rw [show sameI (held W l j n) (held W l j n) = true by simp [sameI]]
      have c010 : Chg (fun x => w.heap.size ≤ x) w w10 := by rw [hw10]; exact c09.drewN q10
      clear hw10
      go_wp2_with fail
      go_ret
      exact ⟨rfl, c010.below (Nat.le_refl _) (fun _ h => h)⟩
    · have hok0 : heldOk W l j n = false := by cases e : heldOk W l j n <;> simp_all
      have hv0 : cnt W l j = 0 := by
        rcases Nat.eq_zero_or_pos (cnt W l j) with h | h
        · exact h
        · exact absurd (decide_eq_true (p := cnt W l j ≠ 0 ∧ cnt W l j + n < 2 ^ W) ⟨by omega, hfit⟩) hok
      rw [held_no hok0] at a9
      have hsw := sameWords_any (some ⟨ga, 0, none⟩) (some ⟨gb, 0, none⟩) l.length l.length l l w9 (fun i hi => ⟨ga, 0, rfl, by simpa using a9.cell i hi⟩) (fun i hi => ⟨gb, 0, rfl, by simpa using bb9.cell i hi⟩) (by omega) (by omega)
      have HSW := hideP hsw
      rw [hv0, show z = false from hz'.out.trans hok0]
      clear hsw hz' hv0
      go_wp2_with fail
      refine HSW.out.mono ?_
      rintro e w10 ⟨rfl, q10, hw10⟩
      rw [show sameI l l = true by simp [sameI]]
      have c010 : Chg (fun x => w.heap.size ≤ x) w w10 := by rw [hw10]; exact c09.drewN q10
      clear hw10
      go_wp2_with fail
      go_ret
      exact ⟨rfl, c010.below (Nat.le_refl _) (fun _ h => h)⟩
  · have hcall := add_wide (w3.heap.size + 1) gt l full b pl W p j n hL hp1 w6 hB26 t6 hX (by omega) hjp hsum (by omega)
    have HCALL := hideP hcall
    clear hcall hB26 t6
    go_wp2_with fail
    refine (ZZAdd_of (P := fun v w' => v = cnt W l j ∧ ∃ v2 r f2 p2, b < r ∧ Box w' (w3.heap.size + 1) v2 f2 r p2 ∧ Chg (fun x => x = w3.heap.size + 1) w6 w') (HCALL.out.mono ?_)).mono ?_
    · rintro e w' ⟨h1, h2⟩
      exact ⟨_, h1, rfl, h2⟩
    rintro e w7 ⟨v, rfl, rfl, v2, r, f2, p2, hbr, b27, c7⟩
    have b17 := HB16.out.chg c7 (by show ¬ (w3.heap.size = w3.heap.size + 1); omega)
    have a7 := HA6.out.chg c7 (by show ¬ (ga = w3.heap.size + 1); omega)
    have bb7 := HBB6.out.chg c7 (by show ¬ (gb = w3.heap.size + 1); omega)
    have c07 : Chg (fun x => w.heap.size ≤ x) w w7 := HC06.out.trans c7 (fun i _ h => by omega)
    have hok0 : heldOk W l j n = false := decide_eq_false (fun h => hfit h.2)
    rw [held_no hok0] at a7
    have hrb : ((r : Int) == (b : Int)) = false := by rw [beq_eq_false_iff_ne]; omega
    have hz0 : z = false := hz'.out.trans hok0
    subst hz0
    clear hz' HCALL
    go_wp2_with fail
    refine (ZZFields_any _ _ _ _ _ w7 b17).mono ?_
    rintro e w8 ⟨rfl, q8, hw8⟩
    rw [hw8]
    clear hw8
    go_wp2_with fail
    refine (ZZFields_any _ _ _ _ _ (w7.drewN q8) b27).mono ?_
    rintro e w9 ⟨rfl, q9, hw9⟩
    have a9 : OBk w9 ga l := by rw [hw9]; exact a7
    have bb9 : OBk w9 gb l := by rw [hw9]; exact bb7
    have c09 : Chg (fun x => w.heap.size ≤ x) w w9 := by rw [hw9]; exact (c07.drewN q8).drewN q9
    have hsw := sameWords_any (some ⟨ga, 0, none⟩) (some ⟨gb, 0, none⟩) l.length l.length l l w9 (fun i hi => ⟨ga, 0, rfl, by simpa using a9.cell i hi⟩) (fun i hi => ⟨gb, 0, rfl, by simpa using bb9.cell i hi⟩) (by omega) (by omega)
    have HSW := hideP hsw
    clear hw9 c7 b17 b27 a7 bb7 c07 HA6 HBB6 HB16 HC06 hsw a9 bb9
    by_cases hv0 : cnt W l j = 0
    · rw [hv0]
      go_wp2_with fail
      refine HSW.out.mono ?_
      rintro e w10 ⟨rfl, q10, hw10⟩
      rw [show sameI l l = true by simp [sameI]]
      have c010 : Chg (fun x => w.heap.size ≤ x) w w10 := by rw [hw10]; exact c09.drewN q10
      clear hw10
      go_wp2_with fail
      go_ret
      exact ⟨rfl, c010.below (Nat.le_refl _) (fun _ h => h)⟩
    · have hne : (((cnt W l j : Nat) : Int) != 0) = true := by rw [bne_iff_ne]; omega
      go_wp2_with fail
      refine HSW.out.mono ?_
      rintro e w10 ⟨rfl, q10, hw10⟩
      rw [show sameI l l = true by simp [sameI]]
      have c010 : Chg (fun x => w.heap.size ≤ x) w w10 := by rw [hw10]; exact c09.drewN q10
      clear hw10
      go_wp2_with fail
      go_ret
      exact ⟨rfl, c010.below (Nat.le_refl _) (fun _ h => h)⟩

set_option maxRecDepth 1000000 in
theorem law4_all (a : Option Addr) (cap : Nat) (l : List Nat) (full b pl : Nat) (jI : Int) (n : Nat) (w : World) (hr : RowW w a l) (hnil : a = none → l.length = 0) (hX : WB l)
    (h1 : full < 18446744073709551616) (h2 : b < 256) (h3 : pl < 256) (h4 : -9223372036854775808 ≤ jI ∧ jI ≤ 9223372036854775807) (h5 : n < 18446744073709551616) (hlen : l.length ≤ 9223372036854775807) :
    Calls Try.prog 4 #[.slice a l.length cap, .int .u64 full, .int .u8 b, .int .u8 pl, .int .i64 jI, .int .u64 n] w fun e w' => e = .returned (.bool true) ∧ Below w.heap.size w w' := by
  by_cases hs : l.length ≤ 131072
  · exact law4_main a cap l full b pl jI n w hr hnil hX h1 h2 h3 h4 h5 hs
  · have g1 : (l.length : Int) > 131072 := by omega
    go_enter Try.func4, Try.ntmps4
    go_wp2_with fail
    refine (zz16_any a l.length cap full b pl jI n w (by omega)).mono ?_
    rintro e w' ⟨rfl, hw'⟩
    rw [hw']
    clear hw'
    generalize decide (l.length ≤ 1048576) = z
    cases z
    · go_wp2_with fail
      go_ret
      exact ⟨rfl, Below.refl _ _⟩
    · go_wp2_with fail
      go_ret
      exact ⟨rfl, Below.refl _ _⟩

end Go.Proofs.Qxb6601640a
