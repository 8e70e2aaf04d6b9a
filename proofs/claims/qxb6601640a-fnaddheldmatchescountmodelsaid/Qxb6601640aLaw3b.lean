/-
  FnAddHeldMatchesCountModel: no words; the walk at every input.
-/
import Derived.Test.Qxb6601640aLaw3
namespace Go.Proofs.Qxb6601640a
open Go.RowKit
set_option linter.unusedVariables false
set_option linter.unusedSimpArgs false

set_option maxRecDepth 100000 in
set_option maxHeartbeats 4000000 in
theorem law3_nil (a : Option Addr) (cap : Nat) (full b pl j n : Nat) (w : World)
    (h1 : full < 18446744073709551616) (h2 : b < 256) (h3 : pl < 256) (h4 : j < 18446744073709551616) (h5 : n < 18446744073709551616) :
    Calls Try.prog 3 #[.slice a 0 cap, .int .u64 full, .int .u8 b, .int .u8 pl, .int .u64 j, .int .u64 n] w fun e w' => e = .returned (.bool true) ∧ Below w.heap.size w w' := by
  have hr : RowW w a [] := fun i hi => absurd hi (Nat.not_lt_zero _)
  have hcl := fun (a : Option Addr) (cap : Nat) (w : World) => cloneWords_any a cap [] w (fun i hi => absurd hi (Nat.not_lt_zero _)) (fun _ => rfl) (by simp)
  simp only [List.length_nil] at hcl
  by_cases hf : full = 0
  · subst hf
    by_cases hb : b = 0
    · subst hb
      by_cases hp : pl = 0
      · subst hp
        go_enter Try.func3, Try.ntmps3
        go_wp2_with fail
        refine (zzBytes8_any a 0 cap 0 0 0 j n w (by omega)).mono ?_
        rintro e w' ⟨rfl, hw'⟩
        rw [hw']
        clear hw'
        rw [show decide (0 ≤ 1048576) = true by simp]
        go_wp2_with fail
        refine (hcl a cap w).mono ?_
        rintro e w1 ⟨v1, rfl, o1, c1, f1⟩
        obtain ⟨a1, hv1, -, -, -⟩ := o1.shape
        subst hv1
        simp only [List.length_nil]
        go_wp2_with fail
        refine (hcl a1 0 w1).mono ?_
        rintro e w2 ⟨v2, rfl, o2, c2, f2⟩
        obtain ⟨a2, hv2, -, -, -⟩ := o2.shape
        subst hv2
        simp only [List.length_nil]
        go_wp2_with fail
        refine (ZZMake_any _ a1 0 0 rfl 0 0 0 w2).mono ?_
        rintro e w3 ⟨rfl, hB, c3, s3⟩
        have c03 : Chg (fun _ => False) w w3 := (c1.trans c2 (fun _ _ h => h)).trans c3 (fun _ _ h => h)
        go_wp2_with fail
        refine (ZZAddHeld_of (P := fun z w' => z = false ∧ w' = w3) ((addHeld_far w2.heap.size a1 0 0 0 0 1 j n w3 (by simp) hB (by omega) (by omega)).mono ?_)).mono ?_
        · rintro e w' ⟨h1, h2⟩
          exact ⟨_, h1, rfl, h2⟩
        rintro e w4 ⟨z, rfl, rfl, rfl⟩
        go_wp2_with fail
        refine (ZZFields_any _ _ _ _ _ _ hB).mono ?_
        rintro e w5 ⟨rfl, q, hw5⟩
        have c5 : Chg (fun _ => False) w w5 := by rw [hw5]; exact c03.drewN q
        clear hw5 hB c1 c2 c3 c03 o1 o2 f1 f2
        go_wp2_with fail
        refine (sameWords_any a1 a2 0 0 [] [] w5 (fun i hi => absurd hi (Nat.not_lt_zero _)) (fun i hi => absurd hi (Nat.not_lt_zero _)) (by simp) (by simp)).mono ?_
        rintro e w6 ⟨rfl, q2, hw6⟩
        rw [hw6, show sameI [] [] = true by simp [sameI]]
        go_wp2_with fail
        go_ret
        exact ⟨rfl, (c5.drewN q2).below (Nat.le_refl _) (fun _ h => h.elim)⟩
      · have g : ((pl : Int) == 0) = false := by rw [beq_eq_false_iff_ne]; omega
        go_enter Try.func3, Try.ntmps3
        go_wp2_with fail
        refine (zzBytes8_any a 0 cap 0 0 pl j n w (by omega)).mono ?_
        rintro e w' ⟨rfl, hw'⟩
        rw [hw']
        clear hw'
        rw [show decide (0 ≤ 1048576) = true by simp]
        go_wp2_with fail
        refine (validLayout_any 0 0 pl _ (by omega) (by omega) (by omega)).mono ?_
        rintro e w' ⟨hv, hw'⟩
        rw [hw']
        clear hw'
        rcases hv with rfl | ⟨rfl, W, hL⟩
        · go_wp2_with fail
          go_ret
          exact ⟨rfl, Below.refl _ _⟩
        obtain ⟨p, hp1, hp2, hp3, hW1, hW2, hper, hpp⟩ := hL.per
        go_wp2_with fail
        refine (hcl a cap w).mono ?_
        rintro e w1 ⟨v1, rfl, o1, c1, f1⟩
        obtain ⟨a1, hv1, -, -, -⟩ := o1.shape
        subst hv1
        simp only [List.length_nil]
        go_wp2_with fail
        refine (hcl a1 0 w1).mono ?_
        rintro e w2 ⟨v2, rfl, o2, c2, f2⟩
        obtain ⟨a2, hv2, -, -, -⟩ := o2.shape
        subst hv2
        simp only [List.length_nil]
        go_wp2_with fail
        refine (ZZMake_any _ a1 0 0 rfl 0 0 pl w2).mono ?_
        rintro e w3 ⟨rfl, hB, c3, s3⟩
        have c03 : Chg (fun _ => False) w w3 := (c1.trans c2 (fun _ _ h => h)).trans c3 (fun _ _ h => h)
        go_wp2_with fail
        refine (ZZAddHeld_of (P := fun z w' => z = false ∧ w' = w3) ((addHeld_far w2.heap.size a1 0 0 pl 0 p j n w3 hpp hB (by omega) (by omega)).mono ?_)).mono ?_
        · rintro e w' ⟨h1, h2⟩
          exact ⟨_, h1, rfl, h2⟩
        rintro e w4 ⟨z, rfl, rfl, rfl⟩
        go_wp2_with fail
        refine (ZZFields_any _ _ _ _ _ _ hB).mono ?_
        rintro e w5 ⟨rfl, q, hw5⟩
        have c5 : Chg (fun _ => False) w w5 := by rw [hw5]; exact c03.drewN q
        clear hw5 hB c1 c2 c3 c03 o1 o2 f1 f2
        go_wp2_with fail
        refine (sameWords_any a1 a2 0 0 [] [] w5 (fun i hi => absurd hi (Nat.not_lt_zero _)) (fun i hi => absurd hi (Nat.not_lt_zero _)) (by simp) (by simp)).mono ?_
        rintro e w6 ⟨rfl, q2, hw6⟩
        rw [hw6, show sameI [] [] = true by simp [sameI]]
        go_wp2_with fail
        go_ret
        exact ⟨rfl, (c5.drewN q2).below (Nat.le_refl _) (fun _ h => h.elim)⟩
    · have g : ((b : Int) == 0) = false := by rw [beq_eq_false_iff_ne]; omega
      go_enter Try.func3, Try.ntmps3
      go_wp2_with fail
      refine (zzBytes8_any a 0 cap 0 b pl j n w (by omega)).mono ?_
      rintro e w' ⟨rfl, hw'⟩
      rw [hw']
      clear hw'
      rw [show decide (0 ≤ 1048576) = true by simp]
      go_wp2_with fail
      refine (validLayout_any 0 b pl _ (by omega) (by omega) (by omega)).mono ?_
      rintro e w' ⟨hv, hw'⟩
      rw [hw']
      clear hw'
      rcases hv with rfl | ⟨rfl, W, hL⟩
      · go_wp2_with fail
        go_ret
        exact ⟨rfl, Below.refl _ _⟩
      obtain ⟨p, hp1, hp2, hp3, hW1, hW2, hper, hpp⟩ := hL.per
      go_wp2_with fail
      refine (hcl a cap w).mono ?_
      rintro e w1 ⟨v1, rfl, o1, c1, f1⟩
      obtain ⟨a1, hv1, -, -, -⟩ := o1.shape
      subst hv1
      simp only [List.length_nil]
      go_wp2_with fail
      refine (hcl a1 0 w1).mono ?_
      rintro e w2 ⟨v2, rfl, o2, c2, f2⟩
      obtain ⟨a2, hv2, -, -, -⟩ := o2.shape
      subst hv2
      simp only [List.length_nil]
      go_wp2_with fail
      refine (ZZMake_any _ a1 0 0 rfl 0 b pl w2).mono ?_
      rintro e w3 ⟨rfl, hB, c3, s3⟩
      have c03 : Chg (fun _ => False) w w3 := (c1.trans c2 (fun _ _ h => h)).trans c3 (fun _ _ h => h)
      go_wp2_with fail
      refine (ZZAddHeld_of (P := fun z w' => z = false ∧ w' = w3) ((addHeld_far w2.heap.size a1 0 b pl 0 p j n w3 hpp hB (by omega) (by omega)).mono ?_)).mono ?_
      · rintro e w' ⟨h1, h2⟩
        exact ⟨_, h1, rfl, h2⟩
      rintro e w4 ⟨z, rfl, rfl, rfl⟩
      go_wp2_with fail
      refine (ZZFields_any _ _ _ _ _ _ hB).mono ?_
      rintro e w5 ⟨rfl, q, hw5⟩
      have c5 : Chg (fun _ => False) w w5 := by rw [hw5]; exact c03.drewN q
      clear hw5 hB c1 c2 c3 c03 o1 o2 f1 f2
      go_wp2_with fail
      refine (sameWords_any a1 a2 0 0 [] [] w5 (fun i hi => absurd hi (Nat.not_lt_zero _)) (fun i hi => absurd hi (Nat.not_lt_zero _)) (by simp) (by simp)).mono ?_
      rintro e w6 ⟨rfl, q2, hw6⟩
      rw [hw6, show sameI [] [] = true by simp [sameI]]
      go_wp2_with fail
      go_ret
      exact ⟨rfl, (c5.drewN q2).below (Nat.le_refl _) (fun _ h => h.elim)⟩
  · have g : ((full : Int) == 0) = false := by rw [beq_eq_false_iff_ne]; omega
    go_enter Try.func3, Try.ntmps3
    go_wp2_with fail
    refine (zzBytes8_any a 0 cap full b pl j n w (by omega)).mono ?_
    rintro e w' ⟨rfl, hw'⟩
    rw [hw']
    clear hw'
    rw [show decide (0 ≤ 1048576) = true by simp]
    go_wp2_with fail
    refine (validLayout_any full b pl _ (by omega) (by omega) (by omega)).mono ?_
    rintro e w' ⟨hv, hw'⟩
    rw [hw']
    clear hw'
    rcases hv with rfl | ⟨rfl, W, hL⟩
    · go_wp2_with fail
      go_ret
      exact ⟨rfl, Below.refl _ _⟩
    obtain ⟨p, hp1, hp2, hp3, hW1, hW2, hper, hpp⟩ := hL.per
    go_wp2_with fail
    refine (hcl a cap w).mono ?_
    rintro e w1 ⟨v1, rfl, o1, c1, f1⟩
    obtain ⟨a1, hv1, -, -, -⟩ := o1.shape
    subst hv1
    simp only [List.length_nil]
    go_wp2_with fail
    refine (hcl a1 0 w1).mono ?_
    rintro e w2 ⟨v2, rfl, o2, c2, f2⟩
    obtain ⟨a2, hv2, -, -, -⟩ := o2.shape
    subst hv2
    simp only [List.length_nil]
    go_wp2_with fail
    refine (ZZMake_any _ a1 0 0 rfl full b pl w2).mono ?_
    rintro e w3 ⟨rfl, hB, c3, s3⟩
    have c03 : Chg (fun _ => False) w w3 := (c1.trans c2 (fun _ _ h => h)).trans c3 (fun _ _ h => h)
    go_wp2_with fail
    refine (ZZAddHeld_of (P := fun z w' => z = false ∧ w' = w3) ((addHeld_far w2.heap.size a1 0 b pl full p j n w3 hpp hB (by omega) (by omega)).mono ?_)).mono ?_
    · rintro e w' ⟨h1, h2⟩
      exact ⟨_, h1, rfl, h2⟩
    rintro e w4 ⟨z, rfl, rfl, rfl⟩
    go_wp2_with fail
    refine (ZZFields_any _ _ _ _ _ _ hB).mono ?_
    rintro e w5 ⟨rfl, q, hw5⟩
    have c5 : Chg (fun _ => False) w w5 := by rw [hw5]; exact c03.drewN q
    clear hw5 hB c1 c2 c3 c03 o1 o2 f1 f2
    go_wp2_with fail
    refine (sameWords_any a1 a2 0 0 [] [] w5 (fun i hi => absurd hi (Nat.not_lt_zero _)) (fun i hi => absurd hi (Nat.not_lt_zero _)) (by simp) (by simp)).mono ?_
    rintro e w6 ⟨rfl, q2, hw6⟩
    rw [hw6, show sameI [] [] = true by simp [sameI]]
    go_wp2_with fail
    go_ret
    exact ⟨rfl, (c5.drewN q2).below (Nat.le_refl _) (fun _ h => h.elim)⟩

theorem law3_all (a : Option Addr) (cap : Nat) (l : List Nat) (full b pl j n : Nat) (w : World) (hr : RowW w a l) (hnil : a = none → l.length = 0) (hX : WB l)
    (h1 : full < 18446744073709551616) (h2 : b < 256) (h3 : pl < 256) (h4 : j < 18446744073709551616) (h5 : n < 18446744073709551616) (hlen : l.length ≤ 9223372036854775807) :
    Calls Try.prog 3 #[.slice a l.length cap, .int .u64 full, .int .u8 b, .int .u8 pl, .int .u64 j, .int .u64 n] w fun e w' => e = .returned (.bool true) ∧ Below w.heap.size w w' := by
  by_cases hz : l.length = 0
  · rw [hz]
    exact law3_nil a cap full b pl j n w h1 h2 h3 h4 h5
  · by_cases hs : l.length ≤ 131072
    · exact law3_main a cap l full b pl j n w hr hnil hX h1 h2 h3 h4 h5 (by omega) hs
    · have g1 : (l.length : Int) > 131072 := by omega
      go_enter Try.func3, Try.ntmps3
      go_wp2_with fail
      refine (zzBytes8_any a l.length cap full b pl j n w (by omega)).mono ?_
      rintro e w' ⟨rfl, hw'⟩
      rw [hw']
      clear hw'
      generalize decide (l.length ≤ 1048576) = z
      cases z
      · go_wp2_with fail
        go_ret
        exact ⟨rfl, Below.refl _ _⟩
      · go_wp2_with fail
        go_ret
        exact ⟨rfl, Below.refl _ _⟩

end Go.Proofs.Qxb6601640a
