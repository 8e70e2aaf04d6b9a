/-
  FnAddHeldMatchesCountModel: the walk.
-/
import Derived.Test.Qxb6601640aPl
import Derived.Deep.DeepCutAuto
namespace Go.Proofs.Qxb6601640a
open Go.RowKit
set_option linter.unusedVariables false
set_option linter.unusedSimpArgs false

theorem Lay.per {full b pl W : Nat} (h : Lay full b pl W) : ∃ p, W * p = 64 ∧ 0 < p ∧ p ≤ 8 ∧ W ≤ 64 ∧ 8 ≤ W ∧ (64 : Int) / 2 ^ min b 64 = (p : Int) ∧ ((pl = 3 ∧ p = 8) ∨ (pl = 2 ∧ p = 4) ∨ (pl = 1 ∧ p = 2) ∨ (pl = 0 ∧ p = 1)) := by
  obtain ⟨hw, rfl, rfl⟩ := h
  rcases hw with ⟨rfl, rfl⟩ | ⟨rfl, rfl⟩ | ⟨rfl, rfl⟩ | ⟨rfl, rfl⟩
  · exact ⟨8, by decide, by decide, by decide, by decide, by decide, by decide, by decide⟩
  · exact ⟨4, by decide, by decide, by decide, by decide, by decide, by decide, by decide⟩
  · exact ⟨2, by decide, by decide, by decide, by decide, by decide, by decide, by decide⟩
  · exact ⟨1, by decide, by decide, by decide, by decide, by decide, by decide, by decide⟩

theorem in_word {W p m n : Nat} (h : W * p = 64) (hp : 0 < p) (hm : m < n * p) : m * W / 64 < n := by
  rw [Nat.div_lt_iff_lt_mul (by decide), ← h, Nat.mul_comm W p, ← Nat.mul_assoc]
  exact Nat.mul_lt_mul_of_pos_right hm (Nat.pos_of_mul_pos_right (by rw [h]; decide))

set_option maxRecDepth 100000 in
set_option maxHeartbeats 4000000 in
theorem law3_main (a : Option Addr) (cap : Nat) (l : List Nat) (full b pl j n : Nat) (w : World) (hr : RowW w a l) (hnil : a = none → l.length = 0) (hX : WB l)
    (h1 : full < 18446744073709551616) (h2 : b < 256) (h3 : pl < 256) (h4 : j < 18446744073709551616) (h5 : n < 18446744073709551616) (hpos : 0 < l.length) (hlen : l.length ≤ 131072) :
    Calls Try.prog 3 #[.slice a l.length cap, .int .u64 full, .int .u8 b, .int .u8 pl, .int .u64 j, .int .u64 n] w fun e w' => e = .returned (.bool true) ∧ Below w.heap.size w w' := by
  have g0 : ((l.length : Int) == 0) = false := by rw [beq_eq_false_iff_ne]; omega
  have g1 : ¬ ((l.length : Int) > 131072) := by omega
  go_enter Try.func3, Try.ntmps3
  go_wp2_with fail
  refine (zzBytes8_any a l.length cap full b pl j n w (by omega)).mono ?_
  rintro e w' ⟨rfl, hw'⟩
  rw [hw']
  clear hw'
  rw [show decide (l.length ≤ 1048576) = true by simp; omega]
  go_wp2_with fail
  refine (validLayout_any full b pl _ h1 h2 h3).mono ?_
  rintro e w' ⟨hv, hw'⟩
  rw [hw']
  clear hw'
  rcases hv with rfl | ⟨rfl, W, hL⟩
  · go_wp2_with fail
    go_ret
    exact ⟨rfl, Below.refl _ _⟩
  go_wp2_with fail
  refine (cloneWords_any a cap l _ hr hnil (by omega)).mono ?_
  rintro e w1 ⟨v1, rfl, o1, c1, f1⟩
  obtain ⟨g, rfl, k1⟩ := o1.pos hpos
  go_wp2_with fail
  refine (cloneWords_any (some ⟨g, 0, none⟩) l.length l w1 (fun i hi => ⟨g, 0, rfl, by simpa using k1.cell i hi⟩) (fun e => by cases e) (by omega)).mono ?_
  rintro e w2 ⟨v2, rfl, o2, c2, f2⟩
  obtain ⟨g2, rfl, k2⟩ := o2.pos hpos
  go_wp2_with fail
  refine (ZZMake_any _ (some ⟨g, 0, none⟩) l.length l.length rfl full b pl w2).mono ?_
  rintro e w3 ⟨rfl, hB, c3, s3⟩
  have k13 : OBk w3 g l := (k1.chg c2 (fun h => h)).chg c3 (fun h => h)
  have k23 : OBk w3 g2 l := k2.chg c3 (fun h => h)
  have c03 : Chg (fun _ => False) w w3 := (c1.trans c2 (fun _ _ h => h)).trans c3 (fun _ _ h => h)
  have hg : w.heap.size ≤ g := f1 g rfl
  have hg2 : w1.heap.size ≤ g2 := f2 g2 rfl
  have hgl := k1.lt
  have hne : g2 ≠ g := by omega
  have hng : w2.heap.size ≠ g := by have := c2.size; omega
  obtain ⟨p, hp1, hp2, hp3, hW1, hW2, hper, hpp⟩ := hL.per
  obtain ⟨N, hN⟩ : ∃ N, l.length * p = N := ⟨_, rfl⟩
  have hNi : (l.length : Int) * (p : Int) = (N : Int) := by rw [← hN]; simp
  have hNb : N ≤ 131072 * 8 := by rw [← hN]; exact Nat.mul_le_mul hlen hp3
  go_wp2_with fail
  by_cases hj : j < N
  · have hjl := in_word hp1 hp2 (by rw [hN]; exact hj : j < l.length * p)
    refine (ZZAddHeld_of (P := fun z w' => z = heldOk W l j n ∧ OBk w' g (held W l j n) ∧ Chg (fun b => b = g) w3 w') ((addHeld_any w2.heap.size g l full b pl W j n w3 hL hB k13 hX h5 hjl (by omega)).mono ?_)).mono ?_
    · rintro e w' ⟨h1, h2, h3⟩
      exact ⟨_, h1, rfl, h2, h3⟩
    rintro e w4 ⟨z, rfl, hz, k14, c4⟩
    have k24 : OBk w4 g2 l := k23.chg c4 hne
    have hB4 := hB.chg c4 hng
    have hWB := held_wb hL.wid (j := j) (n := n) hX
    have hlh : (held W l j n).length = l.length := held_len
    go_wp2_with fail
    refine (ZZFields_any _ _ _ _ _ w4 hB4).mono ?_
    rintro e w5 ⟨rfl, q, hw5⟩
    have c5 : Chg (fun b => b = g) w3 w5 := by rw [hw5]; exact c4.drewN q
    have k15 : OBk w5 g (held W l j n) := by rw [hw5]; exact k14
    have k25 : OBk w5 g2 l := by rw [hw5]; exact k24
    have hbel : Below w.heap.size w w5 := (c03.mono (G := fun b => b = g) (fun _ _ h => h.elim)).trans c5 (fun _ _ h => h) |>.below (Nat.le_refl _) (fun k h => by rw [h]; exact hg)
    clear hw5
    have r2 : RowW w5 (some ⟨g2, 0, none⟩) l := fun i hi => ⟨g2, 0, rfl, by simpa using k25.cell i hi⟩
    have r1 : RowW w5 (some ⟨g, 0, none⟩) (held W l j n) := fun i hi => ⟨g, 0, rfl, by simpa using k15.cell i hi⟩
    have hji : ¬ ((j : Int) ≥ (N : Int)) := by omega
    have hB4' := hideP hB4
    clear hB4 hB c5 c4 k14 k24 c1 c2 c3 c03 k13 k23 k1 k2 o1 o2 f1 f2
    clear hji
    have hji : (j : Int) < (N : Int) := by omega
    go_wp2_with fail
    refine (countAt_any (some ⟨g2, 0, none⟩) l.length l b j W w5 r2 hL.wid hjl (by omega) hX).mono ?_
    rintro e w6 ⟨rfl, hw6⟩
    rw [hw6]
    clear hw6
    have hVl : cnt W l j < 2 ^ W := Nat.mod_lt _ (Nat.two_pow_pos W)
    have hfull := hL.full
    have hf64' : 2 ^ W ≤ 2 ^ 64 := Nat.pow_le_pow_right (by decide) hW1
    have hf64 : 2 ^ W ≤ 18446744073709551616 := hf64'
    clear hf64'
    by_cases hz : heldOk W l j n = true
    · have hk : cnt W l j ≠ 0 ∧ cnt W l j + n < 2 ^ W := of_decide_eq_true hz
      have g2' : (((cnt W l j : Nat) : Int) != 0) = true := by rw [bne_iff_ne]; omega
      have g3' : (n : Int) ≤ (full : Int) - ((cnt W l j : Nat) : Int) := by omega
      have g4' : cnt W l j ≤ full := by omega
      have hcb : cnt W l j + n < 18446744073709551616 := by omega
      have g5' : decide ((n : Int) ≤ (full : Int) - ((cnt W l j : Nat) : Int)) = true := decide_eq_true g3'
      clear hfull g3' hk
      go_wp2_with fail
      go_loop [26, 27] (fun i _ => ∃ k : Nat, k ≤ N ∧ i = .int .i64 k) (fun i _ => N - (intOf i).toNat)
      case atStart => exact ⟨0, Nat.zero_le _, rfl⟩
      case round =>
        obtain ⟨k, hk, rfl⟩ := hrel
        by_cases hlt : k < N
        · have hkl := in_word hp1 hp2 (by rw [hN]; exact hlt : k < l.length * p)
          have hki : (k : Int) < (N : Int) := by omega
          have hcm := held_cnt hL.wid (m := k) hjl hz
          have hkl' : k * W / 64 < (held W l j n).length := by rw [hlh]; exact hkl
          have hca := countAt_any (some ⟨g, 0, none⟩) (held W l j n).length (held W l j n) b k W w5 r1 hL.wid hkl' (by rw [hlh]; omega) hWB
          rw [hlh] at hca
          go_wp2_with fail
          refine (countAt_any (some ⟨g2, 0, none⟩) l.length l b k W w5 r2 hL.wid hkl (by omega) hX).mono ?_
          rintro e w6 ⟨rfl, hw6⟩
          rw [hw6]
          clear hw6
          by_cases hkj : k = j
          · subst hkj
            rw [if_pos rfl] at hcm
            have hcs := hcm
            clear hcm
            go_wp2_with fail
            refine hca.mono ?_
            rintro e w6 ⟨rfl, hw6⟩
            rw [hw6, hcs]
            clear hw6
            go_wp2_with fail
            go_round
            case rel => exact ⟨k + 1, by omega, by go_num⟩
            case measure => simp [intOf]; omega
          · have hkb : ((k : Int) == (j : Int)) = false := by rw [beq_eq_false_iff_ne]; omega
            rw [if_neg hkj] at hcm
            go_wp2_with fail
            refine hca.mono ?_
            rintro e w6 ⟨rfl, hw6⟩
            rw [hw6, hcm]
            clear hw6
            go_wp2_with fail
            go_round
            case rel => exact ⟨k + 1, by omega, by go_num⟩
            case measure => simp [intOf]; omega
        · have hki : ¬ ((k : Int) < (N : Int)) := by omega
          go_wp2_with fail
          go_ret
          exact ⟨rfl, hbel⟩
    · have hz : heldOk W l j n = false := by cases e : heldOk W l j n <;> simp_all
      by_cases hV : cnt W l j = 0
      · rw [hV]
        clear hfull
        go_wp2_with fail
        have H0 : held W l j n = l := held_no hz
        go_loop [26, 27] (fun i _ => ∃ k : Nat, k ≤ N ∧ i = .int .i64 k) (fun i _ => N - (intOf i).toNat)
        case atStart => exact ⟨0, Nat.zero_le _, rfl⟩
        case round =>
          obtain ⟨k, hk, rfl⟩ := hrel
          by_cases hlt : k < N
          · have hkl := in_word hp1 hp2 (by rw [hN]; exact hlt : k < l.length * p)
            have hki : (k : Int) < (N : Int) := by omega
            go_wp2_with fail
            refine (countAt_any (some ⟨g2, 0, none⟩) l.length l b k W w5 r2 hL.wid hkl (by omega) hX).mono ?_
            rintro e w6 ⟨rfl, hw6⟩
            rw [hw6]
            clear hw6
            go_wp2_with fail
            rw [H0] at r1
            refine (countAt_any (some ⟨g, 0, none⟩) l.length l b k W w5 r1 hL.wid hkl (by omega) hX).mono ?_
            rintro e w6 ⟨rfl, hw6⟩
            rw [hw6]
            clear hw6
            go_wp2_with fail
            go_round
            case rel => exact ⟨k + 1, by omega, by go_num⟩
            case measure => simp [intOf]; omega
          · have hki : ¬ ((k : Int) < (N : Int)) := by omega
            go_wp2_with fail
            go_ret
            exact ⟨rfl, hbel⟩
      · have hnk : ¬ (cnt W l j ≠ 0 ∧ cnt W l j + n < 2 ^ W) := of_decide_eq_false hz
        have g2' : (((cnt W l j : Nat) : Int) != 0) = true := by rw [bne_iff_ne]; omega
        have g3' : ¬ ((n : Int) ≤ (full : Int) - ((cnt W l j : Nat) : Int)) := by omega
        have g4' : cnt W l j ≤ full := by omega
        have g5' : decide ((n : Int) ≤ (full : Int) - ((cnt W l j : Nat) : Int)) = false := decide_eq_false g3'
        clear hfull g3' hnk
        go_wp2_with fail
        have H0 : held W l j n = l := held_no hz
        go_loop [26, 27] (fun i _ => ∃ k : Nat, k ≤ N ∧ i = .int .i64 k) (fun i _ => N - (intOf i).toNat)
        case atStart => exact ⟨0, Nat.zero_le _, rfl⟩
        case round =>
          obtain ⟨k, hk, rfl⟩ := hrel
          by_cases hlt : k < N
          · have hkl := in_word hp1 hp2 (by rw [hN]; exact hlt : k < l.length * p)
            have hki : (k : Int) < (N : Int) := by omega
            go_wp2_with fail
            refine (countAt_any (some ⟨g2, 0, none⟩) l.length l b k W w5 r2 hL.wid hkl (by omega) hX).mono ?_
            rintro e w6 ⟨rfl, hw6⟩
            rw [hw6]
            clear hw6
            go_wp2_with fail
            rw [H0] at r1
            refine (countAt_any (some ⟨g, 0, none⟩) l.length l b k W w5 r1 hL.wid hkl (by omega) hX).mono ?_
            rintro e w6 ⟨rfl, hw6⟩
            rw [hw6]
            clear hw6
            go_wp2_with fail
            go_round
            case rel => exact ⟨k + 1, by omega, by go_num⟩
            case measure => simp [intOf]; omega
          · have hki : ¬ ((k : Int) < (N : Int)) := by omega
            go_wp2_with fail
            go_ret
            exact ⟨rfl, hbel⟩
  · have hB' := hideP hB
    refine (ZZAddHeld_of (P := fun z w' => z = false ∧ w' = w3) ((addHeld_far w2.heap.size (some ⟨g, 0, none⟩) l.length b pl full p j n w3 hpp hB (by omega) (by omega)).mono ?_)).mono ?_
    · rintro e w' ⟨h1, h2⟩
      exact ⟨_, h1, rfl, h2⟩
    rintro e w4 ⟨z, rfl, rfl, rfl⟩
    go_wp2_with fail
    refine (ZZFields_any _ _ _ _ _ _ hB).mono ?_
    rintro e w5 ⟨rfl, q, hw5⟩
    have c5 : Chg (fun _ => False) w w5 := by rw [hw5]; exact c03.drewN q
    have k15 : OBk w5 g l := by rw [hw5]; exact k13
    have k25 : OBk w5 g2 l := by rw [hw5]; exact k23
    clear hw5
    have r2 : RowW w5 (some ⟨g2, 0, none⟩) l := fun i hi => ⟨g2, 0, rfl, by simpa using k25.cell i hi⟩
    have r1 : RowW w5 (some ⟨g, 0, none⟩) l := fun i hi => ⟨g, 0, rfl, by simpa using k15.cell i hi⟩
    have hji : (N : Int) ≤ (j : Int) := by omega
    clear hB c1 c2 c3 c03 k13 k23 k1 k2 o1 o2 f1 f2
    go_wp2_with fail
    refine (sameWords_any _ _ l.length l.length l l w5 r1 r2 (by omega) (by omega)).mono ?_
    rintro e w6 ⟨rfl, q2, hw6⟩
    rw [hw6, show sameI l l = true by simp [sameI]]
    go_wp2_with fail
    go_ret
    exact ⟨rfl, (c5.drewN q2).below (Nat.le_refl _) (fun _ h => h.elim)⟩

end Go.Proofs.Qxb6601640a
