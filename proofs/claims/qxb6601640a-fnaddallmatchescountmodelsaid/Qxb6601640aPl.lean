/-
  Plain facts: a field behind an add at one field.
-/
import Derived.Test.Qxb6601640aHeld
namespace Go.Proofs.Qxb6601640a
set_option linter.unusedVariables false
set_option linter.unusedSimpArgs false

theorem fld_same (X r W n : Nat) (h : X / 2 ^ r % 2 ^ W + n < 2 ^ W) : (X + n * 2 ^ r) / 2 ^ r % 2 ^ W = X / 2 ^ r % 2 ^ W + n := by
  rw [Nat.add_mul_div_right _ _ (Nat.two_pow_pos r), Nat.add_mod, Nat.mod_eq_of_lt (a := n) (by omega), Nat.mod_eq_of_lt h]
theorem fld_above (X r W n d : Nat) (h : X / 2 ^ r % 2 ^ W + n < 2 ^ W) : (X + n * 2 ^ r) / 2 ^ (r + W + d) = X / 2 ^ (r + W + d) := by
  rw [Nat.pow_add, Nat.pow_add, ← Nat.div_div_eq_div_mul, ← Nat.div_div_eq_div_mul, ← Nat.div_div_eq_div_mul, ← Nat.div_div_eq_div_mul, Nat.add_mul_div_right _ _ (Nat.two_pow_pos r)]
  congr 1
  have hp := Nat.two_pow_pos W
  have e := Nat.div_add_mod (X / 2 ^ r) (2 ^ W)
  generalize X / 2 ^ r = Y at *
  have : Y + n = (Y % 2 ^ W + n) + 2 ^ W * (Y / 2 ^ W) := by omega
  rw [this, Nat.add_mul_div_left _ _ hp, Nat.div_eq_of_lt h, Nat.zero_add]
theorem fld_below (X r W n d : Nat) : (X + n * 2 ^ (r + W + d)) / 2 ^ r % 2 ^ W = X / 2 ^ r % 2 ^ W := by
  have e : n * 2 ^ (r + W + d) = (n * 2 ^ d * 2 ^ W) * 2 ^ r := by
    rw [Nat.pow_add, Nat.pow_add]; simp [Nat.mul_assoc, Nat.mul_comm, Nat.mul_left_comm]
  rw [e, Nat.add_mul_div_right _ _ (Nat.two_pow_pos r), Nat.add_mul_mod_self_right]

theorem cnt_set_word {W : Nat} {l : List Nat} {q Y m : Nat} (h : m * W / 64 ≠ q) : cnt W (l.set q Y) m = cnt W l m := by
  unfold cnt
  have : (l.set q Y).getD (m * W / 64) 0 = l.getD (m * W / 64) 0 := by
    simp only [List.getD]
    rw [List.getElem?_set_ne (Ne.symm h)]
  rw [this]
theorem cnt_set_in {W : Nat} {l : List Nat} {q Y m : Nat} (h : m * W / 64 = q) (hq : q < l.length) : cnt W (l.set q Y) m = Y / 2 ^ (m * W % 64) % 2 ^ W := by
  unfold cnt
  have : (l.set q Y).getD (m * W / 64) 0 = Y := by
    simp [List.getD, h, hq]
  rw [this]

theorem held_cnt {b W : Nat} (hw : Wid b W) {l : List Nat} {j n m : Nat} (hj : j * W / 64 < l.length) (hok : heldOk W l j n = true) :
    cnt W (held W l j n) m = if m = j then cnt W l j + n else cnt W l m := by
  have hk : cnt W l j ≠ 0 ∧ cnt W l j + n < 2 ^ W := of_decide_eq_true hok
  unfold held
  rw [if_pos hok]
  by_cases hmj : m = j
  · subst hmj
    rw [if_pos rfl, cnt_set_in rfl hj]
    exact fld_same _ _ _ _ hk.2
  · rw [if_neg hmj]
    by_cases hq : m * W / 64 = j * W / 64
    · rw [cnt_set_in hq hj]
      have hr : m * W % 64 + W ≤ j * W % 64 ∨ j * W % 64 + W ≤ m * W % 64 := by
        rcases hw with ⟨rfl, rfl⟩ | ⟨rfl, rfl⟩ | ⟨rfl, rfl⟩ | ⟨rfl, rfl⟩ <;> omega
      unfold cnt
      rw [hq]
      rcases hr with hr | hr
      · obtain ⟨d, hd⟩ := Nat.le.dest hr
        rw [← hd]
        exact fld_below _ _ _ _ _
      · obtain ⟨d, hd⟩ := Nat.le.dest hr
        rw [← hd, fld_above _ _ _ _ _ hk.2]
    · exact cnt_set_word hq
theorem held_no {W : Nat} {l : List Nat} {j n : Nat} (h : heldOk W l j n = false) : held W l j n = l := by
  unfold held; rw [h]; rfl
theorem held_len {W : Nat} {l : List Nat} {j n : Nat} : (held W l j n).length = l.length := by
  unfold held; split <;> simp
theorem held_wb {b W : Nat} (hw : Wid b W) {l : List Nat} {j n : Nat} (hX : WB l) : WB (held W l j n) := by
  intro i hi
  rw [held_len] at hi
  unfold held
  split
  · rename_i hok
    have hk : cnt W l j ≠ 0 ∧ cnt W l j + n < 2 ^ W := of_decide_eq_true hok
    by_cases hq : i = j * W / 64
    · subst hq
      have := add_word (l.getD (j * W / 64) 0) (j * W % 64) W n (by rcases hw with ⟨rfl, rfl⟩ | ⟨rfl, rfl⟩ | ⟨rfl, rfl⟩ | ⟨rfl, rfl⟩ <;> omega) (hX _ hi) hk.2
      rw [show (l.set (j * W / 64) (l.getD (j * W / 64) 0 + n * 2 ^ (j * W % 64))).getD (j * W / 64) 0 = l.getD (j * W / 64) 0 + n * 2 ^ (j * W % 64) by simp [List.getD, hi]]
      exact this.1
    · have e : (l.set (j * W / 64) (l.getD (j * W / 64) 0 + n * 2 ^ (j * W % 64))).getD i 0 = l.getD i 0 := by
        simp only [List.getD]
        rw [List.getElem?_set_ne (fun h => hq h.symm)]
      rw [e]; exact hX i hi
  · exact hX i hi
end Go.Proofs.Qxb6601640a
