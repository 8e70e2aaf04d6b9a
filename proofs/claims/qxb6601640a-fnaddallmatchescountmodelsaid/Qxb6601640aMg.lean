/-
  Plain: words merged from one on.
-/
import Derived.Test.Qxb6601640aWordAs
namespace Go.Proofs.Qxb6601640a
set_option linter.unusedVariables false
set_option linter.unusedSimpArgs false

/-- The words t0 .. t-1 have y's words added. -/
def mg (lc : List Nat) (y : Nat → Nat) (t0 t : Nat) : List Nat := (List.range lc.length).map fun k => if t0 ≤ k ∧ k < t then lc.getD k 0 + y k else lc.getD k 0
theorem mg_len (lc : List Nat) (y : Nat → Nat) (t0 t : Nat) : (mg lc y t0 t).length = lc.length := by simp [mg]
theorem mg_get (lc : List Nat) (y : Nat → Nat) (t0 t k : Nat) (hk : k < lc.length) : (mg lc y t0 t).getD k 0 = if t0 ≤ k ∧ k < t then lc.getD k 0 + y k else lc.getD k 0 := by
  simp [mg, List.getD, hk]
theorem mg_start (lc : List Nat) (y : Nat → Nat) (t0 t : Nat) (h : t ≤ t0) : mg lc y t0 t = lc := by
  apply List.ext_getElem?
  intro k
  by_cases hk : k < lc.length
  · have : ¬ (t0 ≤ k ∧ k < t) := by omega
    simp [mg, hk, this]
  · rw [List.getElem?_eq_none (by rw [mg_len]; omega), List.getElem?_eq_none (by omega)]
theorem mg_set (lc : List Nat) (y : Nat → Nat) (t0 t : Nat) (h0 : t0 ≤ t) (h : t < lc.length) : (mg lc y t0 t).set t (lc.getD t 0 + y t) = mg lc y t0 (t + 1) := by
  apply List.ext_getElem?
  intro k
  by_cases hk : k < lc.length
  · rw [List.getElem?_set]
    by_cases he : t = k
    · subst he
      rw [if_pos rfl, if_pos (by rw [mg_len]; exact h)]
      have : t0 ≤ t ∧ t < t + 1 := by omega
      simp [mg, h, this]
    · rw [if_neg he]
      by_cases hc : t0 ≤ k ∧ k < t
      · have : t0 ≤ k ∧ k < t + 1 := by omega
        simp [mg, hk, hc, this]
      · have : ¬ (t0 ≤ k ∧ k < t + 1) := by omega
        simp [mg, hk, hc, this]
  · rw [List.getElem?_eq_none (by simp [mg_len]; omega), List.getElem?_eq_none (by rw [mg_len]; omega)]
theorem mg_wb {W p : Nat} (hWp : W * p = 64) {lc : List Nat} {y : Nat → Nat} {t0 t : Nat} (hX : WB lc) (hy : ∀ k, y k < 18446744073709551616) (hf : ∀ k, t0 ≤ k → k < t → Fits W p (lc.getD k 0) (y k)) : WB (mg lc y t0 t) := by
  intro k hk
  rw [mg_len] at hk
  rw [mg_get _ _ _ _ _ hk]
  split
  · rename_i h
    have := fits_low (hf k h.1 h.2) p (Nat.le_refl _)
    rw [hWp] at this
    rw [Nat.mod_eq_of_lt (hX k hk), Nat.mod_eq_of_lt (hy k)] at this
    exact this
  · exact hX k hk

/-- How many fields go from 0 to more. -/
def newc (W p x y : Nat) : Nat := marks (fun i => decide (fl W y i ≠ 0 ∧ fl W x i = 0)) p
theorem newc_le (W p x y : Nat) : newc W p x y ≤ p := marks_le _ _
theorem pop_newly {b W p B T : Nat} (h : Fld b W p B T) (x y : Nat) : popN W B (newly T x y) = newc W p x y := by
  rw [newly_tops h.wd, h.pop]; rfl
/-- .. over the first k words from t0 on. -/
def fil (W p : Nat) (lc : List Nat) (y : Nat → Nat) (t0 : Nat) : Nat → Nat
  | 0 => 0
  | k + 1 => fil W p lc y t0 k + newc W p (lc.getD (t0 + k) 0) (y (t0 + k))
theorem fil_le (W p : Nat) (hp : p ≤ 8) (lc : List Nat) (y : Nat → Nat) (t0 k : Nat) : fil W p lc y t0 k ≤ 8 * k := by
  induction k with
  | zero => exact Nat.le_refl _
  | succ k ih =>
    have := newc_le W p (lc.getD (t0 + k) 0) (y (t0 + k))
    show fil W p lc y t0 k + newc W p (lc.getD (t0 + k) 0) (y (t0 + k)) ≤ _
    omega
end Go.Proofs.Qxb6601640a
