/-
  Plain arithmetic of words of fields: carries, sums a field at a time, which fields are not 0, how many.
-/
import Derived.WalkKit
namespace Go.Proofs.Qxb6601640a
set_option linter.unusedVariables false
set_option linter.unusedSimpArgs false

/-- Field i of a word. -/
def fl (W X i : Nat) : Nat := X / 2 ^ (W * i) % 2 ^ W
theorem fl_lt (W X i : Nat) : fl W X i < 2 ^ W := Nat.mod_lt _ (Nat.two_pow_pos W)
/-- The carry into bit k. -/
def carry (x y k : Nat) : Bool := decide (2 ^ k ≤ x % 2 ^ k + y % 2 ^ k)

theorem mod_step (W X i : Nat) : X % 2 ^ (W * (i + 1)) = X % 2 ^ (W * i) + 2 ^ (W * i) * fl W X i := by
  unfold fl
  rw [Nat.mul_add, Nat.mul_one, Nat.pow_add, Nat.mod_mul]

theorem sum_bit (x y k : Nat) : (x + y).testBit k = ((x.testBit k ^^ y.testBit k) ^^ carry x y k) := by
  have hp := Nat.two_pow_pos k
  have h1 := Nat.div_add_mod x (2 ^ k)
  have h2 := Nat.div_add_mod y (2 ^ k)
  have hx := Nat.mod_lt x hp
  have hy := Nat.mod_lt y hp
  have key : (x + y) / 2 ^ k = x / 2 ^ k + y / 2 ^ k + (if 2 ^ k ≤ x % 2 ^ k + y % 2 ^ k then 1 else 0) := by
    generalize x / 2 ^ k = a at *
    generalize y / 2 ^ k = b at *
    generalize x % 2 ^ k = c at *
    generalize y % 2 ^ k = d at *
    generalize 2 ^ k = P at *
    subst h1 h2
    have e : P * a + c + (P * b + d) = (c + d) + P * (a + b) := by rw [Nat.mul_add]; omega
    rw [e, Nat.add_mul_div_left _ _ hp]
    split
    · rename_i h
      have : (c + d) / P = 1 := by
        rw [Nat.div_eq_iff hp]; omega
      omega
    · rename_i h
      rw [Nat.div_eq_of_lt (by omega)]
      omega
  unfold carry
  rw [Nat.testBit_eq_decide_div_mod_eq, Nat.testBit_eq_decide_div_mod_eq, Nat.testBit_eq_decide_div_mod_eq, key]
  generalize x / 2 ^ k = a
  generalize y / 2 ^ k = b
  have ha : a % 2 = 0 ∨ a % 2 = 1 := by omega
  have hb : b % 2 = 0 ∨ b % 2 = 1 := by omega
  split
  · rename_i h
    rw [decide_eq_true h]
    rcases ha with ha | ha <;> rcases hb with hb | hb
    · rw [show (a + b + 1) % 2 = 1 by omega, ha, hb]; rfl
    · rw [show (a + b + 1) % 2 = 0 by omega, ha, hb]; rfl
    · rw [show (a + b + 1) % 2 = 0 by omega, ha, hb]; rfl
    · rw [show (a + b + 1) % 2 = 1 by omega, ha, hb]; rfl
  · rename_i h
    rw [decide_eq_false h, Nat.add_zero]
    rcases ha with ha | ha <;> rcases hb with hb | hb
    · rw [show (a + b) % 2 = 0 by omega, ha, hb]; rfl
    · rw [show (a + b) % 2 = 1 by omega, ha, hb]; rfl
    · rw [show (a + b) % 2 = 1 by omega, ha, hb]; rfl
    · rw [show (a + b) % 2 = 0 by omega, ha, hb]; rfl

/-- Every field's sum fits it. -/
def Fits (W p x y : Nat) : Prop := ∀ i, i < p → fl W x i + fl W y i < 2 ^ W

theorem fits_low {W p x y : Nat} (h : Fits W p x y) : ∀ i, i ≤ p → x % 2 ^ (W * i) + y % 2 ^ (W * i) < 2 ^ (W * i) := by
  intro i
  induction i with
  | zero => intro _; simp [Nat.mod_one]
  | succ i ih =>
    intro hi
    have hl := ih (by omega)
    have hf := h i (by omega)
    rw [mod_step, mod_step, Nat.mul_add W i 1, Nat.mul_one, Nat.pow_add]
    have hm : 2 ^ (W * i) * (fl W x i + fl W y i + 1) ≤ 2 ^ (W * i) * 2 ^ W := Nat.mul_le_mul_left _ hf
    rw [Nat.mul_add, Nat.mul_add, Nat.mul_one] at hm
    omega
theorem fits_of_low {W p x y : Nat} (h : ∀ i, i ≤ p → x % 2 ^ (W * i) + y % 2 ^ (W * i) < 2 ^ (W * i)) : Fits W p x y := by
  intro i hi
  have hc := h (i + 1) hi
  rw [mod_step, mod_step, Nat.mul_add W i 1, Nat.mul_one, Nat.pow_add] at hc
  rcases Nat.lt_or_ge (fl W x i + fl W y i) (2 ^ W) with hlt | hge
  · exact hlt
  · exfalso
    have hm : 2 ^ (W * i) * 2 ^ W ≤ 2 ^ (W * i) * (fl W x i + fl W y i) := Nat.mul_le_mul_left _ hge
    rw [Nat.mul_add] at hm
    omega
theorem fl_add {W p x y : Nat} (h : Fits W p x y) (i : Nat) (hi : i < p) : fl W (x + y) i = fl W x i + fl W y i := by
  have hl := fits_low h i (by omega)
  have hf := h i hi
  have hp := Nat.two_pow_pos (W * i)
  have key : (x + y) / 2 ^ (W * i) = x / 2 ^ (W * i) + y / 2 ^ (W * i) := by
    have h1 := Nat.div_add_mod x (2 ^ (W * i))
    have h2 := Nat.div_add_mod y (2 ^ (W * i))
    generalize x / 2 ^ (W * i) = a at *
    generalize y / 2 ^ (W * i) = b at *
    generalize x % 2 ^ (W * i) = c at *
    generalize y % 2 ^ (W * i) = d at *
    generalize 2 ^ (W * i) = P at *
    subst h1 h2
    have e : P * a + c + (P * b + d) = (c + d) + P * (a + b) := by rw [Nat.mul_add]; omega
    rw [e, Nat.add_mul_div_left _ _ hp, Nat.div_eq_of_lt hl, Nat.zero_add]
  unfold fl at hf ⊢
  rw [key, Nat.add_mod, Nat.mod_eq_of_lt hf]

/-- The test for a carry out of a field, at words of 64 bits. -/
theorem carry_test {W p B x y : Nat} (hWp : W * p = 64) (hx : x < 2 ^ 64) (hy : y < 2 ^ 64) (hB : B < 2 ^ 64) (hb : ∀ k, k < 64 → B.testBit k = decide (k % W = 0)) :
    ((x ^^^ y ^^^ ((x + y) % 2 ^ 64)) &&& B = 0 ∧ ¬ ((x + y) % 2 ^ 64 < x)) ↔ Fits W p x y := by
  have hW : 0 < W := Nat.pos_of_ne_zero (fun e => by rw [e] at hWp; simp at hWp)
  have bit : ∀ k, k < 64 → (x ^^^ y ^^^ ((x + y) % 2 ^ 64)).testBit k = carry x y k := by
    intro k hk
    rw [Nat.testBit_xor, Nat.testBit_xor, Nat.testBit_mod_two_pow, sum_bit, decide_eq_true hk]
    cases x.testBit k <;> cases y.testBit k <;> cases carry x y k <;> rfl
  have h64 : ¬ ((x + y) % 2 ^ 64 < x) ↔ x + y < 2 ^ 64 := by omega
  constructor
  · rintro ⟨h1, h2⟩
    rw [h64] at h2
    apply fits_of_low
    intro i hi
    by_cases hip : i = p
    · rw [hip, hWp, Nat.mod_eq_of_lt hx, Nat.mod_eq_of_lt hy]; exact h2
    · have hk : W * i < 64 := by rw [← hWp]; exact Nat.mul_lt_mul_of_pos_left (by omega) hW
      have := congrArg (fun z => Nat.testBit z (W * i)) h1
      simp only [Nat.testBit_and, Nat.zero_testBit] at this
      rw [bit _ hk, hb _ hk, Nat.mul_mod_right] at this
      simp [carry] at this
      omega
  · intro h
    have hlow := fits_low h
    refine ⟨?_, ?_⟩
    · apply Nat.eq_of_testBit_eq
      intro k
      rw [Nat.testBit_and, Nat.zero_testBit]
      by_cases hk : k < 64
      · rw [bit k hk, hb k hk]
        by_cases hm : k % W = 0
        · obtain ⟨i, rfl⟩ := Nat.dvd_of_mod_eq_zero hm
          have hi : i ≤ p := by
            rcases Nat.lt_or_ge p i with hlt | hge
            · have : W * p ≤ W * i := Nat.mul_le_mul_left _ (by omega)
              omega
            · exact hge
          have := hlow i hi
          simp [carry]
          omega
        · simp [hm]
      · rw [show B.testBit k = false from Nat.testBit_lt_two_pow (Nat.lt_of_lt_of_le hB (Nat.pow_le_pow_right (by decide) (by omega)))]
        simp
    · rw [h64]
      have := hlow p (Nat.le_refl _)
      rw [hWp, Nat.mod_eq_of_lt hx, Nat.mod_eq_of_lt hy] at this
      exact this

theorem fl_and (W x y i : Nat) : fl W (x &&& y) i = fl W x i &&& fl W y i := by
  unfold fl
  rw [Nat.and_div_two_pow, Nat.and_mod_two_pow]
theorem fl_bit (W x i j : Nat) (hj : j < W) : (fl W x i).testBit j = x.testBit (W * i + j) := by
  unfold fl
  rw [Nat.testBit_mod_two_pow, Nat.testBit_div_two_pow]
  simp [hj, Nat.add_comm]

/-- The layout of a word of fields: the bottom bits, the top bits, the rest. -/
structure Wd (W p B T : Nat) : Prop where
  wp : W * p = 64
  w1 : 1 < W
  b64 : B < 2 ^ 64
  bb : ∀ k, k < 64 → B.testBit k = decide (k % W = 0)
  t64 : T < 2 ^ 64
  tb : ∀ k, k < 64 → T.testBit k = decide (k % W = W - 1)
  mf : ∀ i, i < p → fl W (18446744073709551615 - T) i = 2 ^ (W - 1) - 1

/-- The top bits of the fields that are not 0. -/
def nz (T x : Nat) : Nat := (((x &&& (18446744073709551615 - T)) + (18446744073709551615 - T)) ||| x) &&& T

theorem low_fits {W p B T : Nat} (D : Wd W p B T) (x : Nat) : Fits W p (x &&& (18446744073709551615 - T)) (18446744073709551615 - T) := by
  intro i hi
  rw [fl_and, D.mf i hi, Nat.and_two_pow_sub_one_eq_mod]
  have h1 := D.w1
  have h2 : 2 ^ W = 2 ^ (W - 1) * 2 := by rw [← Nat.pow_succ]; congr 1; omega
  have h3 := Nat.mod_lt (fl W x i) (Nat.two_pow_pos (W - 1))
  omega
theorem low_lt {W p B T : Nat} (D : Wd W p B T) (x : Nat) : (x &&& (18446744073709551615 - T)) + (18446744073709551615 - T) < 2 ^ 64 := by
  have h := fits_low (low_fits D x) p (Nat.le_refl _)
  rw [D.wp] at h
  have h1 : x &&& (18446744073709551615 - T) ≤ 18446744073709551615 - T := Nat.and_le_right
  rw [Nat.mod_eq_of_lt (by omega), Nat.mod_eq_of_lt (by omega)] at h
  exact h

theorem nz_bit {W p B T : Nat} (D : Wd W p B T) (x k : Nat) : (nz T x).testBit k = decide (k < 64 ∧ k % W = W - 1 ∧ fl W x (k / W) ≠ 0) := by
  have h1 := D.w1
  unfold nz
  rw [Nat.testBit_and, Nat.testBit_or]
  by_cases hk : k < 64
  · rw [D.tb k hk]
    by_cases hm : k % W = W - 1
    · have hkd : k = W * (k / W) + (W - 1) := by have := Nat.div_add_mod k W; omega
      have hi : k / W < p := by
        rw [Nat.div_lt_iff_lt_mul (by omega), Nat.mul_comm, D.wp]; exact hk
      have e1 : ((x &&& (18446744073709551615 - T)) + (18446744073709551615 - T)).testBit k = decide (fl W x (k / W) % 2 ^ (W - 1) ≠ 0) := by
        conv => lhs; rw [hkd]
        rw [← fl_bit W _ _ _ (by omega), fl_add (low_fits D x) _ hi, fl_and, D.mf _ hi, Nat.and_two_pow_sub_one_eq_mod, Nat.testBit_eq_decide_div_mod_eq]
        have h3 := Nat.mod_lt (fl W x (k / W)) (Nat.two_pow_pos (W - 1))
        have hp := Nat.two_pow_pos (W - 1)
        generalize fl W x (k / W) % 2 ^ (W - 1) = a at *
        generalize 2 ^ (W - 1) = P at *
        rw [decide_eq_decide]
        by_cases ha : a = 0
        · subst ha
          rw [Nat.div_eq_of_lt (by omega)]; simp
        · have : (a + (P - 1)) / P = 1 := by rw [Nat.div_eq_iff hp]; omega
          rw [this]; simp [ha]
      have e2 : x.testBit k = decide (fl W x (k / W) / 2 ^ (W - 1) ≠ 0) := by
        conv => lhs; rw [hkd]
        rw [← fl_bit W _ _ _ (by omega), Nat.testBit_eq_decide_div_mod_eq, decide_eq_decide]
        have h2 : 2 ^ W = 2 ^ (W - 1) * 2 := by rw [← Nat.pow_succ]; congr 1; omega
        have hf := fl_lt W x (k / W)
        have : fl W x (k / W) / 2 ^ (W - 1) < 2 := by
          rw [Nat.div_lt_iff_lt_mul (Nat.two_pow_pos _), Nat.mul_comm, ← h2]; exact hf
        generalize fl W x (k / W) / 2 ^ (W - 1) = z at *
        omega
      rw [e1, e2]
      have hdm := Nat.div_add_mod (fl W x (k / W)) (2 ^ (W - 1))
      have hp := Nat.two_pow_pos (W - 1)
      by_cases hz : fl W x (k / W) = 0
      · rw [hz]; simp
      · simp only [hk, hm, hz, ne_eq, not_false_eq_true, and_self, decide_true, Bool.and_true]
        by_cases hz1 : fl W x (k / W) % 2 ^ (W - 1) = 0
        · have hz2 : fl W x (k / W) / 2 ^ (W - 1) ≠ 0 := by
            intro e; rw [e, hz1] at hdm; simp at hdm; omega
          simp [hz2]
        · simp [hz1]
    · simp [hm]
  · rw [show T.testBit k = false from Nat.testBit_lt_two_pow (Nat.lt_of_lt_of_le D.t64 (Nat.pow_le_pow_right (by decide) (by omega)))]
    simp [hk]

/-- The top bits of the fields that are 0 in x and not in y. -/
def newly (T x y : Nat) : Nat := nz T y &&& (18446744073709551615 - nz T x)
theorem nz_lt {W p B T : Nat} (D : Wd W p B T) (x : Nat) : nz T x < 18446744073709551616 :=
  Nat.lt_of_le_of_lt Nat.and_le_right D.t64

theorem compl_bit (x k : Nat) (hx : x < 18446744073709551616) : (18446744073709551615 - x).testBit k = (decide (k < 64) && !x.testBit k) := by
  have := Nat.testBit_two_pow_sub_succ (x := x) (n := 64) hx k
  rw [← this]
  congr 1
  omega

theorem newly_bit {W p B T : Nat} (D : Wd W p B T) (x y k : Nat) : (newly T x y).testBit k = decide (k < 64 ∧ k % W = W - 1 ∧ fl W y (k / W) ≠ 0 ∧ fl W x (k / W) = 0) := by
  unfold newly
  rw [Nat.testBit_and, compl_bit _ _ (nz_lt D x), nz_bit D, nz_bit D]
  by_cases hk : k < 64 <;> by_cases hm : k % W = W - 1 <;> by_cases h1 : fl W y (k / W) = 0 <;> by_cases h2 : fl W x (k / W) = 0 <;> simp [hk, hm, h1, h2]

/-- A word of top bits, by a list of marks. -/
def topsOf (W : Nat) (f : Nat → Bool) : Nat → Nat
  | 0 => 0
  | n + 1 => topsOf W f n + if f n then 2 ^ (W * n + (W - 1)) else 0
def marks (f : Nat → Bool) : Nat → Nat
  | 0 => 0
  | n + 1 => marks f n + if f n then 1 else 0
theorem topsOf_lt (W : Nat) (hW : 1 < W) (f : Nat → Bool) (n : Nat) : topsOf W f n < 2 ^ (W * n) := by
  induction n with
  | zero => simp [topsOf]
  | succ n ih =>
    have h1 : 2 ^ (W * (n + 1)) = 2 ^ (W * n + (W - 1)) * 2 := by rw [← Nat.pow_succ]; congr 1; rw [Nat.mul_add]; omega
    have h2 : 2 ^ (W * n) ≤ 2 ^ (W * n + (W - 1)) := Nat.pow_le_pow_right (by decide) (by omega)
    unfold topsOf
    split <;> omega
theorem topsOf_bit (W : Nat) (hW : 1 < W) (f : Nat → Bool) (n k : Nat) : (topsOf W f n).testBit k = decide (k < W * n ∧ k % W = W - 1 ∧ f (k / W) = true) := by
  induction n with
  | zero => simp [topsOf]
  | succ n ih =>
    have hlt := topsOf_lt W hW f n
    have hlt2 : topsOf W f n < 2 ^ (W * n + (W - 1)) := Nat.lt_of_lt_of_le hlt (Nat.pow_le_pow_right (by decide) (by omega))
    have hkey : (topsOf W f (n + 1)).testBit k = ((topsOf W f n).testBit k || (f n && decide (k = W * n + (W - 1)))) := by
      show (topsOf W f n + if f n = true then 2 ^ (W * n + (W - 1)) else 0).testBit k = _
      by_cases hf : f n = true
      · rw [if_pos hf, hf, Nat.add_comm]
        have := Nat.two_pow_add_eq_or_of_lt hlt2 1
        rw [Nat.mul_one] at this
        rw [this, Nat.testBit_or, Nat.testBit_two_pow, Bool.or_comm, Bool.true_and]
        congr 1
        rw [decide_eq_decide]
        exact eq_comm
      · rw [if_neg hf]
        simp [hf]
    rw [hkey, ih]
    by_cases h1 : k < W * n
    · have : k ≠ W * n + (W - 1) := by omega
      have h2 : k < W * (n + 1) := by rw [Nat.mul_add]; omega
      simp [h1, h2, this]
    · by_cases h2 : k = W * n + (W - 1)
      · have h3 : k < W * (n + 1) := by rw [Nat.mul_add]; omega
        have h4 : k % W = W - 1 := by rw [h2, Nat.mul_add_mod]; exact Nat.mod_eq_of_lt (by omega)
        have h5 : k / W = n := by rw [h2, Nat.mul_add_div (by omega), Nat.div_eq_of_lt (by omega), Nat.add_zero]
        rw [decide_eq_true h2, decide_eq_false (fun h => h1 h.1)]
        simp only [h3, h4, h5, true_and, Bool.false_or, Bool.and_true]
        cases f n <;> rfl
      · have : ¬ (k < W * (n + 1) ∧ k % W = W - 1 ∧ f (k / W) = true) := by
          rintro ⟨h3, h4, -⟩
          have := Nat.div_add_mod k W
          have h5 : k / W = n := by
            rw [Nat.mul_add] at h3
            apply Nat.div_eq_of_lt_le <;> (rw [Nat.mul_comm]; first | omega | (rw [Nat.mul_add]; omega))
          rw [h5] at this
          omega
        simp [h1, h2, this]

theorem newly_tops {W p B T : Nat} (D : Wd W p B T) (x y : Nat) : newly T x y = topsOf W (fun i => decide (fl W y i ≠ 0 ∧ fl W x i = 0)) p := by
  apply Nat.eq_of_testBit_eq
  intro k
  rw [newly_bit D, topsOf_bit W D.w1, D.wp]
  simp

/-- How many. -/
def popN (W B z : Nat) : Nat := z / 2 ^ (W - 1) * B % 18446744073709551616 / 2 ^ (64 - W)

theorem wd8 : Wd 8 8 72340172838076673 9259542123273814144 := ⟨by decide, by decide, by decide, by decide +kernel, by decide, by decide +kernel, by decide +kernel⟩
theorem wd16 : Wd 16 4 281479271743489 9223512776490647552 := ⟨by decide, by decide, by decide, by decide +kernel, by decide, by decide +kernel, by decide +kernel⟩
theorem wd32 : Wd 32 2 4294967297 9223372039002259456 := ⟨by decide, by decide, by decide, by decide +kernel, by decide, by decide +kernel, by decide +kernel⟩
theorem wd64 : Wd 64 1 1 9223372036854775808 := ⟨by decide, by decide, by decide, by decide +kernel, by decide, by decide +kernel, by decide +kernel⟩

theorem pop8 (f : Nat → Bool) : popN 8 72340172838076673 (topsOf 8 f 8) = marks f 8 := by
  have key : ∀ a b c d e g h i : Bool, popN 8 72340172838076673 (0 + (if a then 2 ^ 7 else 0) + (if b then 2 ^ 15 else 0) + (if c then 2 ^ 23 else 0) + (if d then 2 ^ 31 else 0) + (if e then 2 ^ 39 else 0) + (if g then 2 ^ 47 else 0) + (if h then 2 ^ 55 else 0) + (if i then 2 ^ 63 else 0)) =
      0 + (if a then 1 else 0) + (if b then 1 else 0) + (if c then 1 else 0) + (if d then 1 else 0) + (if e then 1 else 0) + (if g then 1 else 0) + (if h then 1 else 0) + (if i then 1 else 0) := by decide +kernel
  exact key (f 0) (f 1) (f 2) (f 3) (f 4) (f 5) (f 6) (f 7)
theorem pop16 (f : Nat → Bool) : popN 16 281479271743489 (topsOf 16 f 4) = marks f 4 := by
  have key : ∀ a b c d : Bool, popN 16 281479271743489 (0 + (if a then 2 ^ 15 else 0) + (if b then 2 ^ 31 else 0) + (if c then 2 ^ 47 else 0) + (if d then 2 ^ 63 else 0)) =
      0 + (if a then 1 else 0) + (if b then 1 else 0) + (if c then 1 else 0) + (if d then 1 else 0) := by decide +kernel
  exact key (f 0) (f 1) (f 2) (f 3)
theorem pop32 (f : Nat → Bool) : popN 32 4294967297 (topsOf 32 f 2) = marks f 2 := by
  have key : ∀ a b : Bool, popN 32 4294967297 (0 + (if a then 2 ^ 31 else 0) + (if b then 2 ^ 63 else 0)) = 0 + (if a then 1 else 0) + (if b then 1 else 0) := by decide +kernel
  exact key (f 0) (f 1)
theorem pop64 (f : Nat → Bool) : popN 64 1 (topsOf 64 f 1) = marks f 1 := by
  have key : ∀ a : Bool, popN 64 1 (0 + (if a then 2 ^ 63 else 0)) = 0 + (if a then 1 else 0) := by decide +kernel
  exact key (f 0)

theorem marks_le (f : Nat → Bool) (n : Nat) : marks f n ≤ n := by
  induction n with
  | zero => exact Nat.le_refl _
  | succ n ih => unfold marks; split <;> omega
theorem newly_ne {W p B T : Nat} (D : Wd W p B T) (x y : Nat) : newly T x y ≠ 18446744073709551615 := by
  intro h
  have h0 := newly_bit D x y 0
  rw [h] at h0
  have hw := D.w1
  simp at h0
  omega
theorem newly_lt {W p B T : Nat} (D : Wd W p B T) (x y : Nat) : newly T x y < 18446744073709551616 :=
  Nat.lt_of_le_of_lt Nat.and_le_left (nz_lt D y)

end Go.Proofs.Qxb6601640a
