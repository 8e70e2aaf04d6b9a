/-
  counters.addAll 31 from 'end := j + n' on.
-/
import Derived.Test.Qxb6601640aSuf
import Derived.Test.Qxb6601640aWid
import Derived.Deep.DeepCutAuto
namespace Go.Proofs.Qxb6601640a
open Go.RowKit
set_option linter.unusedVariables false
set_option linter.unusedSimpArgs false

theorem clear_low (k x : Nat) (hk : k ≤ 3) (hx : x < 2 ^ 62) : x &&& (18446744073709551615 - (2 ^ k - 1)) = x / 2 ^ k * 2 ^ k := by
  apply Nat.eq_of_testBit_eq
  intro i
  have hp := Nat.two_pow_pos k
  have h8 : 2 ^ k ≤ 2 ^ 3 := Nat.pow_le_pow_right (by decide) hk
  rw [Nat.testBit_and, compl_bit _ _ (by omega), Nat.testBit_two_pow_sub_one, Nat.mul_comm, Nat.testBit_two_pow_mul, Nat.testBit_div_two_pow]
  by_cases h1 : i < k
  · simp [h1, show ¬ (k ≤ i) by omega]
  · by_cases h2 : i < 64
    · simp [h1, h2, show k ≤ i by omega]
    · have : x.testBit i = false := Nat.testBit_lt_two_pow (Nat.lt_of_lt_of_le hx (Nat.pow_le_pow_right (by decide) (by omega)))
      simp [h1, h2, show k ≤ i by omega, this]
theorem wrap_i64_small (z : Nat) (h : z < 2 ^ 62) : IntKind.i64.wrap (z : Int) = (z : Int) := by
  simp only [IntKind.wrap, IntKind.bits, IntKind.signed]
  simp
  omega
theorem andNot_low (k x : Nat) (hk : k ≤ 3) (hx : x < 2 ^ 62) : bits .andNot .i64 (x : Int) ((2 ^ k - 1 : Nat) : Int) = ((x / 2 ^ k * 2 ^ k : Nat) : Int) := by
  have hp := Nat.two_pow_pos k
  have h8 : 2 ^ k ≤ 2 ^ 3 := Nat.pow_le_pow_right (by decide) hk
  have hle : x / 2 ^ k * 2 ^ k ≤ x := Nat.div_mul_le_self _ _
  show IntKind.i64.wrap ((BitVec.ofInt 64 (x : Int) &&& ~~~BitVec.ofInt 64 ((2 ^ k - 1 : Nat) : Int)).toNat : Int) = _
  rw [BitVec.toNat_and, BitVec.toNat_not, ofInt_u64 x (by omega), ofInt_u64 _ (by omega), show 2 ^ 64 - 1 - (2 ^ k - 1) = 18446744073709551615 - (2 ^ k - 1) by omega, clear_low k x hk hx]
  exact wrap_i64_small _ (by omega)

/-- addAll's state: counts up to i are summed. -/
structure AS (w0 wr : World) (c : Nat) (F : Nat → Prop) (N : Nat) (C0 OC : Nat → Nat) (i0 i b W p : Nat) (v : Value) (l : List Nat) : Prop where
  wid : Wid b W
  wp : W * p = 64
  len : l.length * p = N
  wb : WB l
  box : Box wr c v (2 ^ W - 1) b (6 - b)
  ow : OW wr v l
  vf : ∀ x, v.ownBlock = some x → F x
  ch : Chg F w0 wr
  cn : ∀ m, m < N → cnt W l m = if i0 ≤ m ∧ m < i then C0 m + OC m else C0 m

/-- No narrower width from bs on holds the sums. -/
def Least (C0 OC : Nat → Nat) (j n bs b : Nat) : Prop := ∀ b' W', Wid b' W' → bs ≤ b' → b' < b → ∃ m, j ≤ m ∧ m < j + n ∧ 2 ^ W' ≤ C0 m + OC m

/-- What a call of addWords does in that state. -/
def CallAW (w0 : World) (c o : Nat) (F : Nat → Prop) (N : Nat) (C0 OC : Nat → Nat) (i0 e : Nat) (d : Int) (bs : Nat) : Prop :=
  ∀ (wr : World) (t b W p : Nat) (v : Value) (l : List Nat), AS w0 wr c F N C0 OC i0 (t * p) b W p v l → bs ≤ b → i0 ≤ t * p → t * p < e →
    ∃ y, YC W p l y OC t ((e + p - 1) / p) ∧ (∀ s, y s < 18446744073709551616) ∧
      Calls Try.prog 32 #[.pointer (some ⟨c, 0, none⟩), .pointer (some ⟨o, 0, none⟩), .int .i64 ((t * p : Nat) : Int), .int .i64 e, .int .i64 d] wr fun r w' => AWv W p l y v t ((e + p - 1) / p) wr r w'

def isN (C0 OC : Nat → Nat) (i0 x : Nat) : Bool := decide (C0 (i0 + x) = 0 ∧ OC (i0 + x) ≠ 0)

theorem up_le {e p p0 : Nat} (h : p ∣ p0) (hp : 0 < p) (hp0 : 0 < p0) : (e + p - 1) / p * p ≤ (e + p0 - 1) / p0 * p0 := by
  have h1 : e ≤ (e + p0 - 1) / p0 * p0 := by
    have := Nat.div_add_mod (e + p0 - 1) p0
    have h2 := Nat.mod_lt (e + p0 - 1) hp0
    rw [Nat.mul_comm] at this
    omega
  obtain ⟨q, rfl⟩ := h
  have h3 : (e + p - 1) / p ≤ (e + p * q - 1) / (p * q) * q := by
    rw [← Nat.lt_succ_iff, Nat.div_lt_iff_lt_mul hp]
    have : (e + p * q - 1) / (p * q) * (p * q) = (e + p * q - 1) / (p * q) * q * p := by rw [Nat.mul_comm p q, Nat.mul_assoc]
    rw [this] at h1
    rw [Nat.succ_mul]
    omega
  calc (e + p - 1) / p * p ≤ (e + p * q - 1) / (p * q) * q * p := Nat.mul_le_mul_right _ h3
    _ = (e + p * q - 1) / (p * q) * (p * q) := by rw [Nat.mul_comm p q, Nat.mul_assoc]

/-- One call's gain, plainly. -/
theorem as_next {w0 wr w' : World} {c : Nat} {F : Nat → Prop} {N : Nat} {C0 OC : Nat → Nat} {i0 t b W p ts : Nat} {v : Value} {l : List Nat} {y : Nat → Nat} {t1 : Nat} (h : AS w0 wr c F N C0 OC i0 (t * p) b W p v l) (hFc : F c) (hcv : v.ownBlock ≠ some c) (hi0 : i0 ≤ t * p)
    (hYC : YC W p l y OC t t1) (hyl : ∀ s, y s < 18446744073709551616) (h0 : t ≤ ts) (h1 : ts ≤ t1) (ht1 : t1 * p ≤ N) (hf : ∀ k, t ≤ k → k < ts → Fits W p (l.getD k 0) (y k)) (how : OW w' v (mg l y t ts)) (hch : Chg (fun x => v.ownBlock = some x) wr w') :
    AS w0 w' c F N C0 OC i0 (ts * p) b W p v (mg l y t ts) ∧ fil W p l y t (ts - t) = marks (fun x => isN C0 OC i0 (t * p - i0 + x)) (ts * p - t * p) := by
  have htp : t * p ≤ ts * p := Nat.mul_le_mul_right _ h0
  have hsp : ts * p ≤ t1 * p := Nat.mul_le_mul_right _ h1
  refine ⟨⟨h.wid, h.wp, by rw [mg_len]; exact h.len, mg_wb h.wp h.wb hyl hf, h.box.chg hch hcv, how, h.vf, h.ch.trans hch (fun x _ hx => h.vf x hx), fun m hm => ?_⟩, ?_⟩
  · rw [hYC.cnt h0 h1 hf m (by rw [h.len]; exact hm), h.cn m hm]
    by_cases hm1 : t * p ≤ m ∧ m < ts * p
    · rw [if_pos hm1, if_neg (by omega), if_pos (by omega)]
    · rw [if_neg hm1]
      by_cases hm2 : i0 ≤ m ∧ m < t * p
      · rw [if_pos hm2, if_pos (by omega)]
      · rw [if_neg hm2, if_neg (by omega)]
  · rw [hYC.fil _ (by omega), Nat.sub_mul]
    apply marks_congr
    intro x hx
    unfold isNew isN
    have e1 : i0 + (t * p - i0 + x) = t * p + x := by omega
    rw [e1, h.cn (t * p + x) (by omega), if_neg (by omega)]

end Go.Proofs.Qxb6601640a
