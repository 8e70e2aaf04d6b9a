/-
  counters.fields 37, counters.place 36, counters.wordAs 40.
-/
import Derived.Test.Qxb6601640aFld
namespace Go.Proofs.Qxb6601640a
open Go.RowKit
set_option linter.unusedVariables false
set_option linter.unusedSimpArgs false

theorem Try.size57 : (Try.prog.info? 57).map (·.size) = some 4 := by kernel_rfl

set_option maxRecDepth 100000 in
theorem fields_any (c : Nat) (v : Value) (full b pl W p B T : Nat) (hL : Lay full b pl W) (hF : Fld b W p B T) (w : World) (hB : Box w c v full b pl) :
    Calls Try.prog 37 #[.pointer (some ⟨c, 0, none⟩)] w fun e w' => e = .returned (FV B T (W - 1) (64 - W)) ∧ w' = w.alloc (FO B T (W - 1) (64 - W)) := by
  obtain ⟨c0, c1, c2, c3⟩ := hB.cells
  have hl := hB.lt
  obtain ⟨-, rfl, rfl⟩ := hL
  clear hB
  rcases hF with ⟨rfl, rfl, rfl, rfl, rfl⟩ | ⟨rfl, rfl, rfl, rfl, rfl⟩ | ⟨rfl, rfl, rfl, rfl, rfl⟩ | ⟨rfl, rfl, rfl, rfl, rfl⟩
  · have e2 : bits BinOp.and IntKind.u8 3 7 = 3 := by decide
    have e3 : bits BinOp.and IntKind.u64 7 63 = 7 := by decide
    have e4 : bits BinOp.and IntKind.u64 56 63 = 56 := by decide
    go_enter Try.func37, Try.ntmps37
    go_wp2_with fail
    (try simp only [Exit.inBlock, Exit.then])
    refine bodyPost_ret (results_cell_row rfl _ _ w.heap.size 57 _ (0, 0) _ rfl (heap_alloc_new _ _) Try.underlying57 rfl Try.size57) rfl ?_
    exact ⟨rfl, rfl⟩
  · have e2 : bits BinOp.and IntKind.u8 4 7 = 4 := by decide
    have e3 : bits BinOp.and IntKind.u64 15 63 = 15 := by decide
    have e4 : bits BinOp.and IntKind.u64 48 63 = 48 := by decide
    go_enter Try.func37, Try.ntmps37
    go_wp2_with fail
    (try simp only [Exit.inBlock, Exit.then])
    refine bodyPost_ret (results_cell_row rfl _ _ w.heap.size 57 _ (0, 0) _ rfl (heap_alloc_new _ _) Try.underlying57 rfl Try.size57) rfl ?_
    exact ⟨rfl, rfl⟩
  · have e2 : bits BinOp.and IntKind.u8 5 7 = 5 := by decide
    have e3 : bits BinOp.and IntKind.u64 31 63 = 31 := by decide
    have e4 : bits BinOp.and IntKind.u64 32 63 = 32 := by decide
    go_enter Try.func37, Try.ntmps37
    go_wp2_with fail
    (try simp only [Exit.inBlock, Exit.then])
    refine bodyPost_ret (results_cell_row rfl _ _ w.heap.size 57 _ (0, 0) _ rfl (heap_alloc_new _ _) Try.underlying57 rfl Try.size57) rfl ?_
    exact ⟨rfl, rfl⟩
  · have e2 : bits BinOp.and IntKind.u8 6 7 = 6 := by decide
    have e3 : bits BinOp.and IntKind.u64 63 63 = 63 := by decide
    have e4 : bits BinOp.and IntKind.u64 0 63 = 0 := by decide
    go_enter Try.func37, Try.ntmps37
    go_wp2_with fail
    (try simp only [Exit.inBlock, Exit.then])
    refine bodyPost_ret (results_cell_row rfl _ _ w.heap.size 57 _ (0, 0) _ rfl (heap_alloc_new _ _) Try.underlying57 rfl Try.size57) rfl ?_
    exact ⟨rfl, rfl⟩

theorem place_any (c : Nat) (v : Value) (full b pl W j : Nat) (hw : Wid b W) (w : World) (hB : Box w c v full b pl) (hj : j ≤ 100000000000) :
    Calls Try.prog 36 #[.pointer (some ⟨c, 0, none⟩), .int .i64 j] w fun e w' => e = .returned (.tuple #[.int .u64 (j * W / 64 : Nat), .int .u64 (j * W % 64 : Nat)]) ∧ w' = w := by
  obtain ⟨c0, c1, c2, c3⟩ := hB.cells
  clear hB
  rcases hw with ⟨rfl, rfl⟩ | ⟨rfl, rfl⟩ | ⟨rfl, rfl⟩ | ⟨rfl, rfl⟩
  · have e2 : bits BinOp.and IntKind.u8 3 7 = 3 := by decide
    go_enter Try.func36, Try.ntmps36
    go_wp2_with fail
    go_ret2
    refine ⟨?_, rfl⟩
    first | rfl | (simp; done) | (simp; omega)
  · have e2 : bits BinOp.and IntKind.u8 4 7 = 4 := by decide
    go_enter Try.func36, Try.ntmps36
    go_wp2_with fail
    go_ret2
    refine ⟨?_, rfl⟩
    first | rfl | (simp; done) | (simp; omega)
  · have e2 : bits BinOp.and IntKind.u8 5 7 = 5 := by decide
    go_enter Try.func36, Try.ntmps36
    go_wp2_with fail
    go_ret2
    refine ⟨?_, rfl⟩
    first | rfl | (simp; done) | (simp; omega)
  · have e2 : bits BinOp.and IntKind.u8 6 7 = 6 := by decide
    go_enter Try.func36, Try.ntmps36
    go_wp2_with fail
    go_ret2
    refine ⟨?_, rfl⟩
    first | rfl | (simp; done) | (simp; omega)

/-- A word of fields of W1 bits in fields of W2 bits: the first q. -/
def wide (W1 W2 x : Nat) : Nat → Nat
  | 0 => 0
  | q + 1 => wide W1 W2 x q + fl W1 x q * 2 ^ (W2 * q)
theorem wide_lt {W1 W2 : Nat} (h : W1 ≤ W2) (x q : Nat) : wide W1 W2 x q < 2 ^ (W2 * q) := by
  induction q with
  | zero => simp [wide]
  | succ q ih =>
    have h1 : fl W1 x q < 2 ^ W2 := Nat.lt_of_lt_of_le (fl_lt _ _ _) (Nat.pow_le_pow_right (by decide) h)
    have h2 : (fl W1 x q + 1) * 2 ^ (W2 * q) ≤ 2 ^ W2 * 2 ^ (W2 * q) := Nat.mul_le_mul_right _ h1
    rw [Nat.mul_add W2 q 1, Nat.mul_one, Nat.pow_add, Nat.mul_comm (2 ^ (W2 * q))]
    rw [Nat.add_mul, Nat.one_mul] at h2
    show wide W1 W2 x q + fl W1 x q * 2 ^ (W2 * q) < _
    omega
theorem fld_below' (X r W n d : Nat) : (X + n * 2 ^ (r + W + d)) / 2 ^ r % 2 ^ W = X / 2 ^ r % 2 ^ W := by
  have e : n * 2 ^ (r + W + d) = (n * 2 ^ d * 2 ^ W) * 2 ^ r := by
    rw [Nat.pow_add, Nat.pow_add]; simp [Nat.mul_assoc, Nat.mul_comm, Nat.mul_left_comm]
  rw [e, Nat.add_mul_div_right _ _ (Nat.two_pow_pos r), Nat.add_mul_mod_self_right]
theorem fl_wide {W1 W2 : Nat} (h : W1 ≤ W2) (x n s : Nat) (hs : s < n) : fl W2 (wide W1 W2 x n) s = fl W1 x s := by
  have h1 : ∀ q, fl W1 x q < 2 ^ W2 := fun q => Nat.lt_of_lt_of_le (fl_lt _ _ _) (Nat.pow_le_pow_right (by decide) h)
  induction n with
  | zero => omega
  | succ n ih =>
    show (wide W1 W2 x n + fl W1 x n * 2 ^ (W2 * n)) / 2 ^ (W2 * s) % 2 ^ W2 = _
    by_cases hsn : s = n
    · subst hsn
      rw [Nat.add_mul_div_right _ _ (Nat.two_pow_pos _), Nat.div_eq_of_lt (wide_lt h x s), Nat.zero_add, Nat.mod_eq_of_lt (h1 s)]
    · have hlt : s < n := by omega
      obtain ⟨d, hd⟩ := Nat.le.dest (show s + 1 ≤ n by omega)
      have := ih hlt
      unfold fl at this ⊢
      rw [← this, show W2 * n = W2 * s + W2 + W2 * d by rw [← hd, Nat.mul_add, Nat.mul_add, Nat.mul_one]]
      exact fld_below' _ _ _ _ _

end Go.Proofs.Qxb6601640a
