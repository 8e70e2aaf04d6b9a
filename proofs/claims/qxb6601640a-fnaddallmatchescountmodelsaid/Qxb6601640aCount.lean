/-
  countAt: bit by bit.
-/
import Derived.Test.Qxb6601640aMem
namespace Go.Proofs.Qxb6601640a
open Go.RowKit
set_option linter.unusedVariables false
set_option linter.unusedSimpArgs false

/-- The widths: log2, bits. -/
def Wid (b W : Nat) : Prop := (b = 3 ∧ W = 8) ∨ (b = 4 ∧ W = 16) ∨ (b = 5 ∧ W = 32) ∨ (b = 6 ∧ W = 64)

theorem bit_step (X k : Nat) : X % 2 ^ k + (X / 2 ^ k % 2) * 2 ^ k = X % 2 ^ (k + 1) := by
  rw [Nat.pow_succ, Nat.mod_mul, Nat.mul_comm (2 ^ k)]

theorem wrap_u64_nat (n : Nat) (h : n < 18446744073709551616) : IntKind.u64.wrap (n : Int) = (n : Int) := by
  simp [IntKind.wrap, IntKind.bits, IntKind.signed]; omega
theorem wrap_u64_mod (n : Nat) : IntKind.u64.wrap (n : Int) = ((n % 18446744073709551616 : Nat) : Int) := by
  simp [IntKind.wrap, IntKind.bits, IntKind.signed]

theorem or_step (X r k : Nat) (hk : k < 64) (hX : X < 18446744073709551616) :
    bits BinOp.or IntKind.u64 ((X : Int) / 2 ^ r % 2 ^ k) (IntKind.u64.wrap (bits BinOp.and IntKind.u64 ((X : Int) / 2 ^ (r + k)) 1 * 2 ^ k)) = ((X / 2 ^ r % 2 ^ (k + 1) : Nat) : Int) := by
  have hp : 2 ^ (k + 1) ≤ 2 ^ 64 := Nat.pow_le_pow_right (by decide) (by omega)
  have hp1 : 2 ^ (k + 1) = 2 ^ k * 2 := Nat.pow_succ 2 k
  have h1 : ((X : Int) / 2 ^ r % 2 ^ k) = ((X / 2 ^ r % 2 ^ k : Nat) : Int) := by simp
  have h2 : ((X : Int) / 2 ^ (r + k)) = ((X / 2 ^ (r + k) : Nat) : Int) := by simp
  have hd : X / 2 ^ (r + k) < 18446744073709551616 := Nat.lt_of_le_of_lt (Nat.div_le_self _ _) hX
  have h3 := u64_and_nat (X / 2 ^ (r + k)) 1 hd (by decide)
  rw [nat_mask1] at h3
  rw [h1, h2]
  have h3' : bits BinOp.and IntKind.u64 ((X / 2 ^ (r + k) : Nat) : Int) 1 = ((X / 2 ^ (r + k) % 2 : Nat) : Int) := h3
  rw [h3']
  have hlt : X / 2 ^ (r + k) % 2 < 2 := Nat.mod_lt _ (by decide)
  have hpk : 0 < 2 ^ k := Nat.two_pow_pos k
  have hm : X / 2 ^ (r + k) % 2 * 2 ^ k < 18446744073709551616 := by
    have : X / 2 ^ (r + k) % 2 * 2 ^ k ≤ 1 * 2 ^ k := Nat.mul_le_mul_right _ (by omega)
    omega
  have h4 : (((X / 2 ^ (r + k) % 2 : Nat) : Int) * 2 ^ k) = ((X / 2 ^ (r + k) % 2 * 2 ^ k : Nat) : Int) := by simp
  rw [h4, wrap_u64_nat _ hm]
  have ha : X / 2 ^ r % 2 ^ k < 2 ^ k := Nat.mod_lt _ hpk
  rw [u64_or_nat _ _ (by omega) hm, Nat.or_comm, nat_join k _ _ (Nat.mul_mod_left _ _) ha]
  congr 1
  rw [Nat.add_comm, Nat.pow_add, ← Nat.div_div_eq_div_mul]
  exact bit_step _ _

/-- Count m of a run of words: the field's value. -/
def cnt (W : Nat) (l : List Nat) (m : Nat) : Nat := l.getD (m * W / 64) 0 / 2 ^ (m * W % 64) % 2 ^ W
/-- Words of 64 bits. -/
def WB (l : List Nat) : Prop := ∀ i, i < l.length → l.getD i 0 < 18446744073709551616

set_option maxHeartbeats 1000000 in
theorem countAt_any (a : Option Addr) (cap : Nat) (l : List Nat) (b m W : Nat) (w : World) (hr : RowW w a l) (hw : Wid b W) (hm : m * W / 64 < l.length) (hl : l.length ≤ 1000000000) (hX : WB l) :
    Calls Try.prog 15 #[.slice a l.length cap, .int .u8 b, .int .i64 m] w fun e w' => e = .returned (.int .u64 (cnt W l m : Nat)) ∧ w' = w := by
  obtain ⟨bl, off, rfl, hc⟩ := hr _ hm
  have hXb := hX _ hm
  unfold cnt
  clear hr hX
  generalize hXe : l.getD (m * W / 64) 0 = X at *
  clear hXe
  rcases hw with ⟨rfl, rfl⟩ | ⟨rfl, rfl⟩ | ⟨rfl, rfl⟩ | ⟨rfl, rfl⟩
  · generalize hq : m * 8 / 64 = q at *
    generalize hr : m * 8 % 64 = r at *
    go_enter Try.func15, Try.ntmps15
    go_wp2
    go_loop [8, 9, 10, 11] (fun v i _ _ => ∃ k : Nat, k ≤ 8 ∧ i = .int .i64 k ∧ v = .int .u64 (X / 2 ^ r % 2 ^ k : Nat)) (fun _ i _ _ => 8 - (intOf i).toNat)
    case atStart => exact ⟨0, Nat.zero_le _, rfl, by simp [Nat.mod_one]⟩
    case round =>
      obtain ⟨k, hk, rfl, rfl⟩ := hrel
      by_cases hlt : k < 8
      · have h1i : ((m : Int) * 8 + (k : Int)) / 64 = (q : Int) := by omega
        have h2i : ((m : Int) * 8 + (k : Int)) % 64 = ((r + k : Nat) : Int) := by omega
        go_wp2
        refine ⟨⟨k + 1, by omega, by go_num, ?_⟩, by simp [intOf]; omega⟩
        rw [or_step X r k (by omega) hXb]
      · go_wp2
        go_ret
        obtain rfl : k = 8 := by omega
        exact ⟨rfl, rfl⟩
  · generalize hq : m * 16 / 64 = q at *
    generalize hr : m * 16 % 64 = r at *
    go_enter Try.func15, Try.ntmps15
    go_wp2
    go_loop [8, 9, 10, 11] (fun v i _ _ => ∃ k : Nat, k ≤ 16 ∧ i = .int .i64 k ∧ v = .int .u64 (X / 2 ^ r % 2 ^ k : Nat)) (fun _ i _ _ => 16 - (intOf i).toNat)
    case atStart => exact ⟨0, Nat.zero_le _, rfl, by simp [Nat.mod_one]⟩
    case round =>
      obtain ⟨k, hk, rfl, rfl⟩ := hrel
      by_cases hlt : k < 16
      · have h1i : ((m : Int) * 16 + (k : Int)) / 64 = (q : Int) := by omega
        have h2i : ((m : Int) * 16 + (k : Int)) % 64 = ((r + k : Nat) : Int) := by omega
        go_wp2
        refine ⟨⟨k + 1, by omega, by go_num, ?_⟩, by simp [intOf]; omega⟩
        rw [or_step X r k (by omega) hXb]
      · go_wp2
        go_ret
        obtain rfl : k = 16 := by omega
        exact ⟨rfl, rfl⟩
  · generalize hq : m * 32 / 64 = q at *
    generalize hr : m * 32 % 64 = r at *
    go_enter Try.func15, Try.ntmps15
    go_wp2
    go_loop [8, 9, 10, 11] (fun v i _ _ => ∃ k : Nat, k ≤ 32 ∧ i = .int .i64 k ∧ v = .int .u64 (X / 2 ^ r % 2 ^ k : Nat)) (fun _ i _ _ => 32 - (intOf i).toNat)
    case atStart => exact ⟨0, Nat.zero_le _, rfl, by simp [Nat.mod_one]⟩
    case round =>
      obtain ⟨k, hk, rfl, rfl⟩ := hrel
      by_cases hlt : k < 32
      · have h1i : ((m : Int) * 32 + (k : Int)) / 64 = (q : Int) := by omega
        have h2i : ((m : Int) * 32 + (k : Int)) % 64 = ((r + k : Nat) : Int) := by omega
        go_wp2
        refine ⟨⟨k + 1, by omega, by go_num, ?_⟩, by simp [intOf]; omega⟩
        rw [or_step X r k (by omega) hXb]
      · go_wp2
        go_ret
        obtain rfl : k = 32 := by omega
        exact ⟨rfl, rfl⟩
  · generalize hq : m * 64 / 64 = q at *
    generalize hr : m * 64 % 64 = r at *
    go_enter Try.func15, Try.ntmps15
    go_wp2
    go_loop [8, 9, 10, 11] (fun v i _ _ => ∃ k : Nat, k ≤ 64 ∧ i = .int .i64 k ∧ v = .int .u64 (X / 2 ^ r % 2 ^ k : Nat)) (fun _ i _ _ => 64 - (intOf i).toNat)
    case atStart => exact ⟨0, Nat.zero_le _, rfl, by simp [Nat.mod_one]⟩
    case round =>
      obtain ⟨k, hk, rfl, rfl⟩ := hrel
      by_cases hlt : k < 64
      · have h1i : ((m : Int) * 64 + (k : Int)) / 64 = (q : Int) := by omega
        have h2i : ((m : Int) * 64 + (k : Int)) % 64 = ((r + k : Nat) : Int) := by omega
        go_wp2
        refine ⟨⟨k + 1, by omega, by go_num, ?_⟩, by simp [intOf]; omega⟩
        rw [or_step X r k (by omega) hXb]
      · go_wp2
        go_ret
        obtain rfl : k = 64 := by omega
        exact ⟨rfl, rfl⟩

end Go.Proofs.Qxb6601640a
