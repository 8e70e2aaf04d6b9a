/-
  counters.wordAs 40.
-/
import Derived.Test.Qxb6601640aWord
namespace Go.Proofs.Qxb6601640a
open Go.RowKit
set_option linter.unusedVariables false
set_option linter.unusedSimpArgs false

/-- Two widths, the first narrower; the fields a word of the second. -/
def Nar (b1 W1 b2 W2 p2 : Nat) : Prop := (b1 = 3 ∧ W1 = 8 ∧ b2 = 4 ∧ W2 = 16 ∧ p2 = 4) ∨ (b1 = 3 ∧ W1 = 8 ∧ b2 = 5 ∧ W2 = 32 ∧ p2 = 2) ∨ (b1 = 3 ∧ W1 = 8 ∧ b2 = 6 ∧ W2 = 64 ∧ p2 = 1) ∨
  (b1 = 4 ∧ W1 = 16 ∧ b2 = 5 ∧ W2 = 32 ∧ p2 = 2) ∨ (b1 = 4 ∧ W1 = 16 ∧ b2 = 6 ∧ W2 = 64 ∧ p2 = 1) ∨ (b1 = 5 ∧ W1 = 32 ∧ b2 = 6 ∧ W2 = 64 ∧ p2 = 1)

theorem wide_or {W1 W2 : Nat} (h : W1 ≤ W2) (x q : Nat) (hx : wide W1 W2 x (q + 1) < 18446744073709551616) :
    bits BinOp.or IntKind.u64 ((wide W1 W2 x q : Nat) : Int) ((fl W1 x q * 2 ^ (W2 * q) : Nat) : Int) = ((wide W1 W2 x (q + 1) : Nat) : Int) := by
  have hl : wide W1 W2 x (q + 1) = wide W1 W2 x q + fl W1 x q * 2 ^ (W2 * q) := rfl
  rw [hl] at hx
  rw [u64_or_nat _ _ (by omega) (by omega), Nat.or_comm, nat_join (W2 * q) _ _ (Nat.mul_mod_left _ _) (wide_lt h x q), hl, Nat.add_comm]

set_option maxRecDepth 100000 in
set_option maxHeartbeats 2000000 in
theorem wordAs_any (c g : Nat) (l : List Nat) (full b1 pl W1 b2 W2 p2 j : Nat) (hL : Lay full b1 pl W1) (hN : Nar b1 W1 b2 W2 p2) (w : World) (hB : Box w c (.slice (some ⟨g, 0, none⟩) l.length l.length) full b1 pl) (ho : OBk w g l) (hX : WB l)
    (hl : l.length ≤ 1000000000) (hj : j * W1 / 64 < l.length) :
    Calls Try.prog 40 #[.pointer (some ⟨c, 0, none⟩), .int .i64 j, .int .u8 b2] w fun e w' => e = .returned (.int .u64 (wide W1 W2 (l.getD (j * W1 / 64) 0 / 2 ^ (j * W1 % 64)) p2 : Nat)) ∧ ∃ q, w' = w.drewN q := by
  have hc := ho.cell _ hj
  have hXb := hX _ hj
  obtain ⟨c0, c1, c2, c3⟩ := hB.cells
  have hpl := place_any c _ full b1 pl W1 j hL.wid w hB (by
    have := (Nat.div_lt_iff_lt_mul (show 0 < 64 by decide)).1 hj
    rcases hL.wid with ⟨-, rfl⟩ | ⟨-, rfl⟩ | ⟨-, rfl⟩ | ⟨-, rfl⟩ <;> omega)
  obtain ⟨-, rfl, rfl⟩ := hL
  generalize hq : j * W1 / 64 = k at *
  have hsh : j * W1 % 64 < 64 := Nat.mod_lt _ (by decide)
  generalize j * W1 % 64 = sh at *
  generalize l.getD k 0 = X0 at *
  have hx : (X0 : Int) / 2 ^ sh = ((X0 / 2 ^ sh : Nat) : Int) := by simp
  have hXl : X0 / 2 ^ sh < 18446744073709551616 := Nat.lt_of_le_of_lt (Nat.div_le_self _ _) hXb
  generalize X0 / 2 ^ sh = X at *
  have hwl : ∀ q, q ≤ p2 → wide W1 W2 X q < 18446744073709551616 := fun q hq => Nat.lt_of_lt_of_le (wide_lt (by rcases hN with ⟨rfl, rfl, rfl, rfl, rfl⟩ | ⟨rfl, rfl, rfl, rfl, rfl⟩ | ⟨rfl, rfl, rfl, rfl, rfl⟩ | ⟨rfl, rfl, rfl, rfl, rfl⟩ | ⟨rfl, rfl, rfl, rfl, rfl⟩ | ⟨rfl, rfl, rfl, rfl, rfl⟩ <;> decide) X q) (by
    show 2 ^ (W2 * q) ≤ 2 ^ 64
    exact Nat.pow_le_pow_right (by decide) (by rcases hN with ⟨rfl, rfl, rfl, rfl, rfl⟩ | ⟨rfl, rfl, rfl, rfl, rfl⟩ | ⟨rfl, rfl, rfl, rfl, rfl⟩ | ⟨rfl, rfl, rfl, rfl, rfl⟩ | ⟨rfl, rfl, rfl, rfl, rfl⟩ | ⟨rfl, rfl, rfl, rfl, rfl⟩ <;> omega))
  have HWL := hideP hwl
  clear hwl hB ho hX hXb
  rcases hN with ⟨rfl, rfl, rfl, rfl, rfl⟩ | ⟨rfl, rfl, rfl, rfl, rfl⟩ | ⟨rfl, rfl, rfl, rfl, rfl⟩ | ⟨rfl, rfl, rfl, rfl, rfl⟩ | ⟨rfl, rfl, rfl, rfl, rfl⟩ | ⟨rfl, rfl, rfl, rfl, rfl⟩
  · go_enter Try.func40, Try.ntmps40
    go_wp2_with fail
    refine hpl.mono ?_
    rintro e w' ⟨rfl, hw'⟩
    rw [hw']
    clear hw' hpl
    go_wp2_with fail
    go_loopw [10, 11, 29] (fun y _ i wr => ∃ q n : Nat, q ≤ 4 ∧ i = .int .u64 q ∧ y = .int .u64 (wide 8 16 X q : Nat) ∧ wr = w.drewN n) (fun _ _ i _ => 4 - (intOf i).toNat)
    case atStart => exact ⟨0, 0, Nat.zero_le _, rfl, rfl, rfl⟩
    case round =>
      obtain ⟨q, n, hk, rfl, rfl, rfl⟩ := hrel
      by_cases hlt : q < 4
      · have hF := and_mask X (8 * q) 8 hXl (by decide)
        have e1 : bits BinOp.and IntKind.u64 ((X : Int) / 2 ^ (q * 8)) 255 = ((fl 8 X q : Nat) : Int) := by
          rw [Nat.mul_comm q 8]; exact hF
        have hwl := HWL.out (q + 1) hlt
        have hlw : wide 8 16 X (q + 1) = wide 8 16 X q + fl 8 X q * 2 ^ (16 * q) := rfl
        have e2 : IntKind.u64.wrap (((fl 8 X q : Nat) : Int) * 2 ^ (q * 16)) = ((fl 8 X q * 2 ^ (16 * q) : Nat) : Int) := by
          have := wrap_u64_nat (fl 8 X q * 2 ^ (16 * q)) (by omega)
          rw [Nat.mul_comm q 16, ← this]; simp
        have e3 := wide_or (W1 := 8) (W2 := 16) (by decide) X q hwl
        clear hF hlw
        generalize hy2 : wide 8 16 X (q + 1) = y2 at *
        have HY := hideP hy2
        clear hy2
        generalize fl 8 X q = f at *
        generalize f * 2 ^ (16 * q) = f2 at *
        generalize wide 8 16 X q = y1 at *
        have hqi : (q : Int) < 4 := by omega
        go_wp2_with fail
        go_quiet (fail)
        go_wp2_with fail
        refine ⟨⟨q + 1, n + nq, hlt, by go_num, by rw [HY.out], rfl⟩, by simp [intOf]; omega⟩
      · have hqe : q = 4 := by omega
        subst hqe
        go_wp2_with fail
        go_ret
        exact ⟨rfl, n, rfl⟩
  · go_enter Try.func40, Try.ntmps40
    go_wp2_with fail
    refine hpl.mono ?_
    rintro e w' ⟨rfl, hw'⟩
    rw [hw']
    clear hw' hpl
    go_wp2_with fail
    go_loopw [10, 11, 29] (fun y _ i wr => ∃ q n : Nat, q ≤ 2 ∧ i = .int .u64 q ∧ y = .int .u64 (wide 8 32 X q : Nat) ∧ wr = w.drewN n) (fun _ _ i _ => 2 - (intOf i).toNat)
    case atStart => exact ⟨0, 0, Nat.zero_le _, rfl, rfl, rfl⟩
    case round =>
      obtain ⟨q, n, hk, rfl, rfl, rfl⟩ := hrel
      by_cases hlt : q < 2
      · have hF := and_mask X (8 * q) 8 hXl (by decide)
        have e1 : bits BinOp.and IntKind.u64 ((X : Int) / 2 ^ (q * 8)) 255 = ((fl 8 X q : Nat) : Int) := by
          rw [Nat.mul_comm q 8]; exact hF
        have hwl := HWL.out (q + 1) hlt
        have hlw : wide 8 32 X (q + 1) = wide 8 32 X q + fl 8 X q * 2 ^ (32 * q) := rfl
        have e2 : IntKind.u64.wrap (((fl 8 X q : Nat) : Int) * 2 ^ (q * 32)) = ((fl 8 X q * 2 ^ (32 * q) : Nat) : Int) := by
          have := wrap_u64_nat (fl 8 X q * 2 ^ (32 * q)) (by omega)
          rw [Nat.mul_comm q 32, ← this]; simp
        have e3 := wide_or (W1 := 8) (W2 := 32) (by decide) X q hwl
        clear hF hlw
        generalize hy2 : wide 8 32 X (q + 1) = y2 at *
        have HY := hideP hy2
        clear hy2
        generalize fl 8 X q = f at *
        generalize f * 2 ^ (32 * q) = f2 at *
        generalize wide 8 32 X q = y1 at *
        have hqi : (q : Int) < 2 := by omega
        go_wp2_with fail
        go_quiet (fail)
        go_wp2_with fail
        refine ⟨⟨q + 1, n + nq, hlt, by go_num, by rw [HY.out], rfl⟩, by simp [intOf]; omega⟩
      · have hqe : q = 2 := by omega
        subst hqe
        go_wp2_with fail
        go_ret
        exact ⟨rfl, n, rfl⟩
  · go_enter Try.func40, Try.ntmps40
    go_wp2_with fail
    refine hpl.mono ?_
    rintro e w' ⟨rfl, hw'⟩
    rw [hw']
    clear hw' hpl
    go_wp2_with fail
    go_loopw [10, 11, 29] (fun y _ i wr => ∃ q n : Nat, q ≤ 1 ∧ i = .int .u64 q ∧ y = .int .u64 (wide 8 64 X q : Nat) ∧ wr = w.drewN n) (fun _ _ i _ => 1 - (intOf i).toNat)
    case atStart => exact ⟨0, 0, Nat.zero_le _, rfl, rfl, rfl⟩
    case round =>
      obtain ⟨q, n, hk, rfl, rfl, rfl⟩ := hrel
      by_cases hlt : q < 1
      · have hF := and_mask X (8 * q) 8 hXl (by decide)
        have e1 : bits BinOp.and IntKind.u64 ((X : Int) / 2 ^ (q * 8)) 255 = ((fl 8 X q : Nat) : Int) := by
          rw [Nat.mul_comm q 8]; exact hF
        have hwl := HWL.out (q + 1) hlt
        have hlw : wide 8 64 X (q + 1) = wide 8 64 X q + fl 8 X q * 2 ^ (64 * q) := rfl
        have e2 : IntKind.u64.wrap (((fl 8 X q : Nat) : Int) * 2 ^ (q * 64)) = ((fl 8 X q * 2 ^ (64 * q) : Nat) : Int) := by
          have := wrap_u64_nat (fl 8 X q * 2 ^ (64 * q)) (by omega)
          rw [Nat.mul_comm q 64, ← this]; simp
        have e3 := wide_or (W1 := 8) (W2 := 64) (by decide) X q hwl
        clear hF hlw
        generalize hy2 : wide 8 64 X (q + 1) = y2 at *
        have HY := hideP hy2
        clear hy2
        generalize fl 8 X q = f at *
        generalize f * 2 ^ (64 * q) = f2 at *
        generalize wide 8 64 X q = y1 at *
        have hqi : (q : Int) < 1 := by omega
        go_wp2_with fail
        go_quiet (fail)
        go_wp2_with fail
        refine ⟨⟨q + 1, n + nq, hlt, by go_num, by rw [HY.out], rfl⟩, by simp [intOf]; omega⟩
      · have hqe : q = 1 := by omega
        subst hqe
        go_wp2_with fail
        go_ret
        exact ⟨rfl, n, rfl⟩
  · go_enter Try.func40, Try.ntmps40
    go_wp2_with fail
    refine hpl.mono ?_
    rintro e w' ⟨rfl, hw'⟩
    rw [hw']
    clear hw' hpl
    go_wp2_with fail
    go_loopw [10, 11, 29] (fun y _ i wr => ∃ q n : Nat, q ≤ 2 ∧ i = .int .u64 q ∧ y = .int .u64 (wide 16 32 X q : Nat) ∧ wr = w.drewN n) (fun _ _ i _ => 2 - (intOf i).toNat)
    case atStart => exact ⟨0, 0, Nat.zero_le _, rfl, rfl, rfl⟩
    case round =>
      obtain ⟨q, n, hk, rfl, rfl, rfl⟩ := hrel
      by_cases hlt : q < 2
      · have hF := and_mask X (16 * q) 16 hXl (by decide)
        have e1 : bits BinOp.and IntKind.u64 ((X : Int) / 2 ^ (q * 16)) 65535 = ((fl 16 X q : Nat) : Int) := by
          rw [Nat.mul_comm q 16]; exact hF
        have hwl := HWL.out (q + 1) hlt
        have hlw : wide 16 32 X (q + 1) = wide 16 32 X q + fl 16 X q * 2 ^ (32 * q) := rfl
        have e2 : IntKind.u64.wrap (((fl 16 X q : Nat) : Int) * 2 ^ (q * 32)) = ((fl 16 X q * 2 ^ (32 * q) : Nat) : Int) := by
          have := wrap_u64_nat (fl 16 X q * 2 ^ (32 * q)) (by omega)
          rw [Nat.mul_comm q 32, ← this]; simp
        have e3 := wide_or (W1 := 16) (W2 := 32) (by decide) X q hwl
        clear hF hlw
        generalize hy2 : wide 16 32 X (q + 1) = y2 at *
        have HY := hideP hy2
        clear hy2
        generalize fl 16 X q = f at *
        generalize f * 2 ^ (32 * q) = f2 at *
        generalize wide 16 32 X q = y1 at *
        have hqi : (q : Int) < 2 := by omega
        go_wp2_with fail
        go_quiet (fail)
        go_wp2_with fail
        refine ⟨⟨q + 1, n + nq, hlt, by go_num, by rw [HY.out], rfl⟩, by simp [intOf]; omega⟩
      · have hqe : q = 2 := by omega
        subst hqe
        go_wp2_with fail
        go_ret
        exact ⟨rfl, n, rfl⟩
  · go_enter Try.func40, Try.ntmps40
    go_wp2_with fail
    refine hpl.mono ?_
    rintro e w' ⟨rfl, hw'⟩
    rw [hw']
    clear hw' hpl
    go_wp2_with fail
    go_loopw [10, 11, 29] (fun y _ i wr => ∃ q n : Nat, q ≤ 1 ∧ i = .int .u64 q ∧ y = .int .u64 (wide 16 64 X q : Nat) ∧ wr = w.drewN n) (fun _ _ i _ => 1 - (intOf i).toNat)
    case atStart => exact ⟨0, 0, Nat.zero_le _, rfl, rfl, rfl⟩
    case round =>
      obtain ⟨q, n, hk, rfl, rfl, rfl⟩ := hrel
      by_cases hlt : q < 1
      · have hF := and_mask X (16 * q) 16 hXl (by decide)
        have e1 : bits BinOp.and IntKind.u64 ((X : Int) / 2 ^ (q * 16)) 65535 = ((fl 16 X q : Nat) : Int) := by
          rw [Nat.mul_comm q 16]; exact hF
        have hwl := HWL.out (q + 1) hlt
        have hlw : wide 16 64 X (q + 1) = wide 16 64 X q + fl 16 X q * 2 ^ (64 * q) := rfl
        have e2 : IntKind.u64.wrap (((fl 16 X q : Nat) : Int) * 2 ^ (q * 64)) = ((fl 16 X q * 2 ^ (64 * q) : Nat) : Int) := by
          have := wrap_u64_nat (fl 16 X q * 2 ^ (64 * q)) (by omega)
          rw [Nat.mul_comm q 64, ← this]; simp
        have e3 := wide_or (W1 := 16) (W2 := 64) (by decide) X q hwl
        clear hF hlw
        generalize hy2 : wide 16 64 X (q + 1) = y2 at *
        have HY := hideP hy2
        clear hy2
        generalize fl 16 X q = f at *
        generalize f * 2 ^ (64 * q) = f2 at *
        generalize wide 16 64 X q = y1 at *
        have hqi : (q : Int) < 1 := by omega
        go_wp2_with fail
        go_quiet (fail)
        go_wp2_with fail
        refine ⟨⟨q + 1, n + nq, hlt, by go_num, by rw [HY.out], rfl⟩, by simp [intOf]; omega⟩
      · have hqe : q = 1 := by omega
        subst hqe
        go_wp2_with fail
        go_ret
        exact ⟨rfl, n, rfl⟩
  · go_enter Try.func40, Try.ntmps40
    go_wp2_with fail
    refine hpl.mono ?_
    rintro e w' ⟨rfl, hw'⟩
    rw [hw']
    clear hw' hpl
    go_wp2_with fail
    go_loopw [10, 11, 29] (fun y _ i wr => ∃ q n : Nat, q ≤ 1 ∧ i = .int .u64 q ∧ y = .int .u64 (wide 32 64 X q : Nat) ∧ wr = w.drewN n) (fun _ _ i _ => 1 - (intOf i).toNat)
    case atStart => exact ⟨0, 0, Nat.zero_le _, rfl, rfl, rfl⟩
    case round =>
      obtain ⟨q, n, hk, rfl, rfl, rfl⟩ := hrel
      by_cases hlt : q < 1
      · have hF := and_mask X (32 * q) 32 hXl (by decide)
        have e1 : bits BinOp.and IntKind.u64 ((X : Int) / 2 ^ (q * 32)) 4294967295 = ((fl 32 X q : Nat) : Int) := by
          rw [Nat.mul_comm q 32]; exact hF
        have hwl := HWL.out (q + 1) hlt
        have hlw : wide 32 64 X (q + 1) = wide 32 64 X q + fl 32 X q * 2 ^ (64 * q) := rfl
        have e2 : IntKind.u64.wrap (((fl 32 X q : Nat) : Int) * 2 ^ (q * 64)) = ((fl 32 X q * 2 ^ (64 * q) : Nat) : Int) := by
          have := wrap_u64_nat (fl 32 X q * 2 ^ (64 * q)) (by omega)
          rw [Nat.mul_comm q 64, ← this]; simp
        have e3 := wide_or (W1 := 32) (W2 := 64) (by decide) X q hwl
        clear hF hlw
        generalize hy2 : wide 32 64 X (q + 1) = y2 at *
        have HY := hideP hy2
        clear hy2
        generalize fl 32 X q = f at *
        generalize f * 2 ^ (64 * q) = f2 at *
        generalize wide 32 64 X q = y1 at *
        have hqi : (q : Int) < 1 := by omega
        go_wp2_with fail
        go_quiet (fail)
        go_wp2_with fail
        refine ⟨⟨q + 1, n + nq, hlt, by go_num, by rw [HY.out], rfl⟩, by simp [intOf]; omega⟩
      · have hqe : q = 1 := by omega
        subst hqe
        go_wp2_with fail
        go_ret
        exact ⟨rfl, n, rfl⟩

end Go.Proofs.Qxb6601640a
