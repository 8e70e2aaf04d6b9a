/-
  math/bits.Len64 44, Len 43; bitsLogFor 35; counters.at 33.
-/
import Derived.Test.Qxb6601640aWid
import Derived.Lib.BitFns
import Derived.Lib.Strings
import Derived.Lib.Slices
import Derived.Lib.Small
import Derived.Lib.Walk
namespace Go.Proofs.Qxb6601640a
open Go.RowKit
set_option linter.unusedVariables false
set_option linter.unusedSimpArgs false

theorem len8_bits (y : Int) (h0 : 0 ≤ y) (h1 : y ≤ 255) : Lib.len8 y = ((Lib.bitLen y.toNat : Nat) : Int) ∧ Lib.bitLen y.toNat ≤ 8 := ⟨Lib.len8_of y h0 h1, Lib.bitLen_le8' y h0 h1⟩

set_option maxHeartbeats 4000000 in
set_option maxRecDepth 100000 in
theorem len64_any (x : Int) (w : World) (h0 : 0 ≤ x) (h1 : x ≤ 18446744073709551615) :
    Calls Try.prog 44 #[.int .u64 x] w fun e w' => e = .returned (.int .i64 (Lib.bitLen x.toNat)) ∧ w' = w := by
  by_cases c1 : 4294967296 ≤ x
  · by_cases c2 : 65536 ≤ (x / 4294967296)
    · by_cases c3 : 256 ≤ ((x / 4294967296) / 65536)
      · obtain ⟨a, ha⟩ : ∃ a : Int, x / 4294967296 = a := ⟨_, rfl⟩
        obtain ⟨b, hb⟩ : ∃ b : Int, a / 65536 = b := ⟨_, rfl⟩
        obtain ⟨y, hy⟩ : ∃ y : Int, b / 256 = y := ⟨_, rfl⟩
        have hl0 : 0 ≤ y := by omega
        have hl1 : y ≤ 255 := by omega
        obtain ⟨l1, l2⟩ := len8_bits y hl0 hl1
        have hs := Lib.bitLen_shift56 x.toNat (by omega) (by omega)
        rw [show x.toNat / 72057594037927936 = y.toNat by omega] at hs
        rw [hs]
        generalize Lib.bitLen y.toNat = L at *
        clear hs
        go_enter Try.func44, Try.ntmps44
        go_wp2_with fail
        go_ret
        refine ⟨?_, rfl⟩
        first | rfl | (simp; done) | (simp; omega)
      · obtain ⟨a, ha⟩ : ∃ a : Int, x / 4294967296 = a := ⟨_, rfl⟩
        obtain ⟨b, hb⟩ : ∃ b : Int, a / 65536 = b := ⟨_, rfl⟩
        have hl0 : 0 ≤ b := by omega
        have hl1 : b ≤ 255 := by omega
        obtain ⟨l1, l2⟩ := len8_bits b hl0 hl1
        have hs := Lib.bitLen_shift48 x.toNat (by omega) (by omega)
        rw [show x.toNat / 281474976710656 = b.toNat by omega] at hs
        rw [hs]
        generalize Lib.bitLen b.toNat = L at *
        clear hs
        go_enter Try.func44, Try.ntmps44
        go_wp2_with fail
        go_ret
        refine ⟨?_, rfl⟩
        first | rfl | (simp; done) | (simp; omega)
    · by_cases c3 : 256 ≤ (x / 4294967296)
      · obtain ⟨a, ha⟩ : ∃ a : Int, x / 4294967296 = a := ⟨_, rfl⟩
        obtain ⟨y, hy⟩ : ∃ y : Int, a / 256 = y := ⟨_, rfl⟩
        have hl0 : 0 ≤ y := by omega
        have hl1 : y ≤ 255 := by omega
        obtain ⟨l1, l2⟩ := len8_bits y hl0 hl1
        have hs := Lib.bitLen_shift40 x.toNat (by omega) (by omega)
        rw [show x.toNat / 1099511627776 = y.toNat by omega] at hs
        rw [hs]
        generalize Lib.bitLen y.toNat = L at *
        clear hs
        go_enter Try.func44, Try.ntmps44
        go_wp2_with fail
        go_ret
        refine ⟨?_, rfl⟩
        first | rfl | (simp; done) | (simp; omega)
      · obtain ⟨a, ha⟩ : ∃ a : Int, x / 4294967296 = a := ⟨_, rfl⟩
        have hl0 : 0 ≤ a := by omega
        have hl1 : a ≤ 255 := by omega
        obtain ⟨l1, l2⟩ := len8_bits a hl0 hl1
        have hs := Lib.bitLen_shift32 x.toNat (by omega) (by omega)
        rw [show x.toNat / 4294967296 = a.toNat by omega] at hs
        rw [hs]
        generalize Lib.bitLen a.toNat = L at *
        clear hs
        go_enter Try.func44, Try.ntmps44
        go_wp2_with fail
        go_ret
        refine ⟨?_, rfl⟩
        first | rfl | (simp; done) | (simp; omega)
  · by_cases c2 : 65536 ≤ x
    · by_cases c3 : 256 ≤ (x / 65536)
      · obtain ⟨b, hb⟩ : ∃ b : Int, x / 65536 = b := ⟨_, rfl⟩
        obtain ⟨y, hy⟩ : ∃ y : Int, b / 256 = y := ⟨_, rfl⟩
        have hl0 : 0 ≤ y := by omega
        have hl1 : y ≤ 255 := by omega
        obtain ⟨l1, l2⟩ := len8_bits y hl0 hl1
        have hs := Lib.bitLen_shift24 x.toNat (by omega) (by omega)
        rw [show x.toNat / 16777216 = y.toNat by omega] at hs
        rw [hs]
        generalize Lib.bitLen y.toNat = L at *
        clear hs
        go_enter Try.func44, Try.ntmps44
        go_wp2_with fail
        go_ret
        refine ⟨?_, rfl⟩
        first | rfl | (simp; done) | (simp; omega)
      · obtain ⟨b, hb⟩ : ∃ b : Int, x / 65536 = b := ⟨_, rfl⟩
        have hl0 : 0 ≤ b := by omega
        have hl1 : b ≤ 255 := by omega
        obtain ⟨l1, l2⟩ := len8_bits b hl0 hl1
        have hs := Lib.bitLen_shift16 x.toNat (by omega) (by omega)
        rw [show x.toNat / 65536 = b.toNat by omega] at hs
        rw [hs]
        generalize Lib.bitLen b.toNat = L at *
        clear hs
        go_enter Try.func44, Try.ntmps44
        go_wp2_with fail
        go_ret
        refine ⟨?_, rfl⟩
        first | rfl | (simp; done) | (simp; omega)
    · by_cases c3 : 256 ≤ x
      · obtain ⟨y, hy⟩ : ∃ y : Int, x / 256 = y := ⟨_, rfl⟩
        have hl0 : 0 ≤ y := by omega
        have hl1 : y ≤ 255 := by omega
        obtain ⟨l1, l2⟩ := len8_bits y hl0 hl1
        have hs := Lib.bitLen_shift8 x.toNat (by omega) (by omega)
        rw [show x.toNat / 256 = y.toNat by omega] at hs
        rw [hs]
        generalize Lib.bitLen y.toNat = L at *
        clear hs
        go_enter Try.func44, Try.ntmps44
        go_wp2_with fail
        go_ret
        refine ⟨?_, rfl⟩
        first | rfl | (simp; done) | (simp; omega)
      · have hl0 : 0 ≤ x := by omega
        have hl1 : x ≤ 255 := by omega
        obtain ⟨l1, l2⟩ := len8_bits x hl0 hl1
        generalize Lib.bitLen x.toNat = L at *
        go_enter Try.func44, Try.ntmps44
        go_wp2_with fail
        go_ret
        refine ⟨?_, rfl⟩
        first | rfl | (simp; done) | (simp; omega)

theorem lenU_any (x : Int) (w : World) (h0 : 0 ≤ x) (h1 : x ≤ 18446744073709551615) :
    Calls Try.prog 43 #[.int .u64 x] w fun e w' => e = .returned (.int .i64 (Lib.bitLen x.toNat)) ∧ w' = w := by
  go_enter Try.func43, Try.ntmps43
  go_wp2_with (go_at_call 44; refine (len64_any x _ h0 h1).mono ?_; rintro e w' ⟨rfl, rfl⟩)
  go_ret
  exact ⟨rfl, rfl⟩

theorem bitLen_ge (W x : Nat) (h : 2 ^ W ≤ x) (hx : x < 2 ^ 64) : W + 1 ≤ Lib.bitLen x := by
  rw [Lib.bitLen_shift W x h hx]
  have hp : 1 ≤ x / 2 ^ W := (Nat.le_div_iff_mul_le (Nat.two_pow_pos W)).2 (by omega)
  have hl : x / 2 ^ W < 2 ^ 64 := Nat.lt_of_le_of_lt (Nat.div_le_self _ _) hx
  rw [Lib.bitLen_half (x / 2 ^ W) (by omega) hl]
  omega

theorem small_len : ∀ n : Fin 64, 7 ≤ n.val → 3 ≤ Lib.bitLen n.val ∧ Lib.bitLen n.val ≤ 6 ∧ (8 ≤ n.val → 4 ≤ Lib.bitLen n.val) ∧ (16 ≤ n.val → 5 ≤ Lib.bitLen n.val) ∧ (32 ≤ n.val → 6 ≤ Lib.bitLen n.val) := by decide +kernel

theorem bitsLogFor_any (x b W : Nat) (hw : Wid b W) (hx : x < 18446744073709551616) (hW : 2 ^ W ≤ x) (w : World) :
    Calls Try.prog 35 #[.int .u64 x] w fun e w' => ∃ r : Nat, e = .returned (.int .u8 r) ∧ (∃ W', Wid r W') ∧ b < r ∧ w' = w := by
  have e1 := u64_or_nat x 255 hx (by decide)
  have hy : x ||| 255 < 18446744073709551616 := Nat.or_lt_two_pow (n := 64) hx (by decide)
  have hxy : x ≤ x ||| 255 := Nat.left_le_or
  have h255 : 255 ≤ x ||| 255 := Nat.right_le_or
  have hb1 := bitLen_ge W (x ||| 255) (by omega) hy
  have hb2 := bitLen_ge 7 (x ||| 255) (by omega) hy
  have hb3 := Lib.bitLen_le (x ||| 255) 64 (by decide) hy
  generalize x ||| 255 = y at *
  generalize hL : Lib.bitLen y = L at *
  have hs := small_len ⟨L - 1, by omega⟩ (by show 7 ≤ L - 1; omega)
  simp only at hs
  have e2 : ((L : Int) - 1).toNat = L - 1 := by omega
  have k1 := fun w => len64_any (y : Int) w (by omega) (by omega)
  have k2 := fun w => lenU_any ((L : Int) - 1) w (by omega) (by omega)
  rw [Int.toNat_natCast, hL] at k1
  rw [e2] at k2
  generalize Lib.bitLen (L - 1) = r at *
  have hr : b < r := by rcases hw with ⟨rfl, rfl⟩ | ⟨rfl, rfl⟩ | ⟨rfl, rfl⟩ | ⟨rfl, rfl⟩ <;> omega
  have hwr : ∃ W', Wid r W' := by
    have : r = 3 ∨ r = 4 ∨ r = 5 ∨ r = 6 := by omega
    rcases this with rfl | rfl | rfl | rfl
    · exact ⟨_, .inl ⟨rfl, rfl⟩⟩
    · exact ⟨_, .inr (.inl ⟨rfl, rfl⟩)⟩
    · exact ⟨_, .inr (.inr (.inl ⟨rfl, rfl⟩))⟩
    · exact ⟨_, .inr (.inr (.inr ⟨rfl, rfl⟩))⟩
  have HWR := hideP hwr
  have e1' : bits BinOp.or IntKind.u64 (x : Int) 255 = (y : Int) := e1
  clear e1 hwr hL e2
  go_enter Try.func35, Try.ntmps35
  go_wp2_with fail
  refine (k1 _).mono ?_
  rintro e w' ⟨rfl, hw'⟩
  rw [hw']
  clear hw'
  go_wp2_with fail
  refine (k2 _).mono ?_
  rintro e w' ⟨rfl, hw'⟩
  rw [hw']
  clear hw'
  go_wp2_with fail
  go_ret
  exact ⟨r, rfl, HWR.out, hr, rfl⟩

set_option maxHeartbeats 1000000 in
theorem at_any (c g : Nat) (l : List Nat) (full b pl W j : Nat) (hL : Lay full b pl W) (w : World) (hB : Box w c (.slice (some ⟨g, 0, none⟩) l.length l.length) full b pl) (ho : OBk w g l) (hX : WB l) (hl : l.length ≤ 1000000000) (hj : j * W / 64 < l.length) :
    Calls Try.prog 33 #[.pointer (some ⟨c, 0, none⟩), .int .i64 j] w fun e w' => e = .returned (.int .u64 (cnt W l j : Nat)) ∧ ∃ q, w' = w.drewN q := by
  have hc := ho.cell _ hj
  have hXb := hX _ hj
  obtain ⟨c0, c1, c2, c3⟩ := hB.cells
  have hWl : W ≤ 64 := by rcases hL.wid with ⟨-, rfl⟩ | ⟨-, rfl⟩ | ⟨-, rfl⟩ | ⟨-, rfl⟩ <;> omega
  have hpl := place_any c _ full b pl W j hL.wid w hB (by
    have := (Nat.div_lt_iff_lt_mul (show 0 < 64 by decide)).1 hj
    rcases hL.wid with ⟨-, rfl⟩ | ⟨-, rfl⟩ | ⟨-, rfl⟩ | ⟨-, rfl⟩ <;> omega)
  have hv := and_mask (l.getD (j * W / 64) 0) (j * W % 64) W hXb hWl
  rw [← hL.full] at hv
  have hcn : cnt W l j = l.getD (j * W / 64) 0 / 2 ^ (j * W % 64) % 2 ^ W := rfl
  rw [← hcn] at hv
  have hsh : j * W % 64 < 64 := Nat.mod_lt _ (by decide)
  generalize cnt W l j = v at *
  generalize hq : j * W / 64 = k at *
  generalize j * W % 64 = sh at *
  generalize l.getD k 0 = X at *
  clear hB ho hX hcn hq hL
  go_enter Try.func33, Try.ntmps33
  go_wp2_with fail
  refine hpl.mono ?_
  rintro e w' ⟨rfl, hw'⟩
  rw [hw']
  clear hw' hpl
  go_wp2_with fail
  go_quiet (fail)
  go_wp2_with fail
  go_ret
  exact ⟨rfl, nq, rfl⟩

end Go.Proofs.Qxb6601640a
