/-
  counters.add 30, ZZAdd 17.
-/
import Derived.Test.Qxb6601640aBits
import Derived.Test.Qxb6601640aPl
namespace Go.Proofs.Qxb6601640a
open Go.RowKit
set_option linter.unusedVariables false
set_option linter.unusedSimpArgs false

set_option maxRecDepth 100000 in
set_option maxHeartbeats 2000000 in
/-- The sum fits its field. -/
theorem add_plain (c g : Nat) (l : List Nat) (full b pl W j n : Nat) (hL : Lay full b pl W) (w : World) (hB : Box w c (.slice (some ⟨g, 0, none⟩) l.length l.length) full b pl) (ho : OBk w g l) (hX : WB l) (hl : l.length ≤ 1000000000) (hj : j * W / 64 < l.length) (hn : n < 18446744073709551616) (hf : cnt W l j + n < 2 ^ W) :
    Calls Try.prog 30 #[.pointer (some ⟨c, 0, none⟩), .int .i64 j, .int .u64 n] w fun e w' => e = .returned (.int .u64 (cnt W l j : Nat)) ∧ OBk w' g (l.set (j * W / 64) (l.getD (j * W / 64) 0 + n * 2 ^ (j * W % 64))) ∧ Chg (fun x => x = g) w w' := by
  have hc := ho.cell _ hj
  have hfz := ho.frozen (j * W / 64)
  have hXb := hX _ hj
  have hset := fun q Y => (show OBk (w.drewN q) g l from ho).set (j * W / 64) Y hj
  obtain ⟨c0, c1, c2, c3⟩ := hB.cells
  have hat := at_any c g l full b pl W j hL w hB ho hX hl hj
  have hpl := fun q => place_any c _ full b pl W j hL.wid (w.drewN q) hB (by
    have := (Nat.div_lt_iff_lt_mul (show 0 < 64 by decide)).1 hj
    rcases hL.wid with ⟨-, rfl⟩ | ⟨-, rfl⟩ | ⟨-, rfl⟩ | ⟨-, rfl⟩ <;> omega)
  obtain ⟨hs1, hs2⟩ := add_word (l.getD (j * W / 64) 0) (j * W % 64) W n (by rcases hL.wid with ⟨rfl, rfl⟩ | ⟨rfl, rfl⟩ | ⟨rfl, rfl⟩ | ⟨rfl, rfl⟩ <;> omega) hXb hf
  have hfull := hL.full
  have h2W := Nat.two_pow_pos W
  have g1 : ¬ ((n : Int) > (full : Int) - ((cnt W l j : Nat) : Int)) := by omega
  have g2 : cnt W l j ≤ full := by omega
  have hfb : full < 18446744073709551616 := by
    have : 2 ^ W ≤ 2 ^ 64 := Nat.pow_le_pow_right (by decide) (by rcases hL.wid with ⟨-, rfl⟩ | ⟨-, rfl⟩ | ⟨-, rfl⟩ | ⟨-, rfl⟩ <;> omega)
    omega
  have hsh : j * W % 64 < 64 := Nat.mod_lt _ (by decide)
  generalize cnt W l j = v at *
  generalize hq : j * W / 64 = k at *
  generalize j * W % 64 = sh at *
  generalize l.getD k 0 = X at *
  have g3 : IntKind.u64.wrap ((n : Int) * 2 ^ sh) = ((n * 2 ^ sh : Nat) : Int) := by
    have := wrap_u64_nat _ hs2
    rw [← this]; simp
  have g4 : IntKind.u64.wrap ((X : Int) + ((n * 2 ^ sh : Nat) : Int)) = ((X + n * 2 ^ sh : Nat) : Int) := by
    have := wrap_u64_nat _ hs1
    rw [← this]; simp
  generalize n * 2 ^ sh = ns at *
  generalize hY : X + ns = Y at *
  have HS := hideP hset
  have HAT := hideP hat
  have HPL := hideP hpl
  clear hB ho hX hq hL hset hat hpl hf hfull h2W hY
  go_enter Try.func30, Try.ntmps30
  go_wp2_with fail
  refine HAT.out.mono ?_
  rintro e w' ⟨rfl, q, hw'⟩
  rw [hw']
  clear hw'
  go_wp2_with fail
  refine (HPL.out q).mono ?_
  rintro e w' ⟨rfl, hw'⟩
  rw [hw']
  clear hw'
  go_wp2_with fail
  go_ret
  exact ⟨rfl, HS.out q Y, Chg.setCell (F := fun x => x = g) ((Chg.refl _ w).drewN q) (fun _ => rfl) _⟩

set_option maxRecDepth 100000 in
set_option maxHeartbeats 2000000 in
/-- The fields must widen. -/
theorem add_wide (c g : Nat) (l : List Nat) (full b pl W p j n : Nat) (hL : Lay full b pl W) (hwp : W * p = 64) (w : World) (hB : Box w c (.slice (some ⟨g, 0, none⟩) l.length l.length) full b pl) (ho : OBk w g l) (hX : WB l) (hl : l.length ≤ 10000000) (hjp : j < l.length * p) (hn : cnt W l j + n < 18446744073709551616) (hf : 2 ^ W ≤ cnt W l j + n) :
    Calls Try.prog 30 #[.pointer (some ⟨c, 0, none⟩), .int .i64 j, .int .u64 n] w fun e w' => e = .returned (.int .u64 (cnt W l j : Nat)) ∧ ∃ v2 r f2 p2, b < r ∧ Box w' c v2 f2 r p2 ∧ Chg (fun x => x = c) w w' := by
  have hp0 : 0 < p := Nat.pos_of_ne_zero (fun e => by rw [e] at hwp; simp at hwp)
  have hj := in_word hwp hp0 hjp
  obtain ⟨c0, c1, c2, c3⟩ := hB.cells
  have hat := at_any c g l full b pl W j hL w hB ho hX (by omega) hj
  have hfull := hL.full
  have h2W := Nat.two_pow_pos W
  have hvl := cnt_lt W l j
  have g1 : (n : Int) > (full : Int) - ((cnt W l j : Nat) : Int) := by omega
  have g2 : cnt W l j ≤ full := by omega
  have hbl := fun w => bitsLogFor_any (cnt W l j + n) b W hL.wid hn hf w
  have hfb : full < 18446744073709551616 := by
    have : 2 ^ W ≤ 2 ^ 64 := Nat.pow_le_pow_right (by decide) (by rcases hL.wid with ⟨-, rfl⟩ | ⟨-, rfl⟩ | ⟨-, rfl⟩ | ⟨-, rfl⟩ <;> omega)
    omega
  have hwd := fun (b2 W2 : Nat) (hw2 : Wid b2 W2) (hlt : b < b2) (q : Nat) => widen_any c _ l full b pl W p b2 W2 hL hwp hw2 hlt (w.drewN q) hB (.inr ⟨g, rfl, ho⟩) hX hl
  have hcl := hB.lt
  generalize hcv : cnt W l j = v at *
  simp only [Int.natCast_add] at hbl
  have hp8 : p ≤ 8 := by
    rcases hL.wid with ⟨-, rfl⟩ | ⟨-, rfl⟩ | ⟨-, rfl⟩ | ⟨-, rfl⟩ <;> omega
  have HAT := hideP hat
  have HBL := hideP hbl
  have HWD := hideP hwd
  have HB := hideP hB
  clear hB ho hL hat hbl hfull h2W hf hvl hwd hcv
  go_enter Try.func30, Try.ntmps30
  go_wp2_with fail
  refine HAT.out.mono ?_
  rintro e w' ⟨rfl, q, hw'⟩
  rw [hw']
  clear hw'
  go_wp2_with fail
  refine (HBL.out _).mono ?_
  rintro e w' ⟨r, rfl, ⟨W2, hw2⟩, hbr, hw'⟩
  rw [hw']
  clear hw'
  go_wp2_with fail
  refine (HWD.out r W2 hw2 hbr q).mono ?_
  rintro e w1 ⟨rfl, v2, l2, p2, hwp2, hB2, ho2, hX2, hl2, -, hc2, hnew⟩
  have hp20 : 0 < p2 := Nat.pos_of_ne_zero (fun e => by rw [e] at hwp2; simp at hwp2)
  have hj2 := in_word hwp2 hp20 (by rw [hl2]; exact hjp : j < l2.length * p2)
  have hlp : l.length * p ≤ 10000000 * 8 := Nat.mul_le_mul hl hp8
  have hl2b : l2.length ≤ 80000000 := by
    have : l2.length * 1 ≤ l2.length * p2 := Nat.mul_le_mul_left _ hp20
    omega
  obtain ⟨g2, rfl, ob2⟩ := ho2.pos (by omega)
  have hpl := place_any c _ _ r _ W2 j hw2 w1 hB2 (by omega)
  have hcc := ob2.cell _ hj2
  have hfz := ob2.frozen (j * W2 / 64)
  have hsh : j * W2 % 64 < 64 := Nat.mod_lt _ (by decide)
  have hg2c : g2 ≠ c := fun h => by have h3 := hnew g2 rfl; have h4 : w.heap.size ≤ g2 := h3; omega
  generalize j * W2 / 64 = k2 at *
  generalize j * W2 % 64 = sh2 at *
  generalize l2.getD k2 0 = X2 at *
  obtain ⟨x0, x1, x2, x3⟩ := hB2.cells
  have hji : (k2 : Int) < (l2.length : Int) := by omega
  have hc2' : Chg (fun x => x = c) w w1 := ⟨hc2.os, hc2.tape, hc2.output, hc2.size, hc2.block⟩
  have HPL := hideP hpl
  have HB2 := hideP hB2
  have HC2 := hideP hc2'
  have HNEW := hideP hnew
  clear hpl hB2 hc2 hc2' hX2 ho2 HAT HBL HWD HB c0 c1 c2 c3 ob2 hnew
  go_wp2_with fail
  refine HPL.out.mono ?_
  rintro e w' ⟨rfl, hw'⟩
  rw [hw']
  clear hw'
  go_wp2_with fail
  go_ret
  refine ⟨rfl, _, r, _, _, hbr, HB2.out.chg (Chg.setCell (F := fun x => x = g2) (Chg.refl _ w1) (fun _ => rfl) _) (fun h => hg2c h.symm), HC2.out.setCell (fun h => ?_) _⟩
  exfalso
  have h3 : w.heap.size ≤ g2 := HNEW.out g2 rfl
  have h4 : g2 < w.heap.size := h
  omega

theorem ZZAdd_of {c : Nat} {j n : Nat} {w : World} {P : Nat → World → Prop} (h : Calls Try.prog 30 #[.pointer (some ⟨c, 0, none⟩), .int .i64 j, .int .u64 n] w fun e w' => ∃ z : Nat, e = .returned (.int .u64 z) ∧ P z w') :
    Calls Try.prog 17 #[.pointer (some ⟨c, 0, none⟩), .int .i64 j, .int .u64 n] w fun e w' => ∃ z : Nat, e = .returned (.int .u64 z) ∧ P z w' := by
  go_enter Try.func17, Try.ntmps17
  go_wp2_with fail
  refine h.mono ?_
  rintro e w2 ⟨z, rfl, hQ⟩
  go_wp2_with fail
  go_ret
  exact ⟨z, rfl, hQ⟩

end Go.Proofs.Qxb6601640a
