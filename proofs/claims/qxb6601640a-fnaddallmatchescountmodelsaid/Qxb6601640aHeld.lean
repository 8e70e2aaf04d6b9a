/-
  addHeld 29, ZZAddHeld 12.
-/
import Derived.Test.Qxb6601640aLeaf
namespace Go.Proofs.Qxb6601640a
open Go.RowKit
set_option linter.unusedVariables false
set_option linter.unusedSimpArgs false

theorem and63 (x r : Nat) (hx : x < 18446744073709551616) (h : x % 64 = r) : bits BinOp.and IntKind.u64 (x : Int) 63 = (r : Int) := by
  have := u64_and_nat x 63 hx (by decide)
  rw [nat_mask6, h] at this
  exact this
theorem and_mask (X r W : Nat) (hX : X < 18446744073709551616) (hW : W ≤ 64) : bits BinOp.and IntKind.u64 ((X : Int) / 2 ^ r) ((2 ^ W - 1 : Nat) : Int) = ((X / 2 ^ r % 2 ^ W : Nat) : Int) := by
  have h2 : ((X : Int) / 2 ^ r) = ((X / 2 ^ r : Nat) : Int) := by simp
  have hd : X / 2 ^ r < 18446744073709551616 := Nat.lt_of_le_of_lt (Nat.div_le_self _ _) hX
  have hp : 2 ^ W ≤ 2 ^ 64 := Nat.pow_le_pow_right (by decide) hW
  have hp0 : 0 < 2 ^ W := Nat.two_pow_pos W
  rw [h2, u64_and_nat _ _ hd (by omega), Nat.and_two_pow_sub_one_eq_mod]

/-- The word behind the add. -/
theorem add_word (X r W n : Nat) (hr : r + W ≤ 64) (hX : X < 18446744073709551616) (hn : X / 2 ^ r % 2 ^ W + n < 2 ^ W) : X + n * 2 ^ r < 18446744073709551616 ∧ n * 2 ^ r < 18446744073709551616 := by
  have hd := Nat.div_add_mod X (2 ^ (r + W))
  have hm : X % 2 ^ (r + W) = X % 2 ^ r + 2 ^ r * (X / 2 ^ r % 2 ^ W) := by rw [Nat.pow_add, Nat.mod_mul]
  have hl : X % 2 ^ r < 2 ^ r := Nat.mod_lt _ (Nat.two_pow_pos r)
  have hs : X % 2 ^ (r + W) + n * 2 ^ r < 2 ^ (r + W) := by
    rw [hm, Nat.pow_add]
    have h1 : (X / 2 ^ r % 2 ^ W + n + 1) * 2 ^ r ≤ 2 ^ W * 2 ^ r := Nat.mul_le_mul_right _ (by omega)
    rw [Nat.add_mul, Nat.add_mul, Nat.one_mul] at h1
    rw [Nat.mul_comm (2 ^ r) (2 ^ W), Nat.mul_comm (2 ^ r)]
    omega
  have hq : X / 2 ^ (r + W) < 2 ^ (64 - (r + W)) := by
    rw [Nat.div_lt_iff_lt_mul (Nat.two_pow_pos _), ← Nat.pow_add, show 64 - (r + W) + (r + W) = 64 by omega]
    exact hX
  have ht : 2 ^ (r + W) * (X / 2 ^ (r + W) + 1) ≤ 2 ^ (r + W) * 2 ^ (64 - (r + W)) := Nat.mul_le_mul_left _ (by omega)
  rw [← Nat.pow_add, show r + W + (64 - (r + W)) = 64 by omega, Nat.mul_add] at ht
  have h64 : (2 : Nat) ^ 64 = 18446744073709551616 := by decide
  omega

/-- Does the fast add take it? -/
def heldOk (W : Nat) (l : List Nat) (j n : Nat) : Bool := decide (cnt W l j ≠ 0 ∧ cnt W l j + n < 2 ^ W)
def held (W : Nat) (l : List Nat) (j n : Nat) : List Nat := if heldOk W l j n then l.set (j * W / 64) (l.getD (j * W / 64) 0 + n * 2 ^ (j * W % 64)) else l

theorem box_ne {w : World} {c g : Nat} {v : Value} {full bl pl : Nat} {l : List Nat} (hB : Box w c v full bl pl) (hr : OBk w g l) : c ≠ g := by
  rintro rfl
  unfold Box at hB
  unfold OBk at hr
  rw [hB] at hr
  simp at hr

set_option maxHeartbeats 2000000 in
theorem addHeld_any (c g : Nat) (l : List Nat) (full bl pl W : Nat) (j n : Nat) (w : World) (hL : Lay full bl pl W) (hB : Box w c (.slice (some ⟨g, 0, none⟩) l.length l.length) full bl pl) (ho : OBk w g l) (hX : WB l) (hn : n < 18446744073709551616) (hjl : j * W / 64 < l.length) (hl : l.length ≤ 1000000000) :
    Calls Try.prog 29 #[.pointer (some ⟨c, 0, none⟩), .int .u64 j, .int .u64 n] w fun e w' => e = .returned (.bool (heldOk W l j n)) ∧ OBk w' g (held W l j n) ∧ Chg (fun b => b = g) w w' := by
  obtain ⟨hw, rfl, rfl⟩ := hL
  obtain ⟨c0, c1, c2, c3⟩ := hB.cells
  have hc := ho.cell _ hjl
  have hf := ho.frozen (j * W / 64)
  have hXb := hX _ hjl
  have hset := fun Y => ho.set (j * W / 64) Y hjl
  unfold held
  generalize hok : heldOk W l j n = ok
  unfold heldOk at hok
  unfold cnt at hok
  have haw := add_word (l.getD (j * W / 64) 0) (j * W % 64) W n (by rcases hw with ⟨rfl, rfl⟩ | ⟨rfl, rfl⟩ | ⟨rfl, rfl⟩ | ⟨rfl, rfl⟩ <;> omega) hXb
  generalize hXe : l.getD (j * W / 64) 0 = X at *
  clear hX hXe
  have HS := hideP hset
  have HO := hideP ho
  clear hset ho hB
  rcases hw with ⟨rfl, rfl⟩ | ⟨rfl, rfl⟩ | ⟨rfl, rfl⟩ | ⟨rfl, rfl⟩
  · generalize hq : j * 8 / 64 = q at *
    generalize hr : j * 8 % 64 = r at *
    have hv := and_mask X r 8 hXb (by omega)
    have hvl : X / 2 ^ r % 2 ^ 8 < 2 ^ 8 := Nat.mod_lt _ (by decide)
    generalize X / 2 ^ r % 2 ^ 8 = v at *
    have hvl' : v < 256 := hvl
    have e1 : bits BinOp.and IntKind.u8 3 3 = 3 := by decide
    have e2 : bits BinOp.and IntKind.u8 3 7 = 3 := by decide
    have e3 : (j : Int) / 8 = (q : Int) := by omega
    have e4 : bits BinOp.and IntKind.u64 ((j : Int) * 8) 63 = (r : Int) := and63 (j * 8) r (by omega) hr
    have hr6 : r < 64 := by omega
    replace hv : bits BinOp.and IntKind.u64 ((X : Int) / 2 ^ r) 255 = (v : Int) := hv
    clear hvl
    by_cases hv0 : v = 0
    · subst hv0
      simp at hok
      subst hok
      go_enter Try.func29, Try.ntmps29
      go_wp2
      go_quiet (fail)
      go_wp2
      go_ret
      exact ⟨rfl, HO.out, (Chg.refl _ w).drewN _⟩
    · by_cases hvn : v + n < 256
      · have hok1 : ok = true := by rw [← hok]; exact decide_eq_true ⟨hv0, hvn⟩
        subst hok1
        obtain ⟨hs1, hs2⟩ := haw hvn
        have g1 : ¬ ((n : Int) > 255 - (v : Int)) := by omega
        have g2 : ((v : Int) == 0) = false := by simp; omega
        have g3 : IntKind.u64.wrap ((n : Int) * 2 ^ r) = ((n * 2 ^ r : Nat) : Int) := wrap_u64_nat _ hs2
        have g4 : IntKind.u64.wrap ((X : Int) + (n : Int) * 2 ^ r) = ((X + n * 2 ^ r : Nat) : Int) := wrap_u64_nat (X + n * 2 ^ r) hs1
        clear hok haw
        go_enter Try.func29, Try.ntmps29
        go_wp2
        go_quiet (fail)
        go_wp2
        go_ret
        refine ⟨rfl, ?_, Chg.setCell (F := fun b => b = g) ((Chg.refl _ w).drewN _) (fun _ => rfl) _⟩
        rw [show ((X : Int) + (n : Int) * 2 ^ r) = ((X + n * 2 ^ r : Nat) : Int) by simp]
        exact HS.out _
      · have hok0 : ok = false := by rw [← hok]; exact decide_eq_false (fun h => hvn h.2)
        subst hok0
        have g1 : ((n : Int) > 255 - (v : Int)) := by omega
        have g2 : ((v : Int) == 0) = false := by simp; omega
        clear hok haw
        go_enter Try.func29, Try.ntmps29
        go_wp2
        go_quiet (fail)
        go_wp2
        go_ret
        exact ⟨rfl, HO.out, (Chg.refl _ w).drewN _⟩
  · generalize hq : j * 16 / 64 = q at *
    generalize hr : j * 16 % 64 = r at *
    have hv := and_mask X r 16 hXb (by omega)
    have hvl : X / 2 ^ r % 2 ^ 16 < 2 ^ 16 := Nat.mod_lt _ (by decide)
    generalize X / 2 ^ r % 2 ^ 16 = v at *
    have hvl' : v < 65536 := hvl
    have e1 : bits BinOp.and IntKind.u8 2 3 = 2 := by decide
    have e2 : bits BinOp.and IntKind.u8 4 7 = 4 := by decide
    have e3 : (j : Int) / 4 = (q : Int) := by omega
    have e4 : bits BinOp.and IntKind.u64 ((j : Int) * 16) 63 = (r : Int) := and63 (j * 16) r (by omega) hr
    have hr6 : r < 64 := by omega
    replace hv : bits BinOp.and IntKind.u64 ((X : Int) / 2 ^ r) 65535 = (v : Int) := hv
    clear hvl
    by_cases hv0 : v = 0
    · subst hv0
      simp at hok
      subst hok
      go_enter Try.func29, Try.ntmps29
      go_wp2
      go_quiet (fail)
      go_wp2
      go_ret
      exact ⟨rfl, HO.out, (Chg.refl _ w).drewN _⟩
    · by_cases hvn : v + n < 65536
      · have hok1 : ok = true := by rw [← hok]; exact decide_eq_true ⟨hv0, hvn⟩
        subst hok1
        obtain ⟨hs1, hs2⟩ := haw hvn
        have g1 : ¬ ((n : Int) > 65535 - (v : Int)) := by omega
        have g2 : ((v : Int) == 0) = false := by simp; omega
        have g3 : IntKind.u64.wrap ((n : Int) * 2 ^ r) = ((n * 2 ^ r : Nat) : Int) := wrap_u64_nat _ hs2
        have g4 : IntKind.u64.wrap ((X : Int) + (n : Int) * 2 ^ r) = ((X + n * 2 ^ r : Nat) : Int) := wrap_u64_nat (X + n * 2 ^ r) hs1
        clear hok haw
        go_enter Try.func29, Try.ntmps29
        go_wp2
        go_quiet (fail)
        go_wp2
        go_ret
        refine ⟨rfl, ?_, Chg.setCell (F := fun b => b = g) ((Chg.refl _ w).drewN _) (fun _ => rfl) _⟩
        rw [show ((X : Int) + (n : Int) * 2 ^ r) = ((X + n * 2 ^ r : Nat) : Int) by simp]
        exact HS.out _
      · have hok0 : ok = false := by rw [← hok]; exact decide_eq_false (fun h => hvn h.2)
        subst hok0
        have g1 : ((n : Int) > 65535 - (v : Int)) := by omega
        have g2 : ((v : Int) == 0) = false := by simp; omega
        clear hok haw
        go_enter Try.func29, Try.ntmps29
        go_wp2
        go_quiet (fail)
        go_wp2
        go_ret
        exact ⟨rfl, HO.out, (Chg.refl _ w).drewN _⟩
  · generalize hq : j * 32 / 64 = q at *
    generalize hr : j * 32 % 64 = r at *
    have hv := and_mask X r 32 hXb (by omega)
    have hvl : X / 2 ^ r % 2 ^ 32 < 2 ^ 32 := Nat.mod_lt _ (by decide)
    generalize X / 2 ^ r % 2 ^ 32 = v at *
    have hvl' : v < 4294967296 := hvl
    have e1 : bits BinOp.and IntKind.u8 1 3 = 1 := by decide
    have e2 : bits BinOp.and IntKind.u8 5 7 = 5 := by decide
    have e3 : (j : Int) / 2 = (q : Int) := by omega
    have e4 : bits BinOp.and IntKind.u64 ((j : Int) * 32) 63 = (r : Int) := and63 (j * 32) r (by omega) hr
    have hr6 : r < 64 := by omega
    replace hv : bits BinOp.and IntKind.u64 ((X : Int) / 2 ^ r) 4294967295 = (v : Int) := hv
    clear hvl
    by_cases hv0 : v = 0
    · subst hv0
      simp at hok
      subst hok
      go_enter Try.func29, Try.ntmps29
      go_wp2
      go_quiet (fail)
      go_wp2
      go_ret
      exact ⟨rfl, HO.out, (Chg.refl _ w).drewN _⟩
    · by_cases hvn : v + n < 4294967296
      · have hok1 : ok = true := by rw [← hok]; exact decide_eq_true ⟨hv0, hvn⟩
        subst hok1
        obtain ⟨hs1, hs2⟩ := haw hvn
        have g1 : ¬ ((n : Int) > 4294967295 - (v : Int)) := by omega
        have g2 : ((v : Int) == 0) = false := by simp; omega
        have g3 : IntKind.u64.wrap ((n : Int) * 2 ^ r) = ((n * 2 ^ r : Nat) : Int) := wrap_u64_nat _ hs2
        have g4 : IntKind.u64.wrap ((X : Int) + (n : Int) * 2 ^ r) = ((X + n * 2 ^ r : Nat) : Int) := wrap_u64_nat (X + n * 2 ^ r) hs1
        clear hok haw
        go_enter Try.func29, Try.ntmps29
        go_wp2
        go_quiet (fail)
        go_wp2
        go_ret
        refine ⟨rfl, ?_, Chg.setCell (F := fun b => b = g) ((Chg.refl _ w).drewN _) (fun _ => rfl) _⟩
        rw [show ((X : Int) + (n : Int) * 2 ^ r) = ((X + n * 2 ^ r : Nat) : Int) by simp]
        exact HS.out _
      · have hok0 : ok = false := by rw [← hok]; exact decide_eq_false (fun h => hvn h.2)
        subst hok0
        have g1 : ((n : Int) > 4294967295 - (v : Int)) := by omega
        have g2 : ((v : Int) == 0) = false := by simp; omega
        clear hok haw
        go_enter Try.func29, Try.ntmps29
        go_wp2
        go_quiet (fail)
        go_wp2
        go_ret
        exact ⟨rfl, HO.out, (Chg.refl _ w).drewN _⟩
  · generalize hq : j * 64 / 64 = q at *
    generalize hr : j * 64 % 64 = r at *
    have hv := and_mask X r 64 hXb (by omega)
    have hvl : X / 2 ^ r % 2 ^ 64 < 2 ^ 64 := Nat.mod_lt _ (by decide)
    generalize X / 2 ^ r % 2 ^ 64 = v at *
    have hvl' : v < 18446744073709551616 := hvl
    have e1 : bits BinOp.and IntKind.u8 0 3 = 0 := by decide
    have e2 : bits BinOp.and IntKind.u8 6 7 = 6 := by decide
    have e3 : (j : Int) / 1 = (q : Int) := by omega
    have e4 : bits BinOp.and IntKind.u64 ((j : Int) * 64) 63 = (r : Int) := and63 (j * 64) r (by omega) hr
    have hr6 : r < 64 := by omega
    replace hv : bits BinOp.and IntKind.u64 ((X : Int) / 2 ^ r) 18446744073709551615 = (v : Int) := hv
    clear hvl
    by_cases hv0 : v = 0
    · subst hv0
      simp at hok
      subst hok
      go_enter Try.func29, Try.ntmps29
      go_wp2
      go_quiet (fail)
      go_wp2
      go_ret
      exact ⟨rfl, HO.out, (Chg.refl _ w).drewN _⟩
    · by_cases hvn : v + n < 18446744073709551616
      · have hok1 : ok = true := by rw [← hok]; exact decide_eq_true ⟨hv0, hvn⟩
        subst hok1
        obtain ⟨hs1, hs2⟩ := haw hvn
        have g1 : ¬ ((n : Int) > 18446744073709551615 - (v : Int)) := by omega
        have g2 : ((v : Int) == 0) = false := by simp; omega
        have g3 : IntKind.u64.wrap ((n : Int) * 2 ^ r) = ((n * 2 ^ r : Nat) : Int) := wrap_u64_nat _ hs2
        have g4 : IntKind.u64.wrap ((X : Int) + (n : Int) * 2 ^ r) = ((X + n * 2 ^ r : Nat) : Int) := wrap_u64_nat (X + n * 2 ^ r) hs1
        clear hok haw
        go_enter Try.func29, Try.ntmps29
        go_wp2
        go_quiet (fail)
        go_wp2
        go_ret
        refine ⟨rfl, ?_, Chg.setCell (F := fun b => b = g) ((Chg.refl _ w).drewN _) (fun _ => rfl) _⟩
        rw [show ((X : Int) + (n : Int) * 2 ^ r) = ((X + n * 2 ^ r : Nat) : Int) by simp]
        exact HS.out _
      · have hok0 : ok = false := by rw [← hok]; exact decide_eq_false (fun h => hvn h.2)
        subst hok0
        have g1 : ((n : Int) > 18446744073709551615 - (v : Int)) := by omega
        have g2 : ((v : Int) == 0) = false := by simp; omega
        clear hok haw
        go_enter Try.func29, Try.ntmps29
        go_wp2
        go_quiet (fail)
        go_wp2
        go_ret
        exact ⟨rfl, HO.out, (Chg.refl _ w).drewN _⟩

/-- A count beyond the room, or no room at all. -/
theorem addHeld_far (c : Nat) (a : Option Addr) (len bl pl full d : Nat) (j n : Nat) (w : World) (hp : (pl = 3 ∧ d = 8) ∨ (pl = 2 ∧ d = 4) ∨ (pl = 1 ∧ d = 2) ∨ (pl = 0 ∧ d = 1)) (hB : Box w c (.slice a len len) full bl pl) (hjl : len * d ≤ j) (hl : len ≤ 1000000000) :
    Calls Try.prog 29 #[.pointer (some ⟨c, 0, none⟩), .int .u64 j, .int .u64 n] w fun e w' => e = .returned (.bool false) ∧ w' = w := by
  obtain ⟨c0, c1, c2, c3⟩ := hB.cells
  clear hB
  rcases hp with ⟨rfl, rfl⟩ | ⟨rfl, rfl⟩ | ⟨rfl, rfl⟩ | ⟨rfl, rfl⟩
  · have e1 : bits BinOp.and IntKind.u8 3 3 = 3 := by decide
    have e3 : (len : Int) ≤ (j : Int) / 8 := by omega
    go_enter Try.func29, Try.ntmps29
    go_wp2
    go_ret
    exact ⟨rfl, rfl⟩
  · have e1 : bits BinOp.and IntKind.u8 2 3 = 2 := by decide
    have e3 : (len : Int) ≤ (j : Int) / 4 := by omega
    go_enter Try.func29, Try.ntmps29
    go_wp2
    go_ret
    exact ⟨rfl, rfl⟩
  · have e1 : bits BinOp.and IntKind.u8 1 3 = 1 := by decide
    have e3 : (len : Int) ≤ (j : Int) / 2 := by omega
    go_enter Try.func29, Try.ntmps29
    go_wp2
    go_ret
    exact ⟨rfl, rfl⟩
  · have e1 : bits BinOp.and IntKind.u8 0 3 = 0 := by decide
    have e3 : (len : Int) ≤ (j : Int) / 1 := by omega
    go_enter Try.func29, Try.ntmps29
    go_wp2
    go_ret
    exact ⟨rfl, rfl⟩

theorem ZZAddHeld_of {c : Nat} {j n : Nat} {w : World} {P : Bool → World → Prop} (h : Calls Try.prog 29 #[.pointer (some ⟨c, 0, none⟩), .int .u64 j, .int .u64 n] w fun e w' => ∃ z, e = .returned (.bool z) ∧ P z w') :
    Calls Try.prog 12 #[.pointer (some ⟨c, 0, none⟩), .int .u64 j, .int .u64 n] w fun e w' => ∃ z, e = .returned (.bool z) ∧ P z w' := by
  go_enter Try.func12, Try.ntmps12
  go_wp2_with fail
  refine h.mono ?_
  rintro e w2 ⟨z, rfl, hQ⟩
  go_wp2_with fail
  go_ret
  exact ⟨z, rfl, hQ⟩

end Go.Proofs.Qxb6601640a
