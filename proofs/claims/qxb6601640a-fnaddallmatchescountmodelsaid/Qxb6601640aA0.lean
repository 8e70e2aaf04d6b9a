/-
  counters.addWords 32 with no word to add; ZZAddWords 27; roundUp 28.
-/
import Derived.Test.Qxb6601640aAN
namespace Go.Proofs.Qxb6601640a
open Go.RowKit
set_option linter.unusedVariables false
set_option linter.unusedSimpArgs false

set_option maxRecDepth 100000 in
set_option maxHeartbeats 4000000 in
theorem addWords_none (c o : Nat) (a a' : Option Addr) (n m : Nat) (full b pl W p B T fullo bo plo : Nat) (t0 : Nat) (dd ai ad : Int) (hai : ai = (t0 : Int) * (p : Int)) (had : ad = dd * (p : Int)) (hL : Lay full b pl W) (hF : Fld b W p B T) (w : World)
    (hB : Box w c (.slice a n n) full b pl) (hBo : Box w o (.slice a' m m) fullo bo plo) (hn : a = none → n = 0) (hm : a' = none → m = 0) (hnl : n ≤ 100000000) (hml : m ≤ 100000000) (h0 : t0 ≤ n) (hd : bo = b → 0 ≤ (t0 : Int) + dd ∧ (t0 : Int) + dd ≤ (m : Int)) :
    Calls Try.prog 32 #[.pointer (some ⟨c, 0, none⟩), .pointer (some ⟨o, 0, none⟩), .int .i64 ai, .int .i64 ai, .int .i64 ad] w fun r w' => r = .returned (.tuple #[.int .i64 ai, .int .i64 0]) ∧ Chg (fun _ => False) w w' := by
  obtain ⟨c0, c1, c2, c3⟩ := hB.cells
  obtain ⟨o0, o1, o2, o3⟩ := hBo.cells
  have hfl := fun q => fields_any c _ full b pl W p B T hL hF (w.drewN q) hB
  unfold FV FO at hfl
  obtain ⟨e1, e2, hpl3, hb6, hp1, hp8, hW8, hW64⟩ := hF.nums hL
  have hpp : (0 : Int) < (p : Int) := by omega
  have q3 : ai / (p : Int) = (t0 : Int) := by rw [hai]; exact Int.mul_ediv_cancel _ (by omega)
  have q4 : (ai - 1) / (p : Int) = (t0 : Int) - 1 := by
    rw [hai, show (t0 : Int) * (p : Int) - 1 = ((p : Int) - 1) + ((t0 : Int) - 1) * (p : Int) by rw [Int.sub_mul, Int.one_mul]; omega, Int.add_mul_ediv_right _ _ (by omega), Int.ediv_eq_zero_of_lt (by omega) (by omega), Int.zero_add]
  have q5 : ad / (p : Int) = dd := by rw [had]; exact Int.mul_ediv_cancel _ (by omega)
  have q6 : (t0 : Int) * (p : Int) = ai := hai.symm
  have hab : 0 ≤ ai ∧ ai ≤ 800000000 := by
    rw [hai]
    have : t0 * p ≤ 100000000 * 8 := Nat.mul_le_mul (by omega) hp8
    have h2 : ((t0 * p : Nat) : Int) = (t0 : Int) * (p : Int) := by simp
    omega
  clear hai had
  by_cases hbb : bo = b
  · subst hbb
    obtain ⟨hd0, hd1⟩ := hd rfl
    obtain ⟨f, hf⟩ : ∃ f : Nat, (t0 : Int) + dd = (f : Int) := ⟨((t0 : Int) + dd).toNat, by omega⟩
    have hfm : f ≤ m := by omega
    have hq : (bo : Int) == (bo : Int) := by simp
    cases a with
    | none =>
      obtain rfl := hn rfl
      obtain rfl : t0 = 0 := by omega
      obtain rfl : ai = 0 := by simpa using q6.symm
      have q7 : (-1 : Int) / (p : Int) = -1 := by simpa using q4
      cases a' with
      | none =>
        obtain rfl := hm rfl
        obtain rfl : f = 0 := by omega
        go_enter Try.func32, Try.ntmps32
        go_wp2_with fail
        go_quiet (fail)
        go_wp2_with fail
        refine (hfl nq).mono ?_
        rintro r w1 ⟨rfl, rfl⟩
        go_wp2_with fail
        obtain ⟨hc1, -⟩ := aw_setup w nq (.cells #[.int .u64 (B : Int), .int .u64 (T : Int), .int .u64 ((W - 1 : Nat) : Int), .int .u64 ((64 - W : Nat) : Int)] 57)
        generalize (((w.drewN nq).alloc (.cells #[.int .u64 (B : Int), .int .u64 (T : Int), .int .u64 ((W - 1 : Nat) : Int), .int .u64 ((64 - W : Nat) : Int)] 57)).alloc (.cells #[.int .u64 (B : Int), .int .u64 (T : Int), .int .u64 ((W - 1 : Nat) : Int), .int .u64 ((64 - W : Nat) : Int)] 57)) = w1 at *
        have c2' := hc1.cellEq c2 (fun h => h)
        have o2' := hc1.cellEq o2 (fun h => h)
        have o0' := hc1.cellEq o0 (fun h => h)
        clear hfl o2 o3 o1 c1 c3 c0 c2 o0
        go_quiet (fail)
        go_wp2_with fail
        all_goals (
          go_loop [11, 70] (fun fv i => ∃ k : Nat, i = .int .i64 k ∧ k ≤ 0 ∧ fv = .int .i64 k) (fun _ _ => 0)
          case atStart => exact ⟨0, rfl, Nat.le_refl _, rfl⟩
          case round =>
            obtain ⟨k, rfl, hk, rfl⟩ := hrel
            obtain rfl : k = 0 := by omega
            go_wp2_with fail
            go_ret2
            exact ⟨rfl, hc1.drewN nq⟩)
      | some x =>
        go_enter Try.func32, Try.ntmps32
        go_wp2_with fail
        go_quiet (fail)
        go_wp2_with fail
        refine (hfl nq).mono ?_
        rintro r w1 ⟨rfl, rfl⟩
        go_wp2_with fail
        obtain ⟨hc1, -⟩ := aw_setup w nq (.cells #[.int .u64 (B : Int), .int .u64 (T : Int), .int .u64 ((W - 1 : Nat) : Int), .int .u64 ((64 - W : Nat) : Int)] 57)
        generalize (((w.drewN nq).alloc (.cells #[.int .u64 (B : Int), .int .u64 (T : Int), .int .u64 ((W - 1 : Nat) : Int), .int .u64 ((64 - W : Nat) : Int)] 57)).alloc (.cells #[.int .u64 (B : Int), .int .u64 (T : Int), .int .u64 ((W - 1 : Nat) : Int), .int .u64 ((64 - W : Nat) : Int)] 57)) = w1 at *
        have c2' := hc1.cellEq c2 (fun h => h)
        have o2' := hc1.cellEq o2 (fun h => h)
        have o0' := hc1.cellEq o0 (fun h => h)
        clear hfl o2 o3 o1 c1 c3 c0 c2 o0
        go_quiet (fail)
        go_wp2_with fail
        all_goals (
          go_loop [11, 70] (fun fv i => ∃ k : Nat, i = .int .i64 k ∧ k ≤ 0 ∧ fv = .int .i64 k) (fun _ _ => 0)
          case atStart => exact ⟨0, rfl, Nat.le_refl _, rfl⟩
          case round =>
            obtain ⟨k, rfl, hk, rfl⟩ := hrel
            obtain rfl : k = 0 := by omega
            go_wp2_with fail
            go_ret2
            exact ⟨rfl, hc1.drewN nq⟩)
    | some z =>
      cases a' with
      | none =>
        obtain rfl := hm rfl
        obtain rfl : f = 0 := by omega
        go_enter Try.func32, Try.ntmps32
        go_wp2_with fail
        go_quiet (fail)
        go_wp2_with fail
        refine (hfl nq).mono ?_
        rintro r w1 ⟨rfl, rfl⟩
        go_wp2_with fail
        obtain ⟨hc1, -⟩ := aw_setup w nq (.cells #[.int .u64 (B : Int), .int .u64 (T : Int), .int .u64 ((W - 1 : Nat) : Int), .int .u64 ((64 - W : Nat) : Int)] 57)
        generalize (((w.drewN nq).alloc (.cells #[.int .u64 (B : Int), .int .u64 (T : Int), .int .u64 ((W - 1 : Nat) : Int), .int .u64 ((64 - W : Nat) : Int)] 57)).alloc (.cells #[.int .u64 (B : Int), .int .u64 (T : Int), .int .u64 ((W - 1 : Nat) : Int), .int .u64 ((64 - W : Nat) : Int)] 57)) = w1 at *
        have c2' := hc1.cellEq c2 (fun h => h)
        have o2' := hc1.cellEq o2 (fun h => h)
        have o0' := hc1.cellEq o0 (fun h => h)
        clear hfl o2 o3 o1 c1 c3 c0 c2 o0
        go_quiet (fail)
        go_wp2_with fail
        all_goals (
          go_loop [11, 70] (fun fv i => ∃ k : Nat, i = .int .i64 k ∧ k ≤ 0 ∧ fv = .int .i64 k) (fun _ _ => 0)
          case atStart => exact ⟨0, rfl, Nat.le_refl _, rfl⟩
          case round =>
            obtain ⟨k, rfl, hk, rfl⟩ := hrel
            obtain rfl : k = 0 := by omega
            go_wp2_with fail
            go_ret2
            exact ⟨rfl, hc1.drewN nq⟩)
      | some x =>
        go_enter Try.func32, Try.ntmps32
        go_wp2_with fail
        go_quiet (fail)
        go_wp2_with fail
        refine (hfl nq).mono ?_
        rintro r w1 ⟨rfl, rfl⟩
        go_wp2_with fail
        obtain ⟨hc1, -⟩ := aw_setup w nq (.cells #[.int .u64 (B : Int), .int .u64 (T : Int), .int .u64 ((W - 1 : Nat) : Int), .int .u64 ((64 - W : Nat) : Int)] 57)
        generalize (((w.drewN nq).alloc (.cells #[.int .u64 (B : Int), .int .u64 (T : Int), .int .u64 ((W - 1 : Nat) : Int), .int .u64 ((64 - W : Nat) : Int)] 57)).alloc (.cells #[.int .u64 (B : Int), .int .u64 (T : Int), .int .u64 ((W - 1 : Nat) : Int), .int .u64 ((64 - W : Nat) : Int)] 57)) = w1 at *
        have c2' := hc1.cellEq c2 (fun h => h)
        have o2' := hc1.cellEq o2 (fun h => h)
        have o0' := hc1.cellEq o0 (fun h => h)
        clear hfl o2 o3 o1 c1 c3 c0 c2 o0
        go_quiet (fail)
        go_wp2_with fail
        all_goals (
          go_loop [11, 70] (fun fv i => ∃ k : Nat, i = .int .i64 k ∧ k ≤ 0 ∧ fv = .int .i64 k) (fun _ _ => 0)
          case atStart => exact ⟨0, rfl, Nat.le_refl _, rfl⟩
          case round =>
            obtain ⟨k, rfl, hk, rfl⟩ := hrel
            obtain rfl : k = 0 := by omega
            go_wp2_with fail
            go_ret2
            exact ⟨rfl, hc1.drewN nq⟩)
  · have hbne : ((bo : Int) == (b : Int)) = false := by rw [beq_eq_false_iff_ne]; omega
    go_enter Try.func32, Try.ntmps32
    go_wp2_with fail
    go_quiet (fail)
    go_wp2_with fail
    refine (hfl nq).mono ?_
    rintro r w1 ⟨rfl, rfl⟩
    go_wp2_with fail
    obtain ⟨hc1, -⟩ := aw_setup w nq (.cells #[.int .u64 (B : Int), .int .u64 (T : Int), .int .u64 ((W - 1 : Nat) : Int), .int .u64 ((64 - W : Nat) : Int)] 57)
    generalize (((w.drewN nq).alloc (.cells #[.int .u64 (B : Int), .int .u64 (T : Int), .int .u64 ((W - 1 : Nat) : Int), .int .u64 ((64 - W : Nat) : Int)] 57)).alloc (.cells #[.int .u64 (B : Int), .int .u64 (T : Int), .int .u64 ((W - 1 : Nat) : Int), .int .u64 ((64 - W : Nat) : Int)] 57)) = w1 at *
    have c2' := hc1.cellEq c2 (fun h => h)
    have o2' := hc1.cellEq o2 (fun h => h)
    clear hfl o2 o3 o1 c1 c3 c0 c2 o0
    go_quiet (fail)
    go_wp2_with fail
    go_loop [2, 11] (fun i fv => i = .int .i64 ai ∧ fv = .int .i64 0) (fun _ _ => 0)
    case atStart => exact ⟨rfl, rfl⟩
    case round =>
      obtain ⟨rfl, rfl⟩ := hrel
      go_wp2_with fail
      go_ret2
      exact ⟨rfl, hc1.drewN nq⟩

theorem ZZAddWords_of {c o : Nat} {i e d : Int} {w : World} {P : Value → Value → World → Prop} (h : Calls Try.prog 32 #[.pointer (some ⟨c, 0, none⟩), .pointer (some ⟨o, 0, none⟩), .int .i64 i, .int .i64 e, .int .i64 d] w fun r w' => ∃ u v, r = .returned (.tuple #[u, v]) ∧ P u v w') :
    Calls Try.prog 27 #[.pointer (some ⟨c, 0, none⟩), .pointer (some ⟨o, 0, none⟩), .int .i64 i, .int .i64 e, .int .i64 d] w fun r w' => ∃ u v, r = .returned (.tuple #[u, v]) ∧ P u v w' := by
  go_enter Try.func27, Try.ntmps27
  go_wp2_with fail
  refine h.mono ?_
  rintro r w2 ⟨u, v, rfl, hQ⟩
  go_wp2_with fail
  go_ret2
  exact ⟨u, v, rfl, hQ⟩

/-- x rounded up to a multiple of p. -/
theorem roundUp_any (x p q : Nat) (w : World) (hp : 0 < p) (hx : x ≤ 1000000000) (hp8 : p ≤ 8) (hq : (x + p - 1) / p = q) :
    Calls Try.prog 28 #[.int .i64 x, .int .i64 p] w fun e w' => e = .returned (.int .i64 ((q * p : Nat) : Int)) ∧ w' = w := by
  have h1 : ((x : Int) + (p : Int) - 1).tdiv (p : Int) = (q : Int) := by
    rw [Int.tdiv_eq_ediv_of_nonneg (by omega), show (x : Int) + (p : Int) - 1 = ((x + p - 1 : Nat) : Int) by omega, ← Int.natCast_ediv, hq]
  have h2 : ((x : Int) + (p : Int) - 1) / (p : Int) = (q : Int) := by
    rw [show (x : Int) + (p : Int) - 1 = ((x + p - 1 : Nat) : Int) by omega, ← Int.natCast_ediv, hq]
  have hqb : q ≤ 2000000000 := by rw [← hq]; exact Nat.le_trans (Nat.div_le_self _ _) (by omega)
  have hqp : q * p ≤ 2000000000 * 8 := Nat.mul_le_mul hqb hp8
  have h3 : (q : Int) * (p : Int) = ((q * p : Nat) : Int) := by simp
  have hne : ((p : Int) == 0) = false := by rw [beq_eq_false_iff_ne]; omega
  generalize q * p = z at *
  go_enter Try.func28, Try.ntmps28
  go_wp2_with fail
  go_ret
  exact ⟨rfl, rfl⟩

end Go.Proofs.Qxb6601640a
