/-
  'Rows.FnWalkMatchesCircuitEnumerationSaid': from the walk (law3_all) to the row.
-/
import Derived.Test.Qxb6601556aHead3
import Derived.Test.Qxb6601556aOpen
namespace Go.Proofs.Qxb6601556a.fnWalkMatchesCircuitEnumeration
open Go.ChangeShapes Go.WideShapes Go.ChangeAt Go.RowKit
open Go.ChangeMaps (open_string shut_string)
set_option linter.unusedVariables false

theorem own : ownKnob Try.prog.godebug = none := by kernel_rfl
theorem laidOut : laidOutB Try.prog = true := by kernel_rfl

set_option maxRecDepth 100000 in
theorem lifted (os : Os) (started : os.Started) (H : Type) (enc : TypeId × Value → H) :
    ReturnsInHanded {} Try.checked os 3 .any (Rows.fnWalkMatchesCircuitEnumerationSpec.pre6 enc Try.prog Try.f3 Rows.fnWalkMatchesCircuitEnumerationRow.domain false) (Rows.fnWalkMatchesCircuitEnumerationSpec.post enc Try.prog Try.f3 false true false false) := by
  refine returnsInHanded_of_change (C := Try.checked) own started (by kernel_rfl) Try.func3
    (ChangeSpec.witness6 (enc := enc) (C := Try.checked) false ⟨#[], #[.slice none 0 0, .slice none 0 0, .slice none 0 0, .int .i64 0, .slice none 0 0, .int .i64 0], []⟩ 8 (by kernel_rfl) (by kernel_rfl) (by kernel_rfl) (by kernel_rfl)) ?_
  intro W base args ds gs before hval0 hW hcnd _
  have hval : ∀ (j : Nat) t v, Try.f3.params[j]? = some t → args[j]? = some v → Value.okWide Try.prog W .any base t v := hval0
  have hW' := hW
  obtain ⟨p, q, hA0, hV, rfl, hfz, hnd⟩ := hW
  have hA : DataW.TrodAll enc Try.prog W 0 (fun _ => true) true Try.f3.params.toList args.toList ds p := hA0
  rw [Try.params3] at hA hval
  obtain ⟨v0, vs0, d0, ds0, p0, q0, hargs, rfl, rfl, h0, r0⟩ := trodAll_cons hA
  obtain ⟨v1, vs1, d1, ds1, p1, q1, rfl, rfl, rfl, h1, r1⟩ := trodAll_cons r0
  obtain ⟨v2, vs2, d2, ds2, p2, q2, rfl, rfl, rfl, h2, r2⟩ := trodAll_cons r1
  obtain ⟨v3, vs3, d3, ds3, p3, q3, rfl, rfl, rfl, h3, r3⟩ := trodAll_cons r2
  obtain ⟨v4, vs4, d4, ds4, p4, q4, rfl, rfl, rfl, h4, r4⟩ := trodAll_cons r3
  obtain ⟨v5, vs5, d5, ds5, p5, q5, rfl, rfl, rfl, h5, r5⟩ := trodAll_cons r4
  obtain ⟨rfl, rfl, rfl⟩ := trodAll_nil r5
  obtain rfl : args = #[v0, v1, v2, v3, v4, v5] := by cases args; simp_all
  obtain ⟨rfl, rfl⟩ := trodVars_none hV
  obtain ⟨a0, len0, cap0, rfl⟩ := okWide_slice Try.underlying22 (hval 0 22 v0 rfl rfl)
  obtain ⟨a1, len1, cap1, rfl⟩ := okWide_slice Try.underlying23 (hval 1 23 v1 rfl rfl)
  obtain ⟨a2, len2, cap2, rfl⟩ := okWide_slice Try.underlying22 (hval 2 22 v2 rfl rfl)
  obtain ⟨a4, len4, cap4, rfl⟩ := okWide_slice Try.underlying23 (hval 4 23 v4 rfl rfl)
  have k0 := h0
  have lt0 : ∀ x ∈ p0, x.block < W.heap.size := by obtain ⟨m, hm⟩ := k0; exact DataW.trod_lt m _ _ _ hm
  have k1 := h1
  have lt1 : ∀ x ∈ p1, x.block < W.heap.size := by obtain ⟨m, hm⟩ := k1; exact DataW.trod_lt m _ _ _ hm
  have k2 := h2
  have lt2 : ∀ x ∈ p2, x.block < W.heap.size := by obtain ⟨m, hm⟩ := k2; exact DataW.trod_lt m _ _ _ hm
  have k4 := h4
  have lt4 : ∀ x ∈ p4, x.block < W.heap.size := by obtain ⟨m, hm⟩ := k4; exact DataW.trod_lt m _ _ _ hm
  obtain ⟨R, rfl, hR, z0, l0⟩ : ∃ rows : List (List Int), rows.length = len0 ∧ RowsV W a0 rows ∧ (a0 = none → rows.length = 0) ∧ rows.length ≤ 9223372036854775807 := by
    obtain ⟨fuel, hf⟩ := h0
    exact open_rows22 (by simpa [Value.cells] using hf)
  obtain ⟨comp, rfl, hcomp, z1, l1⟩ : ∃ l : List Int, l.length = len1 ∧ RowI W a1 l ∧ (a1 = none → l.length = 0) ∧ l.length ≤ 9223372036854775807 := by
    obtain ⟨fuel, hf⟩ := h1
    exact open_row23 (by simpa [Value.cells] using hf)
  obtain ⟨C, rfl, hC, z2, l2⟩ : ∃ rows : List (List Int), rows.length = len2 ∧ RowsV W a2 rows ∧ (a2 = none → rows.length = 0) ∧ rows.length ≤ 9223372036854775807 := by
    obtain ⟨fuel, hf⟩ := h2
    exact open_rows22 (by simpa [Value.cells] using hf)
  obtain ⟨path, rfl, hpath, z4, l4⟩ : ∃ l : List Int, l.length = len4 ∧ RowI W a4 l ∧ (a4 = none → l.length = 0) ∧ l.length ≤ 9223372036854775807 := by
    obtain ⟨fuel, hf⟩ := h4
    exact open_row23 (by simpa [Value.cells] using hf)
  obtain ⟨a3, rfl, rfl, rfl, w3⟩ := open_int Try.underlying3 (hval 3 3 v3 rfl rfl) h3
  obtain ⟨a5, rfl, rfl, rfl, w5⟩ := open_int Try.underlying3 (hval 5 3 v5 rfl rfl) h5
  clear hA0 hval0
  refine (law3_all a0 a1 a2 a4 cap0 cap1 cap2 cap4 a3 a5 R C comp path W hR hC hcomp hpath z0 z1 z2 z4 l0 l1 l2 l4).mono fun e W' ⟨he, bel⟩ => ?_
  subst he
  exact ⟨_, rfl, _, _, _, [], _, [], hW', trodAll_mk1 (shut_bool Try.underlying4 _), (trodAll_cons_mk (Below.trod laidOut (by kernel_rfl) (of_decide_eq_true (by kernel_rfl)) k0 bel lt0) (trodAll_cons_mk (Below.trod laidOut (by kernel_rfl) (of_decide_eq_true (by kernel_rfl)) k1 bel lt1) (trodAll_cons_mk (Below.trod laidOut (by kernel_rfl) (of_decide_eq_true (by kernel_rfl)) k2 bel lt2) (trodAll_cons_mk (shut_int Try.underlying3 w3) (trodAll_cons_mk (Below.trod laidOut (by kernel_rfl) (of_decide_eq_true (by kernel_rfl)) k4 bel lt4) (trodAll_cons_mk (shut_int Try.underlying3 w5) trodAll_mk0)))))), rfl, bel.frame _, fun h => by cases h⟩

theorem over : Rows.fnWalkMatchesCircuitEnumerationRow.holds Try.pinned (OpenSpec.ofChange Rows.fnWalkMatchesCircuitEnumerationSpec) :=
  OpenClaim.holds_of_wide 3 Try.f3 rfl rfl rfl rfl rfl rfl rfl ⟨rfl, rfl, rfl, rfl, rfl⟩ rfl rfl rfl rfl rfl (by kernel_rfl) Try.func3 (by kernel_rfl)
    (of_decide_eq_true (by kernel_rfl)) (by unfold Func.isWrapper; first | (rw [if_pos (by decide +kernel)]; kernel_rfl) | (rw [if_neg (by decide +kernel)]; exact ⟨rfl, rfl⟩))
    (fun os started H enc _ => lifted os started H enc)

/-- THE STATEMENT -/
theorem proved : Rows.FnWalkMatchesCircuitEnumerationSaid := over
#print axioms proved
end Go.Proofs.Qxb6601556a.fnWalkMatchesCircuitEnumeration
