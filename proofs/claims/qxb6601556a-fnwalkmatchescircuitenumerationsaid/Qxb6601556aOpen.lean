/-
  From an argument's reading to what the walks are told.
-/
import Derived.Test.Qxb6601556aDom
import Derived.ProofKit
import Derived.OpenShut
import Derived.ShutString
import Derived.ChangeOld
import Derived.Deep.Matrix
namespace Go.Proofs.Qxb6601556a
open Go.RowKit Go.ChangeShapes Go.WideShapes
set_option linter.unusedVariables false
set_option linter.unusedSimpArgs false

theorem addr_plain {W : World} {a : Addr} {i : Nat} {v v0 : Value} (h0 : W.cell? (a.add 0) = some v0) (h : W.cell? (a.add i) = some v) : a = ⟨a.block, a.off, none⟩ ∧ W.cell? ⟨a.block, a.off + i, none⟩ = some v := by
  obtain ⟨b, off, spot⟩ := a
  have hs : spot = none := by simpa [Addr.add] using World.cell?_spot h0
  subst hs
  exact ⟨rfl, by simpa [Addr.add_lit] using h⟩

theorem rowI_of {W : World} {a : Addr} {n : Nat} {zs : List Int} (hn : n ≤ zs.length) (h : ∀ c, c < n → W.cell? (a.add c) = some (.int .i64 (zs.getD c 0))) : RowI W (some a) (zs.take n) := by
  intro i hi
  have hi' : i < n := by simp at hi; omega
  obtain ⟨h1, h2⟩ := addr_plain (h 0 (by omega)) (h i hi')
  refine ⟨a.block, a.off, by rw [← h1], ?_⟩
  rw [h2]
  simp [List.getD, List.getElem?_take, hi']

section
variable {H : Type} {enc : TypeId × Value → H} {W : World} {fuel : Nat}

theorem open_row23 {a : Option Addr} {n cap : Nat} {x : DataW H × List MemPlace} (h : DataW.trod enc Try.prog W 0 (fun _ => true) true fuel 23 [.slice a n cap] = some x) :
    ∃ l : List Int, l.length = n ∧ RowI W a l ∧ (a = none → l.length = 0) ∧ l.length ≤ 9223372036854775807 := by
  rcases open_ints Try.underlying23 Try.underlying3 (by kernel_rfl) h with ⟨hcs, _⟩ | ⟨y, l, c, zs, hcs, _, hl, hm, hz, _, hcell, hwz⟩
  · simp at hcs
    obtain ⟨rfl, rfl, rfl⟩ := hcs
    exact ⟨[], rfl, fun i hi => by simp at hi, fun _ => rfl, by simp⟩
  · simp at hcs
    obtain ⟨rfl, rfl, rfl⟩ := hcs
    simp only [if_true] at hz
    unfold maxLen at hm
    have hlen : (zs.take n).length = n := by simp; omega
    exact ⟨zs.take n, hlen, rowI_of (by omega) (fun c hc => hcell c (by omega)), fun h => (by cases h), by rw [hlen]; omega⟩

theorem open_rows22 {a : Option Addr} {n cap : Nat} {x : DataW H × List MemPlace} (h : DataW.trod enc Try.prog W 0 (fun _ => true) true fuel 22 [.slice a n cap] = some x) :
    ∃ rows : List (List Int), rows.length = n ∧ RowsV W a rows ∧ (a = none → rows.length = 0) ∧ rows.length ≤ 9223372036854775807 := by
  rcases Deep.open_int_rows Try.underlying22 Try.underlying23 Try.underlying3 (by kernel_rfl) (by kernel_rfl) h with ⟨hcs, _⟩ | ⟨y, l, c, A, L, C, Z, hcs, _, hl, hm, _, hall⟩
  · simp at hcs
    obtain ⟨rfl, rfl, rfl⟩ := hcs
    exact ⟨[], rfl, ⟨fun i hi => by simp at hi, fun i => by simp⟩, fun _ => rfl, by simp⟩
  · simp at hcs
    obtain ⟨rfl, rfl, rfl⟩ := hcs
    unfold maxLen at hm
    have hlen : ((List.range n).map fun r => (Z r).take (L r)).length = n := by simp
    have hget : ∀ i, i < n → ((List.range n).map fun r => (Z r).take (L r)).getD i [] = (Z i).take (L i) := fun i hi => by simp [List.getD, hi]
    refine ⟨(List.range n).map fun r => (Z r).take (L r), hlen, ⟨fun i hi => ?_, fun i => ?_⟩, fun h => (by cases h), by rw [hlen]; omega⟩
    · rw [hlen] at hi
      rw [hget i hi]
      obtain ⟨h1, h2, h3, h4, h5, h6, h7⟩ := hall i (by omega)
      obtain ⟨e1, e2⟩ := addr_plain (hall 0 (by omega)).1 h1
      have hl2 : ((Z i).take (L i)).length = L i := by simp; omega
      refine ⟨y.block, y.off, by rw [← e1], A i, C i, by rw [hl2]; exact e2, ?_, fun hn => by rw [hl2]; have := h6 hn; omega⟩
      intro j hj
      rw [hl2] at hj
      cases hA : A i with
      | none => have := h6 hA; omega
      | some a' =>
        have := rowI_of (zs := Z i) (n := L i) (by omega) (fun c hc => (h7 a' hA).2 c (by omega))
        exact this j (by rw [hl2]; exact hj)
    · by_cases hi : i < n
      · rw [hget i hi]
        obtain ⟨h1, h2, h3, h4, _⟩ := hall i (by omega)
        unfold maxLen at h3
        simp; omega
      · simp [List.getD, hi]
end

end Go.Proofs.Qxb6601556a
