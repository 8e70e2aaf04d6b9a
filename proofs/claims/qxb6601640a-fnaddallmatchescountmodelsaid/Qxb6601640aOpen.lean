/-
  The arguments as plain numbers and words.
-/
import Derived.Test.Qxb6601640aMem
import Derived.Test.Qxb6601640aCount
import Derived.OpenShut
namespace Go.Proofs.Qxb6601640a
set_option linter.unusedVariables false
set_option linter.unusedSimpArgs false

theorem nat_u64 {n : Int} (h : (Lit.int .u64 n).wf = true) : ∃ m : Nat, n = (m : Int) ∧ m < 18446744073709551616 := by
  have := bounds_u64 h
  exact ⟨n.toNat, by omega, by omega⟩
theorem nat_u8 {n : Int} (h : (Lit.int .u8 n).wf = true) : ∃ m : Nat, n = (m : Int) ∧ m < 256 := by
  have := bounds_u8 h
  exact ⟨n.toNat, by omega, by omega⟩

theorem addr_plain {W : World} {a : Addr} {i : Nat} {v v0 : Value} (h0 : W.cell? (a.add 0) = some v0) (h : W.cell? (a.add i) = some v) : a = ⟨a.block, a.off, none⟩ ∧ W.cell? ⟨a.block, a.off + i, none⟩ = some v := by
  obtain ⟨b, off, spot⟩ := a
  have hs : spot = none := by simpa [Addr.add] using World.cell?_spot h0
  subst hs
  exact ⟨rfl, by simpa [Addr.add_lit] using h⟩

theorem words_of {w : World} {a : Option Addr} {len cap : Nat} {zs : List Int}
    (h : (a = none ∧ len = 0 ∧ cap = 0 ∧ zs = []) ∨ ∃ x, a = some x ∧ len ≤ cap ∧ cap ≤ maxLen ∧ zs.length = cap ∧ (∀ i, i < zs.length → w.cell? (x.add i) = some (.int .u64 (zs.getD i 0))) ∧ ∀ n ∈ zs, (Lit.int .u64 n).wf = true) :
    ∃ l : List Nat, l.length = len ∧ RowW w a l ∧ (a = none → l.length = 0) ∧ WB l ∧ l.length ≤ 9223372036854775807 := by
  rcases h with ⟨rfl, rfl, rfl, rfl⟩ | ⟨x, rfl, h1, h2, h3, h4, h5⟩
  · exact ⟨[], rfl, fun i hi => absurd hi (Nat.not_lt_zero _), fun _ => rfl, fun i hi => absurd hi (Nat.not_lt_zero _), by simp⟩
  · have hl : ((zs.take len).map Int.toNat).length = len := by simp; omega
    have hget : ∀ i, i < len → ((zs.take len).map Int.toNat).getD i 0 = (zs.getD i 0).toNat := by
      intro i hi
      have hi2 : i < zs.length := by omega
      simp [List.getD, List.getElem?_take, hi, hi2]
    have hb : ∀ i, i < len → 0 ≤ zs.getD i 0 ∧ zs.getD i 0 ≤ 18446744073709551615 := by
      intro i hi
      have hi2 : i < zs.length := by omega
      apply bounds_u64
      apply h5
      simp [List.getD, hi2]
    refine ⟨(zs.take len).map Int.toNat, hl, fun i hi => ?_, fun e => (by cases e), fun i hi => ?_, by rw [hl]; unfold maxLen at h2; omega⟩
    · rw [hl] at hi
      obtain ⟨e1, e2⟩ := addr_plain (h4 0 (by omega)) (h4 i (by omega))
      refine ⟨x.block, x.off, by rw [← e1], ?_⟩
      rw [e2, hget i hi]
      have := hb i hi
      rw [show (((zs.getD i 0).toNat : Nat) : Int) = zs.getD i 0 by omega]
    · rw [hl] at hi
      rw [hget i hi]
      have := hb i hi
      omega
end Go.Proofs.Qxb6601640a
