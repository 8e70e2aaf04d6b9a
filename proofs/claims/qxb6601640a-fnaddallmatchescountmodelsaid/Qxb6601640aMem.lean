/-
  Frames; rows of words that the call owns; the counters in memory.
-/
import Derived.Test.Qxb6601640aRows
import Derived.WalkKit
import Derived.ProofKit
import Derived.Below
import Derived.BigQuiet
import Derived.BigRegion
import Derived.Deep.RegionHeld3
import Derived.Laws.CopyOwn
import Derived.Maps.OwnOps
import Derived.WalkLawsBesides
namespace Go.Proofs.Qxb6601640a
open Go.RowKit
set_option linter.unusedVariables false
set_option linter.unusedSimpArgs false

/-- A proposition that the walk does not look into. -/
def Hid (p : Prop) : Prop := p
theorem hideP {p : Prop} (h : p) : Hid p := h
theorem Hid.out {p : Prop} (h : Hid p) : p := h
theorem ret_bool {a b : Bool} (h : a = b) : Ending.returned (.bool a) = .returned (.bool b) := by rw [h]

/-- w' is w but for blocks in F, and new ones. -/
structure Chg (F : Nat → Prop) (w w' : World) : Prop where
  os : w'.os = w.os
  tape : w'.tape = w.tape
  output : w'.output = w.output
  size : w.heap.size ≤ w'.heap.size
  block : ∀ k, k < w.heap.size → ¬ F k → w'.heap[k]? = w.heap[k]?

theorem Chg.refl (F : Nat → Prop) (w : World) : Chg F w w := ⟨rfl, rfl, rfl, Nat.le_refl _, fun _ _ _ => rfl⟩
theorem Chg.trans {F G : Nat → Prop} {a b c : World} (h : Chg F a b) (k : Chg G b c) (hG : ∀ i, i < a.heap.size → G i → F i) : Chg F a c :=
  ⟨k.os.trans h.os, k.tape.trans h.tape, k.output.trans h.output, Nat.le_trans h.size k.size, fun i hi hf =>
    (k.block i (Nat.lt_of_lt_of_le hi h.size) (fun g => hf (hG i hi g))).trans (h.block i hi hf)⟩
theorem Chg.mono {F G : Nat → Prop} {w w' : World} (h : Chg F w w') (hF : ∀ i, i < w.heap.size → F i → G i) : Chg G w w' :=
  ⟨h.os, h.tape, h.output, h.size, fun i hi hg => h.block i hi (fun f => hg (hF i hi f))⟩
theorem Chg.drew {F : Nat → Prop} {a w : World} (h : Chg F a w) : Chg F a w.drew := ⟨h.os, h.tape, h.output, h.size, h.block⟩
theorem Chg.drewN {F : Nat → Prop} {a w : World} (h : Chg F a w) (n : Nat) : Chg F a (w.drewN n) := ⟨h.os, h.tape, h.output, h.size, h.block⟩
theorem Chg.alloc {F : Nat → Prop} {a w : World} (h : Chg F a w) (o : Obj) : Chg F a (w.alloc o) :=
  h.trans (G := fun _ => False) ⟨rfl, rfl, rfl, by simp, fun k hk _ => Below.heap_alloc _ _ _ hk⟩ (fun _ _ h => h.elim)
theorem Chg.grown {F : Nat → Prop} {a w w' : World} {row : Option Nat} (h : Chg F a w) (hg : w.grownBy w' row) (hr : ∀ k, k < a.heap.size → row = some k → F k) : Chg F a w' :=
  h.trans (G := fun k => some k = row) ⟨hg.os, hg.tape, hg.output, hg.size, hg.block⟩ (fun i hi e => hr i hi e.symm)
theorem Chg.setCell {F : Nat → Prop} {a w : World} (h : Chg F a w) {p : Addr} (hp : p.block < a.heap.size → F p.block) (u : Value) : Chg F a (w.setCell p u) :=
  h.trans (G := fun k => k = p.block) ⟨rfl, rfl, rfl, by simp [World.setCell], fun k hk hne => Below.heap_setCell _ _ _ _ hne⟩ (fun i hi e => by subst e; exact hp hi)
theorem Chg.below {F : Nat → Prop} {B : Nat} {w w' : World} (h : Chg F w w') (hB : B ≤ w.heap.size) (hF : ∀ k, F k → B ≤ k) : Below B w w' :=
  ⟨h.os, h.tape, h.output, h.size, fun k hk => h.block k (by omega) (fun f => by have := hF k f; omega)⟩
theorem Chg.of_below {w w' : World} (h : Below w.heap.size w w') : Chg (fun _ => False) w w' := ⟨h.os, h.tape, h.output, h.size, fun k hk _ => h.block k hk⟩
theorem Chg.cell {F : Nat → Prop} {w w' : World} (h : Chg F w w') {p : Addr} (hp : p.block < w.heap.size) (hf : ¬ F p.block) : w'.cell? p = w.cell? p := World.cell?_of_block (h.block _ hp hf)
theorem Chg.cellEq {F : Nat → Prop} {w w' : World} (h : Chg F w w') {p : Addr} {v : Value} (hp : w.cell? p = some v) (hf : ¬ F p.block) : w'.cell? p = some v :=
  (h.cell (World.block_lt_of_cell? w p hp) hf).trans hp

def U (x : Nat) : Value := .int .u64 x
theorem U_def (x : Nat) : U x = .int .u64 x := rfl

/-- The cells of a slice of words, wherever it lies. -/
def RowW (w : World) (a : Option Addr) (l : List Nat) : Prop :=
  ∀ i, i < l.length → ∃ b off, a = some ⟨b, off, none⟩ ∧ w.cell? ⟨b, off + i, none⟩ = some (.int .u64 (l.getD i 0 : Nat))
theorem RowW.chg {F : Nat → Prop} {w w' : World} {a : Option Addr} {l : List Nat} (h : RowW w a l) (hc : Chg F w w') (hf : ∀ x, a = some x → ¬ F x.block) : RowW w' a l := by
  intro i hi
  obtain ⟨b, off, rfl, hcell⟩ := h i hi
  exact ⟨b, off, rfl, hc.cellEq hcell (hf ⟨b, off, none⟩ rfl)⟩

/-- A block that is a row of words, whole. -/
def OBk (w : World) (g : Nat) (l : List Nat) : Prop := w.heap[g]? = some (.cells (l.map U).toArray 23 (0, 0))
theorem OBk.lt {w : World} {g : Nat} {l : List Nat} (h : OBk w g l) : g < w.heap.size := by
  rcases Nat.lt_or_ge g w.heap.size with hlt | hge
  · exact hlt
  · unfold OBk at h; rw [Array.getElem?_eq_none hge] at h; cases h
theorem OBk.cell {w : World} {g : Nat} {l : List Nat} (h : OBk w g l) (i : Nat) (hi : i < l.length) : w.cell? ⟨g, i, none⟩ = some (.int .u64 (l.getD i 0 : Nat)) := by
  rw [cell_of_row w g i _ _ _ h]
  simp [U, hi]
theorem OBk.frozen {w : World} {g : Nat} {l : List Nat} (h : OBk w g l) (i : Nat) : w.frozen? ⟨g, i, none⟩ = false := by
  unfold OBk at h
  simp [World.frozen?, h]
theorem OBk.set {w : World} {g : Nat} {l : List Nat} (h : OBk w g l) (i x : Nat) (hi : i < l.length) : OBk (w.setCell ⟨g, i, none⟩ (.int .u64 (x : Nat))) g (l.set i x) := by
  unfold OBk at h ⊢
  simp [World.setCell, Array.getElem?_modify, h, U]
theorem OBk.same {w w' : World} {g : Nat} {l : List Nat} (h : OBk w g l) (hb : w'.heap[g]? = w.heap[g]?) : OBk w' g l := hb.trans h
theorem OBk.chg {F : Nat → Prop} {w w' : World} {g : Nat} {l : List Nat} (h : OBk w g l) (hc : Chg F w w') (hf : ¬ F g) : OBk w' g l := h.same (hc.block _ h.lt hf)

/-- A slice of words that is nil, or a whole block. -/
def OW (w : World) (v : Value) (l : List Nat) : Prop := (v = .slice none 0 0 ∧ l = []) ∨ ∃ g, v = .slice (some ⟨g, 0, none⟩) l.length l.length ∧ OBk w g l
theorem OW.lt {w : World} {v : Value} {l : List Nat} (h : OW w v l) : ∀ b, v.ownBlock = some b → b < w.heap.size := by
  intro b hb
  rcases h with ⟨rfl, _⟩ | ⟨g, rfl, h⟩
  · cases hb
  · cases hb; exact h.lt
theorem OW.chg {F : Nat → Prop} {w w' : World} {v : Value} {l : List Nat} (h : OW w v l) (hc : Chg F w w') (hf : ∀ b, v.ownBlock = some b → ¬ F b) : OW w' v l := by
  rcases h with ⟨rfl, h⟩ | ⟨g, rfl, h⟩
  · exact .inl ⟨rfl, h⟩
  · exact .inr ⟨g, rfl, h.chg hc (hf g rfl)⟩
theorem OW.shape {w : World} {v : Value} {l : List Nat} (h : OW w v l) : ∃ a, v = .slice a l.length l.length ∧ (a = none → l.length = 0) ∧ RowW w a l ∧ ∀ x, a = some x → v.ownBlock = some x.block := by
  rcases h with ⟨rfl, rfl⟩ | ⟨g, rfl, h⟩
  · exact ⟨none, rfl, fun _ => rfl, fun i hi => absurd hi (Nat.not_lt_zero _), fun x hx => by cases hx⟩
  · exact ⟨_, rfl, fun e => (by cases e), fun i hi => ⟨g, 0, rfl, by simpa using h.cell i hi⟩, fun x hx => by cases hx; rfl⟩
theorem OW.pos {w : World} {v : Value} {l : List Nat} (h : OW w v l) (hp : 0 < l.length) : ∃ g, v = .slice (some ⟨g, 0, none⟩) l.length l.length ∧ OBk w g l := by
  rcases h with ⟨rfl, rfl⟩ | h
  · cases hp
  · exact h

/-- The counters in memory. -/
def Box (w : World) (b : Nat) (v : Value) (full bl pl : Nat) : Prop := w.heap[b]? = some (.cells #[v, .int .u64 full, .int .u8 bl, .int .u8 pl] 46 (0, 0))
theorem Box.lt {w : World} {b : Nat} {v : Value} {full bl pl : Nat} (h : Box w b v full bl pl) : b < w.heap.size := by
  rcases Nat.lt_or_ge b w.heap.size with hlt | hge
  · exact hlt
  · unfold Box at h; rw [Array.getElem?_eq_none hge] at h; cases h
theorem Box.chg {F : Nat → Prop} {w w' : World} {b : Nat} {v : Value} {full bl pl : Nat} (h : Box w b v full bl pl) (hc : Chg F w w') (hf : ¬ F b) : Box w' b v full bl pl := (hc.block _ h.lt hf).trans h
theorem Box.cells {w : World} {b : Nat} {v : Value} {full bl pl : Nat} (h : Box w b v full bl pl) :
    w.cell? ⟨b, 0, none⟩ = some v ∧ w.cell? ⟨b, 1, none⟩ = some (.int .u64 full) ∧ w.cell? ⟨b, 2, none⟩ = some (.int .u8 bl) ∧ w.cell? ⟨b, 3, none⟩ = some (.int .u8 pl) := by
  unfold Box at h
  exact ⟨by simp [World.cell?, h], by simp [World.cell?, h], by simp [World.cell?, h], by simp [World.cell?, h]⟩

end Go.Proofs.Qxb6601640a
