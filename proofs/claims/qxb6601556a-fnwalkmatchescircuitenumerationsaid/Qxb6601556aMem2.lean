/-
  Frames; rows of ints and rows of slices that the call owns; an argument's row of ints; laws at the operations.
-/
import Derived.Test.Qxb6601556aMem
import Derived.Laws.CopyOwn
namespace Go.Proofs.Qxb6601556a
open Go.RowKit Go.MapKept
set_option linter.unusedVariables false
set_option linter.unusedSimpArgs false

/-- w' is w but for blocks in F, and new ones. -/
structure Chg (F : Nat → Prop) (w w' : World) : Prop where
  os : w'.os = w.os
  tape : w'.tape = w.tape
  output : w'.output = w.output
  size : w.heap.size ≤ w'.heap.size
  block : ∀ k, k < w.heap.size → ¬ F k → w'.heap[k]? = w.heap[k]?

theorem Chg.refl (F : Nat → Prop) (w : World) : Chg F w w := ⟨rfl, rfl, rfl, Nat.le_refl _, fun _ _ _ => rfl⟩
theorem Chg.trans {F G : Nat → Prop} {a b c : World} (h : Chg F a b) (k : Chg G b c) (hG : ∀ i, i < a.heap.size → G i → F i) : Chg F a c :=
  ⟨k.os.trans h.os, k.tape.trans h.tape, k.output.trans h.output, Nat.le_trans h.size k.size, fun i hi hf =>
    (k.block i (Nat.lt_of_lt_of_le hi h.size) (fun g => hf (hG i hi g))).trans (h.block i hi hf)⟩
theorem Chg.mono {F G : Nat → Prop} {w w' : World} (h : Chg F w w') (hF : ∀ i, i < w.heap.size → F i → G i) : Chg G w w' :=
  ⟨h.os, h.tape, h.output, h.size, fun i hi hg => h.block i hi (fun f => hg (hF i hi f))⟩
theorem Chg.drew {F : Nat → Prop} {a w : World} (h : Chg F a w) : Chg F a w.drew := ⟨h.os, h.tape, h.output, h.size, h.block⟩
theorem Chg.drewN {F : Nat → Prop} {a w : World} (h : Chg F a w) (n : Nat) : Chg F a (w.drewN n) := ⟨h.os, h.tape, h.output, h.size, h.block⟩
theorem Chg.alloc {F : Nat → Prop} {a w : World} (h : Chg F a w) (o : Obj) : Chg F a (w.alloc o) :=
  h.trans (G := fun _ => False) ⟨rfl, rfl, rfl, by simp, fun k hk _ => Below.heap_alloc _ _ _ hk⟩ (fun _ _ h => h.elim)
theorem Chg.grown {F : Nat → Prop} {a w w' : World} {row : Option Nat} (h : Chg F a w) (hg : w.grownBy w' row) (hr : ∀ k, k < a.heap.size → row = some k → F k) : Chg F a w' :=
  h.trans (G := fun k => some k = row) ⟨hg.os, hg.tape, hg.output, hg.size, hg.block⟩ (fun i hi e => hr i hi e.symm)
theorem Chg.setCell {F : Nat → Prop} {a w : World} (h : Chg F a w) {p : Addr} (hp : p.block < a.heap.size → F p.block) (u : Value) : Chg F a (w.setCell p u) :=
  h.trans (G := fun k => k = p.block) ⟨rfl, rfl, rfl, by simp [World.setCell], fun k hk hne => Below.heap_setCell _ _ _ _ hne⟩ (fun i hi e => by subst e; exact hp hi)
theorem Chg.below {F : Nat → Prop} {B : Nat} {w w' : World} (h : Chg F w w') (hB : B ≤ w.heap.size) (hF : ∀ k, F k → B ≤ k) : Below B w w' :=
  ⟨h.os, h.tape, h.output, h.size, fun k hk => h.block k (by omega) (fun f => by have := hF k f; omega)⟩
theorem Chg.of_below {w w' : World} (h : Below w.heap.size w w') : Chg (fun _ => False) w w' := ⟨h.os, h.tape, h.output, h.size, fun k hk _ => h.block k hk⟩
theorem Chg.cell {F : Nat → Prop} {w w' : World} (h : Chg F w w') {p : Addr} (hp : p.block < w.heap.size) (hf : ¬ F p.block) : w'.cell? p = w.cell? p := World.cell?_of_block (h.block _ hp hf)
theorem Chg.cellEq {F : Nat → Prop} {w w' : World} (h : Chg F w w') {p : Addr} {v : Value} (hp : w.cell? p = some v) (hf : ¬ F p.block) : w'.cell? p = some v :=
  (h.cell (World.block_lt_of_cell? w p hp) hf).trans hp

/-- A row of ints that begins at a block's head: nil, or not. -/
def OI (w : World) (v : Value) (l : List Int) : Prop := w.ownsRow 0 3 1 v l.length (l.map (Value.int .i64))
/-- A row of slices that begins at a block's head. -/
def OV (w : World) (v : Value) (l : List Value) : Prop := w.ownsRow 0 23 1 v l.length l
/-- The cells of a slice of ints, wherever it lies. -/
def RowI (w : World) (a : Option Addr) (l : List Int) : Prop :=
  ∀ i, i < l.length → ∃ b off, a = some ⟨b, off, none⟩ ∧ w.cell? ⟨b, off + i, none⟩ = some (.int .i64 (l.getD i 0))

theorem ownsRow_same {w w' : World} {base : Nat} {e : TypeId} {size : Nat} {v : Value} {n : Nat} {xs : List Value} (h : w.ownsRow base e size v n xs) (hb : ∀ b, v.ownBlock = some b → w'.heap[b]? = w.heap[b]?) : w'.ownsRow base e size v n xs := by
  obtain ⟨h1, h2⟩ := h
  refine ⟨h1, ?_⟩
  rcases h2 with h2 | ⟨g, cap, cur, hv, hg, hh, r⟩
  · exact .inl h2
  · exact .inr ⟨g, cap, cur, hv, hg, by rw [hb g (by rw [hv]; rfl)]; exact hh, r⟩
theorem OI.same {w w' : World} {v : Value} {l : List Int} (h : OI w v l) (hb : ∀ b, v.ownBlock = some b → w'.heap[b]? = w.heap[b]?) : OI w' v l := ownsRow_same h hb
theorem OV.same {w w' : World} {v : Value} {l : List Value} (h : OV w v l) (hb : ∀ b, v.ownBlock = some b → w'.heap[b]? = w.heap[b]?) : OV w' v l := ownsRow_same h hb
theorem OI.lt {w : World} {v : Value} {l : List Int} (h : OI w v l) : ∀ b, v.ownBlock = some b → b < w.heap.size := fun b hb => (World.ownsRow.lt h b hb).2
theorem OV.lt {w : World} {v : Value} {l : List Value} (h : OV w v l) : ∀ b, v.ownBlock = some b → b < w.heap.size := fun b hb => (World.ownsRow.lt h b hb).2
theorem OI.chg {F : Nat → Prop} {w w' : World} {v : Value} {l : List Int} (h : OI w v l) (hc : Chg F w w') (hf : ∀ b, v.ownBlock = some b → ¬ F b) : OI w' v l := h.same fun b hb => hc.block b (h.lt b hb) (hf b hb)
theorem OV.chg {F : Nat → Prop} {w w' : World} {v : Value} {l : List Value} (h : OV w v l) (hc : Chg F w w') (hf : ∀ b, v.ownBlock = some b → ¬ F b) : OV w' v l := h.same fun b hb => hc.block b (h.lt b hb) (hf b hb)
theorem OI.nil (w : World) : OI w (.slice none 0 0) [] := World.ownsRow_nil w 0 3 1
theorem OV.nil (w : World) : OV w (.slice none 0 0) [] := World.ownsRow_nil w 0 23 1

theorem ownsRow_shape {w : World} {base : Nat} {e : TypeId} {v : Value} {n : Nat} {xs : List Value} (h : w.ownsRow base e 1 v n xs) :
    ∃ a cap, v = .slice a n cap ∧ n ≤ cap ∧ cap ≤ maxLen ∧ (a = none → n = 0 ∧ cap = 0) ∧ (∀ b, a = some b → b = ⟨b.block, 0, none⟩ ∧ b.block < w.heap.size ∧ ∃ cur, w.heap[b.block]? = some (.cells cur e (0, 0))) ∧
      ∀ i u, xs[i]? = some u → ∃ g, a = some ⟨g, 0, none⟩ ∧ w.cell? ⟨g, i, none⟩ = some u := by
  obtain ⟨h1, h2⟩ := h
  rcases h2 with ⟨rfl, rfl⟩ | ⟨g, cap, cur, rfl, hb, hg, hn, hm, hs, ht⟩
  · refine ⟨none, 0, rfl, Nat.le_refl _, Nat.zero_le _, fun _ => ⟨rfl, rfl⟩, fun b hb => (by cases hb), fun i u hi => ?_⟩
    have := (List.getElem?_eq_some_iff.1 hi).1
    omega
  · refine ⟨some ⟨g, 0, none⟩, cap, rfl, hn, hm, fun h => (by cases h), fun b hb => ?_, fun i u hi => ⟨g, rfl, ?_⟩⟩
    · cases hb
      exact ⟨rfl, (Array.getElem?_eq_some_iff.1 hg).1, cur, hg⟩
    · rw [cell_of_row w g i cur e (0, 0) hg]
      rw [← ht, List.getElem?_take] at hi
      split at hi
      · simpa using hi
      · cases hi

theorem OI.shape {w : World} {v : Value} {l : List Int} (h : OI w v l) :
    ∃ a cap, v = .slice a l.length cap ∧ l.length ≤ cap ∧ cap ≤ maxLen ∧ (a = none → l.length = 0 ∧ cap = 0) ∧ (∀ b, a = some b → b = ⟨b.block, 0, none⟩ ∧ b.block < w.heap.size ∧ ∃ cur, w.heap[b.block]? = some (.cells cur 3 (0, 0))) ∧ RowI w a l := by
  obtain ⟨a, cap, h1, h2, h3, h4, h5, h6⟩ := ownsRow_shape h
  refine ⟨a, cap, h1, h2, h3, h4, h5, fun i hi => ?_⟩
  obtain ⟨g, hg, hc⟩ := h6 i (.int .i64 (l.getD i 0)) (by simp [hi])
  exact ⟨g, 0, hg, by simpa using hc⟩

theorem RowI.mono {w w' : World} {a : Option Addr} {l : List Int} (h : RowI w a l) (hc : ∀ x v, a = some x → ∀ o, w.cell? ⟨x.block, o, none⟩ = some v → w'.cell? ⟨x.block, o, none⟩ = some v) : RowI w' a l := by
  intro i hi
  obtain ⟨b, off, rfl, hcell⟩ := h i hi
  exact ⟨b, off, rfl, hc _ _ rfl _ hcell⟩
theorem RowI.chg {F : Nat → Prop} {w w' : World} {a : Option Addr} {l : List Int} (h : RowI w a l) (hc : Chg F w w') (hf : ∀ k, k < w.heap.size → ¬ F k) : RowI w' a l :=
  h.mono fun x v _ o ho => hc.cellEq ho (hf _ (World.block_lt_of_cell? w _ ho))

theorem OI.of_block {w : World} {g cap : Nat} {cur : Array Value} {l : List Int} (hg : w.heap[g]? = some (.cells cur 3 (0, 0))) (hc : cur.size = cap) (hl : l.length ≤ cap) (hm : cap ≤ maxLen) (ht : cur.toList.take l.length = l.map (Value.int .i64)) :
    OI w (.slice (some ⟨g, 0, none⟩) l.length cap) l :=
  ⟨by simp, .inr ⟨g, cap, cur, rfl, Nat.zero_le _, hg, hl, hm, by omega, by simpa using ht⟩⟩
theorem OV.of_block {w : World} {g cap : Nat} {cur : Array Value} {l : List Value} (hg : w.heap[g]? = some (.cells cur 23 (0, 0))) (hc : cur.size = cap) (hl : l.length ≤ cap) (hm : cap ≤ maxLen) (ht : cur.toList.take l.length = l) :
    OV w (.slice (some ⟨g, 0, none⟩) l.length cap) l :=
  ⟨by simp, .inr ⟨g, cap, cur, rfl, Nat.zero_le _, hg, hl, hm, by omega, by simpa using ht⟩⟩

theorem ownsRow_full {w : World} {base : Nat} {e : TypeId} {g n : Nat} {xs : List Value} (h : w.ownsRow base e 1 (.slice (some ⟨g, 0, none⟩) n n) n xs) : w.heap[g]? = some (.cells xs.toArray e (0, 0)) := by
  obtain ⟨h1, h2⟩ := h
  rcases h2 with ⟨h2, _⟩ | ⟨g', cap, cur, hv, hb, hg, hn, hm, hs, ht⟩
  · cases h2
  · simp only [Value.slice.injEq, Option.some.injEq, Addr.mk.injEq, and_true, true_and] at hv
    obtain ⟨rfl, rfl⟩ := hv
    have : cur = xs.toArray := by
      rw [← ht, List.take_of_length_le (by simp; omega)]
    rw [← this]; exact hg
theorem splice_whole (cur cs : List Value) (h : cur.length = cs.length) : splice cur 0 cs = cs := by
  unfold splice
  rw [List.drop_of_length_le (by omega)]
  simp

/-! ### Laws at the operations: a map keyed by ints -/
section
variable {P : Program} {w : World} {ops : Array Oper} {rest : List Oper} {o : Oper} {a : Act} {Q : Exit → Act → World → Prop}

theorem wpList_store_v (hg : o.guard = none) (m x v : Operand) (t : TypeId) (hop : o.op = Op.mapUpdate t m x v) (key elem : TypeId) (ht : P.underlying t = some (.map key elem)) (hk : P.underlying key = some (.int .i64))
    (r : Nat) (M : List (Int × Value)) (hm : a.eval m = .map (some r)) (hown : VMap w r M) (k : Int) (u : Value) (hx : a.eval x = .int .i64 k) (hv : a.eval v = u)
    (hK : ∀ w', VMap w' r (Pl.put M k u) → w.grownBy w' (some r) → w'.heap.size = w.heap.size → wpList P ops Q rest (a.put o.dst undef) w') : wpList P ops Q (o :: rest) a w := by
  refine wpList_plain hg fun K' hK' => ?_
  obtain ⟨w', hrun, r1, r2, r3⟩ := hown.update (P := P) ht hk k u
  unfold Oper.wp
  simp [execOp, hop, hm, hx, hv, hrun, Result.andThen]
  exact hK' _ _ (hK w' r1 r2 r3)

theorem wpList_look_v (hg : o.guard = none) (m x : Operand) (t : TypeId) (hop : o.op = Op.lookup t m x false) (key elem : TypeId) (ht : P.underlying t = some (.map key elem)) (hk : P.underlying key = some (.int .i64)) (z : Value) (hz : (zeroValue elem).run P w = .ok z w)
    (r : Nat) (M : List (Int × Value)) (hm : a.eval m = .map (some r)) (hown : VMap w r M) (k : Int) (hx : a.eval x = .int .i64 k)
    (hK : wpList P ops Q rest (a.put o.dst ((Pl.get M k).getD z)) w) : wpList P ops Q (o :: rest) a w := by
  refine wpList_plain hg fun K' hK' => ?_
  have hrun := hown.look (P := P) ht hk hz k
  unfold Oper.wp
  simp [execOp, hop, hm, hx, hrun, Result.andThen]
  exact hK' _ _ hK

theorem wpList_drop_v (hg : o.guard = none) (m x : Operand) (t key : TypeId) (hop : o.op = Op.call { callee := Callee.builtin Builtin.delete, args := #[m, x], argTypes := #[t, key] }) (elem : TypeId) (ht : P.underlying t = some (.map key elem)) (hk : P.underlying key = some (.int .i64))
    (r : Nat) (M : List (Int × Value)) (hm : a.eval m = .map (some r)) (hown : VMap w r M) (k : Int) (hx : a.eval x = .int .i64 k)
    (hK : ∀ w', VMap w' r (Pl.del M k) → w.grownBy w' (some r) → w'.heap.size = w.heap.size → wpList P ops Q rest (a.put o.dst (.tuple #[])) w') : wpList P ops Q (o :: rest) a w := by
  refine wpList_plain hg fun K' hK' => ?_
  obtain ⟨w', hrun, r1, r2, r3⟩ := hown.drop (P := P) ht hk o.type k
  unfold Oper.wp
  simp [execOp, hop, resolve, invoke, builtin, hm, hx, hrun, Result.andThen]
  exact hK' _ _ (hK w' r1 r2 r3)
end

end Go.Proofs.Qxb6601556a
