/-
  The circle search in memory: the box, the two maps, the path, the circles, the waiting lists; what each store does to it.
-/
import Derived.Test.Qxb6601556aNext
namespace Go.Proofs.Qxb6601556a
open Go.RowKit
set_option linter.unusedVariables false
set_option linter.unusedSimpArgs false

section
variable {α β : Type}
theorem get_map (g : α → β) (m : List (Int × α)) (k : Int) : Pl.get (m.map fun p => (p.1, g p.2)) k = (Pl.get m k).map g := by
  induction m with
  | nil => rfl
  | cons p r ih =>
    obtain ⟨a, b⟩ := p
    by_cases h : a = k <;> simp [Pl.get, h, ih]
theorem put_map (g : α → β) (m : List (Int × α)) (k : Int) (v : α) : Pl.put (m.map fun p => (p.1, g p.2)) k (g v) = (Pl.put m k v).map fun p => (p.1, g p.2) := by
  induction m with
  | nil => rfl
  | cons p r ih =>
    obtain ⟨a, b⟩ := p
    by_cases h : a = k <;> simp [Pl.put, h, ih]
theorem keys_del (m : List (Int × α)) (k : Int) : Pl.keys (Pl.del m k) = (Pl.keys m).erase k := by
  induction m with
  | nil => rfl
  | cons p r ih =>
    obtain ⟨a, b⟩ := p
    by_cases h : a = k
    · simp [Pl.del, Pl.keys, h]
    · simp only [Pl.del, h, if_false, Pl.keys, List.map_cons] at ih ⊢
      rw [List.erase_cons_tail (by simpa using h), ih]
theorem keys_put_mem (m : List (Int × α)) (k : Int) (v : α) (h : k ∈ Pl.keys m) : Pl.keys (Pl.put m k v) = Pl.keys m := by
  induction m with
  | nil => simp [Pl.keys] at h
  | cons p r ih =>
    obtain ⟨a, b⟩ := p
    by_cases e : a = k
    · simp [Pl.put, Pl.keys, e]
    · have h' : k ∈ Pl.keys r := by
        simp only [Pl.keys, List.map_cons, List.mem_cons] at h
        rcases h with h | h
        · exact absurd h.symm e
        · exact h
      have := ih h'
      simp only [Pl.put, e, if_false, Pl.keys, List.map_cons] at this ⊢
      rw [this]
theorem keys_put_not (m : List (Int × α)) (k : Int) (v : α) (h : k ∉ Pl.keys m) : Pl.keys (Pl.put m k v) = Pl.keys m ++ [k] := by
  induction m with
  | nil => rfl
  | cons p r ih =>
    obtain ⟨a, b⟩ := p
    simp only [Pl.keys, List.map_cons, List.mem_cons, not_or] at h
    have e : ¬ a = k := fun e => h.1 e.symm
    have := ih h.2
    simp only [Pl.put, e, if_false, Pl.keys, List.map_cons] at this ⊢
    rw [this]; rfl
theorem keys_put_eq {m : List (Int × α)} {m' : List (Int × β)} (h : Pl.keys m = Pl.keys m') (k : Int) (v : α) (v' : β) : Pl.keys (Pl.put m k v) = Pl.keys (Pl.put m' k v') := by
  by_cases hk : k ∈ Pl.keys m
  · rw [keys_put_mem m k v hk, keys_put_mem m' k v' (h ▸ hk), h]
  · rw [keys_put_not m k v hk, keys_put_not m' k v' (h ▸ hk), h]
end

theorem hideP {p : Prop} (h : p) : Hid p := h

structure Base where
  bs : Nat
  mb : Nat
  mB : Nat
  vR : Value
  vC : Value
structure Lay where
  pv : Value
  cv : Value
  rows : List Value
  lists : List (Int × Value)

def lv (L : Lay) (k : Int) : Value := (Pl.get L.lists k).getD (.slice none 0 0)
def blV (m : List (Int × Bool)) : List (Int × Value) := m.map fun p => (p.1, Value.bool p.2)
/-- The blocks that the search may write. -/
def Mut (B : Base) (L : Lay) (b : Nat) : Prop := b = B.bs ∨ b = B.mb ∨ b = B.mB ∨ L.pv.ownBlock = some b ∨ L.cv.ownBlock = some b ∨ ∃ k, (lv L k).ownBlock = some b

structure St (I : Nat → Prop) (w : World) (B : Base) (L : Lay) (start : Int) (path : List Int) (s : Pl.S) : Prop where
  box : w.heap[B.bs]? = some (.cells #[B.vR, B.vC, L.cv, .int .i64 start, L.pv, .map (some B.mb), .map (some B.mB)] 54 (0, 0))
  hmb : VMap w B.mb (blV s.bl)
  hmB : VMap w B.mB L.lists
  hne : B.mb ≠ B.mB
  keys : Pl.keys L.lists = Pl.keys s.by_
  lst : ∀ k, OI w (lv L k) (Pl.wl s k)
  pth : OI w L.pv path
  crc : OV w L.cv L.rows
  rln : L.rows.length = s.circ.length
  row : ∀ i, i < L.rows.length → OI w (L.rows.getD i (.slice none 0 0)) (s.circ.getD i [])
  sp : ∀ k b, (lv L k).ownBlock = some b → L.pv.ownBlock ≠ some b
  sk : ∀ k k' b, (lv L k).ownBlock = some b → (lv L k').ownBlock = some b → k = k'
  si : ∀ b, I b → b < w.heap.size ∧ ¬ Mut B L b
  sr : ∀ v ∈ L.rows, ∀ b, v.ownBlock = some b → ¬ Mut B L b

theorem ownsRow_block {w : World} {base : Nat} {e : TypeId} {v : Value} {n : Nat} {xs : List Value} (h : w.ownsRow base e 1 v n xs) {b : Nat} (hb : v.ownBlock = some b) : ∃ cur, w.heap[b]? = some (.cells cur e (0, 0)) := by
  obtain ⟨h1, h2⟩ := h
  rcases h2 with ⟨rfl, _⟩ | ⟨g, cap, cur, rfl, _, hg, _⟩
  · cases hb
  · simp [Value.ownBlock] at hb; subst hb; exact ⟨cur, hg⟩
theorem OI.ne_map {w : World} {v : Value} {l : List Int} {r : Nat} {m : List (Int × Value)} (h : OI w v l) (hm : VMap w r m) : v.ownBlock ≠ some r := by
  intro hb
  obtain ⟨cur, hc⟩ := ownsRow_block h hb
  obtain ⟨es, c, h1, _⟩ := hm
  rw [h1] at hc; cases hc
theorem OV.ne_map {w : World} {v : Value} {l : List Value} {r : Nat} {m : List (Int × Value)} (h : OV w v l) (hm : VMap w r m) : v.ownBlock ≠ some r := by
  intro hb
  obtain ⟨cur, hc⟩ := ownsRow_block h hb
  obtain ⟨es, c, h1, _⟩ := hm
  rw [h1] at hc; cases hc
theorem OI.ne_ov {w : World} {v u : Value} {l : List Int} {l' : List Value} (h : OI w v l) (hm : OV w u l') : ∀ b, v.ownBlock = some b → u.ownBlock ≠ some b := by
  intro b hb hb'
  obtain ⟨cur, hc⟩ := ownsRow_block h hb
  obtain ⟨cur', hc'⟩ := ownsRow_block hm hb'
  rw [hc] at hc'; simp at hc'
theorem OI.ne_box {w : World} {v : Value} {l : List Int} {r : Nat} {cs : Array Value} {fz : Nat × Nat} (h : OI w v l) (hm : w.heap[r]? = some (.cells cs 54 fz)) : v.ownBlock ≠ some r := by
  intro hb
  obtain ⟨cur, hc⟩ := ownsRow_block h hb
  rw [hm] at hc; simp at hc
theorem OV.ne_box {w : World} {v : Value} {l : List Value} {r : Nat} {cs : Array Value} {fz : Nat × Nat} (h : OV w v l) (hm : w.heap[r]? = some (.cells cs 54 fz)) : v.ownBlock ≠ some r := by
  intro hb
  obtain ⟨cur, hc⟩ := ownsRow_block h hb
  rw [hm] at hc; simp at hc
theorem VMap.ne_box {w : World} {r q : Nat} {m : List (Int × Value)} {cs : Array Value} {e : TypeId} {fz : Nat × Nat} (h : VMap w r m) (hm : w.heap[q]? = some (.cells cs e fz)) : q ≠ r := by
  obtain ⟨es, c, h1, _⟩ := h
  intro e; subst e; rw [h1] at hm; cases hm

section
variable {I : Nat → Prop} {w w' : World} {B : Base} {L : Lay} {start : Int} {path : List Int} {s : Pl.S}

theorem St.cell (h : St I w B L start path s) : w.cell? ⟨B.bs, 0, none⟩ = some B.vR ∧ w.cell? ⟨B.bs, 1, none⟩ = some B.vC ∧ w.cell? ⟨B.bs, 2, none⟩ = some L.cv ∧ w.cell? ⟨B.bs, 3, none⟩ = some (.int .i64 start) ∧ w.cell? ⟨B.bs, 4, none⟩ = some L.pv ∧
    w.cell? ⟨B.bs, 5, none⟩ = some (.map (some B.mb)) ∧ w.cell? ⟨B.bs, 6, none⟩ = some (.map (some B.mB)) ∧ (∀ i, w.frozen? ⟨B.bs, i, none⟩ = false) := by
  have hb := h.box
  refine ⟨?_, ?_, ?_, ?_, ?_, ?_, ?_, fun i => ?_⟩ <;> simp [World.cell?, World.frozen?, hb]
theorem St.lt (h : St I w B L start path s) : ∀ b, Mut B L b → b < w.heap.size := by
  rintro b (rfl | rfl | rfl | hb | hb | ⟨k, hb⟩)
  · exact (Array.getElem?_eq_some_iff.1 h.box).1
  · exact h.hmb.lt
  · exact h.hmB.lt
  · exact h.pth.lt b hb
  · exact h.crc.lt b hb
  · exact (h.lst k).lt b hb

/-- The blocks that a search reads at all: kept, the search is as it was. -/
theorem St.same (h : St I w B L start path s) (hs : w.heap.size ≤ w'.heap.size) (hb : ∀ b, b < w.heap.size → w'.heap[b]? = w.heap[b]?) : St I w' B L start path s := by
  have hm := h.lt
  exact ⟨(hb _ (hm _ (.inl rfl))).trans h.box, h.hmb.of_block (hb _ h.hmb.lt), h.hmB.of_block (hb _ h.hmB.lt), h.hne, h.keys, fun k => (h.lst k).same fun b e => hb b ((h.lst k).lt b e), h.pth.same fun b e => hb b (h.pth.lt b e),
    h.crc.same fun b e => hb b (h.crc.lt b e), h.rln, fun i hi => (h.row i hi).same fun b e => hb b ((h.row i hi).lt b e), h.sp, h.sk, fun b hI => ⟨Nat.lt_of_lt_of_le (h.si b hI).1 hs, (h.si b hI).2⟩, h.sr⟩
theorem St.chg (h : St I w B L start path s) (hc : Chg (fun _ => False) w w') : St I w' B L start path s := h.same hc.size fun b hb => hc.block b hb (fun f => f)

theorem St.setBl (h : St I w B L start path s) (v : Int) (b : Bool) (h1 : VMap w' B.mb (Pl.put (blV s.bl) v (.bool b))) (hg : w.grownBy w' (some B.mb)) : St I w' B L start path (Pl.setB s v b) := by
  have keep : ∀ x, x < w.heap.size → x ≠ B.mb → w'.heap[x]? = w.heap[x]? := fun x hx hne => hg.block x hx (by simpa using hne)
  have hbs := h.hmb.ne_box h.box
  refine ⟨(keep _ (h.lt _ (.inl rfl)) hbs).trans h.box, ?_, h.hmB.of_block (keep _ h.hmB.lt (Ne.symm h.hne)), h.hne, h.keys, fun k => (h.lst k).same fun b e => keep b ((h.lst k).lt b e) (fun e' => (h.lst k).ne_map h.hmb (by rw [e, e'])),
    h.pth.same fun b e => keep b (h.pth.lt b e) (fun e' => h.pth.ne_map h.hmb (by rw [e, e'])), h.crc.same fun b e => keep b (h.crc.lt b e) (fun e' => h.crc.ne_map h.hmb (by rw [e, e'])), h.rln,
    fun i hi => (h.row i hi).same fun b e => keep b ((h.row i hi).lt b e) (fun e' => (h.row i hi).ne_map h.hmb (by rw [e, e'])), h.sp, h.sk, fun b hI => ⟨Nat.lt_of_lt_of_le (h.si b hI).1 hg.size, (h.si b hI).2⟩, h.sr⟩
  have e : Pl.put (blV s.bl) v (.bool b) = blV (Pl.setB s v b).bl := put_map Value.bool s.bl v b
  rw [← e]; exact h1

theorem lv_del (L : Lay) (hn : (Pl.keys L.lists).Nodup) (v k : Int) : lv { L with lists := Pl.del L.lists v } k = if k = v then .slice none 0 0 else lv L k := by
  unfold lv
  split
  · rename_i e; subst e; simp [Pl.get_del_same _ _ hn]
  · rename_i e; simp [Pl.get_del_other _ _ _ e]

theorem Mut_del {B : Base} {L : Lay} (hn : (Pl.keys L.lists).Nodup) {v : Int} {b : Nat} (h : Mut B { L with lists := Pl.del L.lists v } b) : Mut B L b := by
  rcases h with h | h | h | h | h | ⟨k, h⟩
  · exact .inl h
  · exact .inr (.inl h)
  · exact .inr (.inr (.inl h))
  · exact .inr (.inr (.inr (.inl h)))
  · exact .inr (.inr (.inr (.inr (.inl h))))
  · rw [lv_del L hn] at h
    split at h
    · cases h
    · exact .inr (.inr (.inr (.inr (.inr ⟨k, h⟩))))

theorem St.delBy (h : St I w B L start path s) (hky : (Pl.keys s.by_).Nodup) (v : Int) (h1 : VMap w' B.mB (Pl.del L.lists v)) (hg : w.grownBy w' (some B.mB)) : St I w' B { L with lists := Pl.del L.lists v } start path { s with by_ := Pl.del s.by_ v } := by
  have keep : ∀ x, x < w.heap.size → x ≠ B.mB → w'.heap[x]? = w.heap[x]? := fun x hx hne => hg.block x hx (by simpa using hne)
  have hbs := h.hmB.ne_box h.box
  have hn : (Pl.keys L.lists).Nodup := by rw [h.keys]; exact hky
  have hlv := lv_del L hn v
  have hwl : ∀ k, Pl.wl { s with by_ := Pl.del s.by_ v } k = if k = v then [] else Pl.wl s k := by
    intro k
    unfold Pl.wl
    split
    · rename_i e; subst e; simp [Pl.get_del_same _ _ hky]
    · rename_i e; simp [Pl.get_del_other _ _ _ e]
  refine ⟨(keep _ (h.lt _ (.inl rfl)) hbs).trans h.box, h.hmb.of_block (keep _ h.hmb.lt h.hne), h1, h.hne, ?_, fun k => ?_, h.pth.same fun b e => keep b (h.pth.lt b e) (fun e' => h.pth.ne_map h.hmB (by rw [e, e'])),
    h.crc.same fun b e => keep b (h.crc.lt b e) (fun e' => h.crc.ne_map h.hmB (by rw [e, e'])), h.rln, fun i hi => (h.row i hi).same fun b e => keep b ((h.row i hi).lt b e) (fun e' => (h.row i hi).ne_map h.hmB (by rw [e, e'])), ?_, ?_,
    fun b hI => ⟨Nat.lt_of_lt_of_le (h.si b hI).1 hg.size, fun hm => (h.si b hI).2 (Mut_del hn hm)⟩, fun u hu b hb hm => h.sr u hu b hb (Mut_del hn hm)⟩
  · show Pl.keys (Pl.del L.lists v) = Pl.keys (Pl.del s.by_ v)
    rw [keys_del, keys_del, h.keys]
  · rw [hlv, hwl]
    split
    · exact OI.nil _
    · exact (h.lst k).same fun b e => keep b ((h.lst k).lt b e) (fun e' => (h.lst k).ne_map h.hmB (by rw [e, e']))
  · intro k b hb
    rw [hlv] at hb
    split at hb
    · cases hb
    · exact h.sp k b hb
  · intro k k' b hb hb'
    rw [hlv] at hb hb'
    split at hb
    · cases hb
    · split at hb'
      · cases hb'
      · exact h.sk k k' b hb hb'
end

/-! ### Laws at the operations -/
theorem Try.zero4 (w : World) : (zeroValue 4).run Try.prog w = .ok (.bool false) w := by kernel_rfl
theorem Try.zero23 (w : World) : (zeroValue 23).run Try.prog w = .ok (.slice none 0 0) w := by kernel_rfl

theorem get_blV (m : List (Int × Bool)) (k : Int) : (Pl.get (blV m) k).getD (.bool false) = .bool ((Pl.get m k).getD false) := by
  unfold blV
  rw [get_map]
  cases Pl.get m k <;> rfl

section
variable {w : World} {ops : Array Oper} {rest : List Oper} {o : Oper} {a : Act} {Q : Exit → Act → World → Prop}
theorem wpList_look_bl (hg : o.guard = none) (m x : Operand) (hop : o.op = Op.lookup 32 m x false) (r : Nat) (s : Pl.S) (hm : a.eval m = .map (some r)) (hown : VMap w r (blV s.bl)) (k : Int) (hx : a.eval x = .int .i64 k)
    (hK : wpList Try.prog ops Q rest (a.put o.dst (.bool (Pl.isB s k))) w) : wpList Try.prog ops Q (o :: rest) a w := by
  refine wpList_look_v hg m x 32 hop 3 4 Try.underlying32 Try.underlying3 (.bool false) (Try.zero4 w) r _ hm hown k hx ?_
  rw [get_blV]; exact hK
theorem wpList_look_by (hg : o.guard = none) (m x : Operand) (hop : o.op = Op.lookup 33 m x false) (r : Nat) (L : Lay) (hm : a.eval m = .map (some r)) (hown : VMap w r L.lists) (k : Int) (hx : a.eval x = .int .i64 k)
    (hK : wpList Try.prog ops Q rest (a.put o.dst (lv L k)) w) : wpList Try.prog ops Q (o :: rest) a w :=
  wpList_look_v hg m x 33 hop 3 23 Try.underlying33 Try.underlying3 (.slice none 0 0) (Try.zero23 w) r _ hm hown k hx hK
end

end Go.Proofs.Qxb6601556a
