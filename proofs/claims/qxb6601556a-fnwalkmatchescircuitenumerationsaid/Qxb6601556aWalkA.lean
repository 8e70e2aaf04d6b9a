import Derived.Test.Qxb6601556aState2
import Derived.BigRegion
import Derived.Test.Qxb6601556aOrders
namespace Go.Proofs.Qxb6601556a
open Go.RowKit
set_option linter.unusedVariables false
set_option linter.unusedSimpArgs false

def ctxOf (rows : List (List Int)) (comp : List Int) (st : Int) : Pl.Ctx := ⟨fun v => nextL comp st (rows.getD v.toNat []), st⟩

structure GraphI (I : Nat → Prop) (vR vC : Value) (rv : List Value) : Prop where
  top : ∀ b, vR.ownBlock = some b → I b
  com : ∀ b, vC.ownBlock = some b → I b
  row : ∀ i, ∀ b, (rv.getD i (.slice none 0 0)).ownBlock = some b → I b

theorem Graph.kept {I : Nat → Prop} {w w' : World} {B : Base} {L : Lay} {start : Int} {path : List Int} {s : Pl.S} {rv : List Value} {rows : List (List Int)} {comp : List Int} (g : Graph w B.vR B.vC rv rows comp) (hI : GraphI I B.vR B.vC rv) (h : St I w B L start path s) (hc : Chg (Mut B L) w w') : Graph w' B.vR B.vC rv rows comp :=
  g.chg hc (fun b hb => (h.si b (hI.top b hb)).2) (fun b hb => (h.si b (hI.com b hb)).2) (fun i _ b hb => (h.si b (hI.row i b hb)).2)

/-- What a graph must meet: the domain of the law. -/
structure Dom (rows : List (List Int)) (comp : List Int) (st : Nat) : Prop where
  n : rows.length ≤ 256
  c : comp.length ≤ 4096
  cn : rows.length ≤ comp.length
  s : st < rows.length
  e : ∀ i, (rows.getD i []).length ≤ 1024
  t : ∀ i, ∀ x ∈ rows.getD i [], x < (rows.length : Int)

def WkC (rows : List (List Int)) (comp : List Int) (st f : Nat) : Prop := ∀ (I : Nat → Prop) (B : Base) (L : Lay) (rv : List Value) (path : List Int) (s : Pl.S) (v : Int) (w : World), St I w B L st path s → Graph w B.vR B.vC rv rows comp → GraphI I B.vR B.vC rv →
    Pl.Sane rows.length s → Pl.Tidy s → 0 ≤ v ∧ v < (rows.length : Int) → Pl.isB s v = false → Pl.openNodes rows.length s ≤ f → path.length + f ≤ 10000 → s.circ.length ≤ 5000 →
    Calls Try.prog 28 #[.pointer (some ⟨B.bs, 0, none⟩), .int .i64 v] w fun e w' => e = .returned (.bool (Pl.wk (ctxOf rows comp st) f path s v).1) ∧ ∃ L', St I w' B L' st path (Pl.wk (ctxOf rows comp st) f path s v).2 ∧ Chg (Mut B L) w w' ∧
      (∀ b, Mut B L' b → Mut B L b ∨ w.heap.size ≤ b)

theorem push_path {I : Nat → Prop} {w w1 : World} {B : Base} {L : Lay} {start : Int} {path : List Int} {s : Pl.S} (h : St I w B L start path s) {v : Int} {g cap : Nat}
    (hoi : OI w1 (.slice (some ⟨g, 0, none⟩) (path.length + 1) cap) (path ++ [v])) (hg : (w.alloc (.cells #[.int .i64 v] 3)).grownBy w1 L.pv.ownBlock) (hl : L.pv.ownBlock = some g ∨ g = (w.alloc (.cells #[.int .i64 v] 3)).heap.size) :
    w1.cell? ⟨B.bs, 4, none⟩ = some L.pv ∧ w1.cell? ⟨B.bs, 5, none⟩ = some (.map (some B.mb)) ∧ (∀ i, w1.frozen? ⟨B.bs, i, none⟩ = false) ∧
    St I (w1.setCell ⟨B.bs, 4, none⟩ (.slice (some ⟨g, 0, none⟩) (path.length + 1) cap)) B { L with pv := .slice (some ⟨g, 0, none⟩) (path.length + 1) cap } start (path ++ [v]) s ∧
    Chg (Mut B L) w (w1.setCell ⟨B.bs, 4, none⟩ (.slice (some ⟨g, 0, none⟩) (path.length + 1) cap)) ∧ (∀ b, Mut B { L with pv := .slice (some ⟨g, 0, none⟩) (path.length + 1) cap } b → Mut B L b ∨ w.heap.size ≤ b) := by
  have hlt := h.lt
  have hbs := hlt _ (.inl rfl)
  have k1 : ∀ b, b < w.heap.size → L.pv.ownBlock ≠ some b → w1.heap[b]? = w.heap[b]? := fun b hb hne =>
    (hg.block b (by simp; omega) (Ne.symm hne)).trans (Below.heap_alloc _ _ _ hb)
  have hb1 : w1.heap[B.bs]? = some (.cells #[B.vR, B.vC, L.cv, .int .i64 start, L.pv, .map (some B.mb), .map (some B.mB)] 54 (0, 0)) := (k1 _ hbs (h.pth.ne_box h.box)).trans h.box
  have hs1 : w.heap.size ≤ w1.heap.size := by have := hg.size; simp at this; omega
  have hgne : g ≠ B.bs := by
    rintro rfl
    exact hoi.ne_box hb1 rfl
  have hch : Chg (Mut B L) w (w1.setCell ⟨B.bs, 4, none⟩ (.slice (some ⟨g, 0, none⟩) (path.length + 1) cap)) :=
    (((Chg.refl _ w).alloc _).grown hg (fun k _ e => .inr (.inr (.inr (.inl e))))).setCell (fun _ => .inl rfl) _
  have hst := h.setPath (w2 := w1.setCell ⟨B.bs, 4, none⟩ (.slice (some ⟨g, 0, none⟩) (path.length + 1) cap)) (pv' := .slice (some ⟨g, 0, none⟩) (path.length + 1) cap) (path' := path ++ [v]) ?_ ?_ hch.size ?_ ?_
  · exact ⟨by simp [World.cell?, hb1], by simp [World.cell?, hb1], fun i => by simp [World.frozen?, hb1], hst.1, hch, hst.2⟩
  · simp [World.setCell, Array.getElem?_modify, hb1]
  · intro b hb hne hp
    rw [Below.heap_setCell _ _ _ _ hne]; exact k1 b hb hp
  · exact hoi.same fun b hb => by
      simp [Value.ownBlock] at hb; subst hb
      exact Below.heap_setCell _ _ _ _ hgne
  · intro b hb
    simp [Value.ownBlock] at hb; subst hb
    rcases hl with hl | hl
    · exact .inl hl
    · right; simp at hl; omega

theorem add_circ {I : Nat → Prop} {w w5 : World} {B : Base} {L : Lay} {start : Int} {path c : List Int} {s : Pl.S} (h : St I w B L start path s) {rv : Value} {g cap : Nat} (hch : Chg (fun b => L.cv.ownBlock = some b) w w5)
    (hrv : OI w5 rv c) (hrf : ∀ b, rv.ownBlock = some b → w.heap.size ≤ b) (hov : OV w5 (.slice (some ⟨g, 0, none⟩) (L.rows.length + 1) cap) (L.rows ++ [rv])) (hfr : L.cv.ownBlock = some g ∨ w.heap.size ≤ g) :
    w5.cell? ⟨B.bs, 2, none⟩ = some L.cv ∧ (∀ i, w5.frozen? ⟨B.bs, i, none⟩ = false) ∧
    St I (w5.setCell ⟨B.bs, 2, none⟩ (.slice (some ⟨g, 0, none⟩) (L.rows.length + 1) cap)) B { L with cv := .slice (some ⟨g, 0, none⟩) (L.rows.length + 1) cap, rows := L.rows ++ [rv] } start path { s with circ := s.circ ++ [c] } ∧
    Chg (Mut B L) w (w5.setCell ⟨B.bs, 2, none⟩ (.slice (some ⟨g, 0, none⟩) (L.rows.length + 1) cap)) ∧ (∀ b, Mut B { L with cv := .slice (some ⟨g, 0, none⟩) (L.rows.length + 1) cap, rows := L.rows ++ [rv] } b → Mut B L b ∨ w.heap.size ≤ b) := by
  have hbs := h.lt _ (.inl rfl)
  have hb1 : w5.heap[B.bs]? = some (.cells #[B.vR, B.vC, L.cv, .int .i64 start, L.pv, .map (some B.mb), .map (some B.mB)] 54 (0, 0)) := (hch.block _ hbs (h.crc.ne_box h.box)).trans h.box
  have hgne : g ≠ B.bs := by
    rintro rfl
    exact hov.ne_box hb1 rfl
  have hch2 : Chg (Mut B L) w (w5.setCell ⟨B.bs, 2, none⟩ (.slice (some ⟨g, 0, none⟩) (L.rows.length + 1) cap)) :=
    (hch.mono (fun b _ e => .inr (.inr (.inr (.inr (.inl e)))))).setCell (fun _ => .inl rfl) _
  have hst := h.addCirc (w2 := w5.setCell ⟨B.bs, 2, none⟩ (.slice (some ⟨g, 0, none⟩) (L.rows.length + 1) cap)) (cv' := .slice (some ⟨g, 0, none⟩) (L.rows.length + 1) cap) (rv := rv) (c := c) ?_ ?_ hch2.size ?_ ?_ ?_ hrf
  · exact ⟨by simp [World.cell?, hb1], fun i => by simp [World.frozen?, hb1], hst.1, hch2, hst.2⟩
  · simp [World.setCell, Array.getElem?_modify, hb1]
  · intro b hb hne hp
    rw [Below.heap_setCell _ _ _ _ hne]; exact hch.block b hb hp
  · exact hov.same fun b hb => by
      simp [Value.ownBlock] at hb; subst hb
      exact Below.heap_setCell _ _ _ _ hgne
  · exact hrv.same fun b hb => Below.heap_setCell _ _ _ _ (fun e => hrv.ne_box hb1 (by rw [hb, e]))
  · intro b hb
    simp [Value.ownBlock] at hb; subst hb
    exact hfr

theorem chg_step {F G H : Nat → Prop} {w3 wr w' : World} (h1 : Chg F w3 wr) (h2 : ∀ b, G b → F b ∨ w3.heap.size ≤ b) (h3 : Chg G wr w') (h4 : ∀ b, H b → G b ∨ wr.heap.size ≤ b) : Chg F w3 w' ∧ ∀ b, H b → F b ∨ w3.heap.size ≤ b := by
  refine ⟨h1.trans h3 (fun i hi hg => ?_), fun b hb => ?_⟩
  · rcases h2 i hg with h | h
    · exact h
    · omega
  · rcases h4 b hb with h | h
    · exact h2 b h
    · have := h1.size; exact .inr (by omega)

theorem S9_keep {bs : Nat} {a b c : Value} {w w' : World} (hb : w'.heap[bs]? = w.heap[bs]?) (h : w.cell? ⟨bs, 2, none⟩ = some a ∧ w.cell? ⟨bs, 4, none⟩ = some b ∧ w.cell? ⟨bs, 3, none⟩ = some c) :
    w'.cell? ⟨bs, 2, none⟩ = some a ∧ w'.cell? ⟨bs, 4, none⟩ = some b ∧ w'.cell? ⟨bs, 3, none⟩ = some c := by
  refine ⟨(World.cell?_of_block ?_).trans h.1, (World.cell?_of_block ?_).trans h.2.1, (World.cell?_of_block ?_).trans h.2.2⟩ <;> exact hb

/-- The loop of 'walk' behind the nodes l. -/
def loopF (c : Pl.Ctx) (f : Nat) (p : List Int) (s : Pl.S) (v : Int) (l : List Int) : Bool × Pl.S := l.foldl (Pl.step c (Pl.wk c f (p ++ [v])) (p ++ [v])) (false, Pl.setB s v true)
theorem loopF_succ (c : Pl.Ctx) (f : Nat) (p : List Int) (s : Pl.S) (v : Int) (l : List Int) (k : Nat) (h : k < l.length) : loopF c f p s v (l.take (k + 1)) = Pl.step c (Pl.wk c f (p ++ [v])) (p ++ [v]) (loopF c f p s v (l.take k)) (l.getD k 0) := by
  unfold loopF
  rw [List.take_succ_eq_append_getElem h, List.foldl_append]
  simp [h]
theorem loopF_going {n : Int} {c : Pl.Ctx} (hc : Pl.CtxOk n c) (f : Nat) (p : List Int) {s : Pl.S} {v : Int} (hs : Pl.Sane n s) (ht : Pl.Tidy s) (hv : 0 ≤ v ∧ v < n) (hb : Pl.isB s v = false) (l : List Int) (hl : ∀ x ∈ l, 0 ≤ x ∧ x < n) : Pl.Going n s v l (loopF c f p s v l) := by
  have := Pl.foldl_inv_pre (P := Pl.Going n s v) (Pl.step c (Pl.wk c f (p ++ [v])) (p ++ [v])) l [] (false, Pl.setB s v true) (fun done w a hw h => h.next (fun t w h1 h2 h3 h4 => Pl.wk_law hc f _ t w h1 h2 h3 h4) (fun t w => Pl.circ_mono c f _ t w) (hl w hw)) (Pl.Going.start hs hv ht hb)
  rw [List.nil_append] at this; exact this
theorem loopF_circ {n : Int} {c : Pl.Ctx} (hc : Pl.CtxOk n c) (f : Nat) (p : List Int) {s : Pl.S} {v : Int} (hs : Pl.Sane n s) (ht : Pl.Tidy s) (hv : 0 ≤ v ∧ v < n) (hb : Pl.isB s v = false) (l : List Int) (hl : ∀ x ∈ l, 0 ≤ x ∧ x < n) : (loopF c f p s v l).2.circ.length ≤ max 64 s.circ.length := by
  have := Pl.foldl_inv_pre (P := fun done a => Pl.Going n s v done a ∧ a.2.circ.length ≤ max 64 s.circ.length) (Pl.step c (Pl.wk c f (p ++ [v])) (p ++ [v])) l [] (false, Pl.setB s v true) (fun done w a hw h => ⟨h.1.next (fun t w h1 h2 h3 h4 => Pl.wk_law hc f _ t w h1 h2 h3 h4) (fun t w => Pl.circ_mono c f _ t w) (hl w hw), ?_⟩) ⟨Pl.Going.start hs hv ht hb, by simp [Pl.setB]; omega⟩
  · exact this.2
  · obtain ⟨g, hlen⟩ := h
    unfold Pl.step
    split
    · exact hlen
    · split
      · simp; omega
      · split
        · exact hlen
        · rename_i h1 h2 h3
          obtain ⟨new, e1, e2, e3, e4, e5⟩ := Pl.wk_grew hc f (p ++ [v]) a.2 w g.sane (g.tidy (by omega)) (hl w hw) (by simpa using h3)
          simp only at e4 ⊢
          omega
theorem nextL_range {rows : List (List Int)} {comp : List Int} {st : Nat} (D : Dom rows comp st) (i : Nat) : ∀ x ∈ nextL comp st (rows.getD i []), 0 ≤ x ∧ x < (rows.length : Int) := by
  intro x hx
  unfold nextL at hx
  rw [List.mem_filter] at hx
  have h1 := D.t i x hx.1
  have h2 := hx.2
  simp [okTo] at h2
  omega
theorem ctxOk {rows : List (List Int)} {comp : List Int} {st : Nat} (D : Dom rows comp st) : Pl.CtxOk rows.length (ctxOf rows comp st) := fun v => nextL_range D v.toNat
theorem nextL_len {rows : List (List Int)} {comp : List Int} {st : Nat} (D : Dom rows comp st) (i : Nat) : (nextL comp st (rows.getD i [])).length ≤ 1024 :=
  Nat.le_trans (List.length_filter_le _ _) (D.e i)

theorem wk_succ (c : Pl.Ctx) (f : Nat) (p : List Int) (s : Pl.S) (v : Int) : Pl.wk c (f + 1) p s v = if (loopF c f p s v (c.nx v)).1 then (true, Pl.unbD (loopF c f p s v (c.nx v)).2 v) else (false, (c.nx v).foldl (Pl.wait1 v) (loopF c f p s v (c.nx v)).2) := rfl

theorem step_store_v {w : World} {ops : Array Oper} {o : Oper} {a : Act} {Q : Exit → Act → World → Prop} {K : Act → World → Prop} {E : Prop} (hgd : o.guard = none) (m x v : Operand) (hop : o.op = Op.mapUpdate 33 m x v)
    (r : Nat) (M : List (Int × Value)) (hm : a.eval m = .map (some r)) (hown : VMap w r M) (k : Int) (u : Value) (hx : a.eval x = .int .i64 k) (hv : a.eval v = u)
    (hK : ∀ w', VMap w' r (Pl.put M k u) → w.grownBy w' (some r) → w'.heap.size = w.heap.size → K (a.put o.dst undef) w') :
    if Region.wanted o (yielded ops a.tmps) = true then Oper.wp Try.prog o a w K Q else E := by
  have hw : Region.wanted o (yielded ops a.tmps) = true := by simp [Region.wanted, hgd]
  rw [if_pos hw]
  obtain ⟨w', hrun, r1, r2, r3⟩ := hown.update (P := Try.prog) Try.underlying33 Try.underlying3 k u
  unfold Oper.wp
  simp [execOp, hop, hm, hx, hv, hrun, Result.andThen]
  exact hK w' r1 r2 r3

theorem exec_look {w : World} {o : Oper} {a : Act} (m x : Operand) (hop : o.op = Op.lookup 33 m x false) (r : Nat) (L : Lay) (hm : a.eval m = .map (some r)) (hown : VMap w r L.lists) (k : Int) (hx : a.eval x = .int .i64 k) :
    (execOp a.eval o).run Try.prog w = .ok (.value (lv L k)) w := by
  have hrun := hown.look (P := Try.prog) Try.underlying33 Try.underlying3 (Try.zero23 w) k
  simp [execOp, hop, hm, hx, hrun, Result.andThen, lv]

def waitF (t : Pl.S) (v : Int) (nl : List Int) (k : Nat) : Pl.S := (nl.take k).foldl (Pl.wait1 v) t
theorem waitF_succ (t : Pl.S) (v : Int) (nl : List Int) (k : Nat) (h : k < nl.length) : waitF t v nl (k + 1) = Pl.wait1 v (waitF t v nl k) (nl.getD k 0) := by
  unfold waitF
  rw [List.take_succ_eq_append_getElem h, List.foldl_append]
  simp [h]
theorem waitF_all (t : Pl.S) (v : Int) (nl : List Int) : waitF t v nl nl.length = nl.foldl (Pl.wait1 v) t := by
  unfold waitF
  rw [List.take_length]
theorem waitF_sane {n : Int} {t : Pl.S} {v : Int} {nl : List Int} (ht : Pl.Sane n t) (hv : 0 ≤ v ∧ v < n) (hn : ∀ x ∈ nl, 0 ≤ x ∧ x < n) (k : Nat) : Pl.Sane n (waitF t v nl k) :=
  Pl.foldl_inv_mem (P := fun s : Pl.S => Pl.Sane n s) _ _ _ (fun s w hw hs => hs.wait1 hv (hn w (List.mem_of_mem_take hw))) ht

theorem put_wait {I : Nat → Prop} {w w1 w2 : World} {B : Base} {L : Lay} {start : Int} {path : List Int} {s : Pl.S} (h : St I w B L start path s) {x v : Int} {u : Value} {W : World} (hW : Chg (fun _ => False) w W) (hg1 : W.grownBy w1 (lv L x).ownBlock)
    (hoi : OI w1 u (Pl.wl s x ++ [v])) (hl : ∀ b, u.ownBlock = some b → (lv L x).ownBlock = some b ∨ w.heap.size ≤ b) (hm : VMap w2 B.mB (Pl.put L.lists x u)) (hg2 : w1.grownBy w2 (some B.mB)) :
    St I w2 B { L with lists := Pl.put L.lists x u } start path { s with by_ := Pl.put s.by_ x (Pl.wl s x ++ [v]) } ∧ Chg (Mut B L) w w2 ∧ (∀ b, Mut B { L with lists := Pl.put L.lists x u } b → Mut B L b ∨ w.heap.size ≤ b) := by
  have hc1 : Chg (fun b => (lv L x).ownBlock = some b) w w1 := (hW.mono (fun _ _ h => h.elim)).grown hg1 (fun k _ e => e)
  have hmB1 : VMap w1 B.mB L.lists := h.hmB.of_block (hc1.block _ h.hmB.lt ((h.lst x).ne_map h.hmB))
  have hc2 : Chg (Mut B L) w w2 := (hc1.mono (fun b _ e => .inr (.inr (.inr (.inr (.inr ⟨x, e⟩)))))).grown hg2 (fun k _ e => by cases e; exact .inr (.inr (.inl rfl)))
  have hst := h.putBy (w2 := w2) (x := x) (v := v) (u := u) hm ?_ hc2.size ?_ hl
  · exact ⟨hst.1, hc2, hst.2⟩
  · intro b hb hne hx
    exact (hg2.block b (by have := hc1.size; omega) (by simpa using hne)).trans (hc1.block b hb hx)
  · refine hoi.same fun b hb => hg2.block b (hoi.lt b hb) (fun e => ?_)
    cases e
    exact hoi.ne_map hmB1 hb

theorem S20_keep {bs mB : Nat} {M : List (Int × Value)} {c : Value} {w w' : World} (hb : w'.heap[bs]? = w.heap[bs]?) (hB : w'.heap[mB]? = w.heap[mB]?) (h : w.cell? ⟨bs, 6, none⟩ = some c ∧ VMap w mB M) :
    w'.cell? ⟨bs, 6, none⟩ = some c ∧ VMap w' mB M := ⟨(World.cell?_of_block hb).trans h.1, h.2.of_block hB⟩

theorem OI.atc {w : World} {v : Value} {l : List Int} (h : OI w v l) (h0 : 0 < l.length) : ∃ g cap, v = .slice (some ⟨g, 0, none⟩) l.length cap ∧ l.length ≤ cap := by
  obtain ⟨a, cap, h1, h2, h3, h4, h5, h6⟩ := ownsRow_shape h
  obtain ⟨g, rfl, hc⟩ := h6 0 (.int .i64 (l.getD 0 0)) (by simp [h0])
  exact ⟨g, cap, h1, h2⟩
theorem OI.short {w : World} {g n cap : Nat} {l : List Int} {v : Int} (h : OI w (.slice (some ⟨g, 0, none⟩) n cap) (l ++ [v])) : OI w (.slice (some ⟨g, 0, none⟩) l.length cap) l := by
  obtain ⟨h1, h2⟩ := h
  rcases h2 with ⟨h2, _⟩ | ⟨g', cap', cur, hv, hb, hg, hn, hm, hs, ht⟩
  · cases h2
  · simp only [Value.slice.injEq, Option.some.injEq, Addr.mk.injEq, and_true] at hv
    obtain ⟨rfl, _, rfl⟩ := hv
    refine OI.of_block hg (by omega) (by simp at hn; omega) hm ?_
    have := congrArg (List.take l.length) ht
    simp [List.take_take] at this
    rw [← this]

theorem pop_path {I : Nat → Prop} {w w1 : World} {B : Base} {L : Lay} {start : Int} {path : List Int} {s : Pl.S} {v : Int} (h : St I w B L start (path ++ [v]) s) {g cap n : Nat} (hpv : L.pv = .slice (some ⟨g, 0, none⟩) n cap) (hsame : w1.heap = w.heap) (hos : w1.os = w.os) (htp : w1.tape = w.tape) (hout : w1.output = w.output) :
    St I (w1.setCell ⟨B.bs, 4, none⟩ (.slice (some ⟨g, 0, none⟩) path.length cap)) B { L with pv := .slice (some ⟨g, 0, none⟩) path.length cap } start path s ∧
    Chg (Mut B L) w (w1.setCell ⟨B.bs, 4, none⟩ (.slice (some ⟨g, 0, none⟩) path.length cap)) ∧ (∀ b, Mut B { L with pv := .slice (some ⟨g, 0, none⟩) path.length cap } b → Mut B L b ∨ w.heap.size ≤ b) := by
  have hb1 : w1.heap[B.bs]? = some (.cells #[B.vR, B.vC, L.cv, .int .i64 start, L.pv, .map (some B.mb), .map (some B.mB)] 54 (0, 0)) := by rw [hsame]; exact h.box
  have hpth := h.pth
  rw [hpv] at hpth
  have hshort := hpth.short
  have hgne : g ≠ B.bs := by
    rintro rfl
    exact hpth.ne_box h.box rfl
  have hch0 : Chg (Mut B L) w w1 := ⟨hos, htp, hout, by rw [hsame]; exact Nat.le_refl _, fun k _ _ => by rw [hsame]⟩
  have hch : Chg (Mut B L) w (w1.setCell ⟨B.bs, 4, none⟩ (.slice (some ⟨g, 0, none⟩) path.length cap)) := hch0.setCell (fun _ => .inl rfl) _
  have hst := h.setPath (w2 := w1.setCell ⟨B.bs, 4, none⟩ (.slice (some ⟨g, 0, none⟩) path.length cap)) (pv' := .slice (some ⟨g, 0, none⟩) path.length cap) (path' := path) ?_ ?_ hch.size ?_ ?_
  · exact ⟨hst.1, hch, hst.2⟩
  · simp [World.setCell, Array.getElem?_modify, hb1]
  · intro b hb hne hp
    rw [Below.heap_setCell _ _ _ _ hne, hsame]
  · exact hshort.same fun b hb => by
      simp [Value.ownBlock] at hb; subst hb
      rw [Below.heap_setCell _ _ _ _ hgne, hsame]
  · intro b hb
    simp [Value.ownBlock] at hb; subst hb
    exact .inl (by rw [hpv]; rfl)

end Go.Proofs.Qxb6601556a
