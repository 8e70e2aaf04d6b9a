/-
  The memory of wmSearch: the model's box.
-/
import Derived.Test.Qxb6601556aReach
import Derived.Deep.Upon
namespace Go.Proofs.Qxb6601556a
open Go.RowKit
set_option linter.unusedVariables false
set_option linter.unusedSimpArgs false

/-- 'append(c, l...)' upon a row of ints of one's own: one block, the old one or a new one. -/
theorem wpList_append_row {w : World} {ops : Array Oper} {rest : List Oper} {o : Oper} {a : Act} {Q : Exit → Act → World → Prop} (hgd : o.guard = none) (s x : Operand) (ho : o.op = .call { callee := .builtin .append, args := #[s, x], argTypes := #[23, 23] })
    (v u : Value) (l l2 : List Int) (hs : a.eval s = v) (hoi : OI w v l) (hx : a.eval x = u) (hu : OI w u l2) (hlen : l.length + l2.length ≤ 1000000000)
    (h : ∀ v' w', OI w' v' (l ++ l2) → w.grownBy w' v.ownBlock → (∀ b, v'.ownBlock = some b → v.ownBlock = some b ∨ b = w.heap.size) → wpList Try.prog ops Q rest (a.put o.dst v') w') :
    wpList Try.prog ops Q (o :: rest) a w := by
  obtain ⟨i0, hi, hz0, hz1, hz2⟩ := info_parts Try.info3
  have key : ∃ v' w', (Builtin.append_ #[23, 23] o.type #[v, u]).run Try.prog w = .ok v' w' ∧ OI w' v' (l ++ l2) ∧ w.grownBy w' v.ownBlock ∧ ∀ b, v'.ownBlock = some b → v.ownBlock = some b ∨ b = w.heap.size := by
    obtain ⟨au, cu, rfl, hu1, hu2, hu3, hu4, hu5⟩ := ownsRow_shape hu
    cases au with
    | none =>
      obtain ⟨e0, rfl⟩ := hu3 rfl
      have hl2 : l2 = [] := List.eq_nil_of_length_eq_zero e0
      subst hl2
      obtain ⟨av, cv, rfl, hv1, -, -, -, -⟩ := ownsRow_shape hoi
      refine ⟨_, w, run_append_nothing w 23 23 o.type 3 i0 Try.underlying23 hi av l.length cv hv1 _ (Src.ofNil w Try.underlying23 0), by simpa using hoi, World.grownBy.refl _ _, fun b hb => .inl hb⟩
    | some ad =>
      obtain ⟨v', w', hr, h2, h3, _, h5⟩ := run_append_own_at (P := Try.prog) w 0 23 o.type 3 i0 (.int .i64 0) 1 8 Try.underlying23 hi hz0 hz1 hz2 rfl (by decide) v l.length (l.map (Value.int .i64)) hoi ad l2.length cu (l2.map (Value.int .i64)) (by simp) (fun j u hj => by
        obtain ⟨g, hg, hcell⟩ := hu5 j u hj
        cases hg
        simpa [Addr.add_lit] using hcell) (ints_oneCell .i64 l2) (by unfold maxLen; omega) (by omega) (Nat.zero_le _)
      refine ⟨v', w', hr, by simpa [OI] using h2, h3, fun b hb => ?_⟩
      rcases h5 with h5 | h5
      · left; rw [← h5]; exact hb
      · right; rw [h5] at hb; simpa using hb.symm
  obtain ⟨v', w', hr, h2, h3, h4⟩ := key
  refine wpList_plain hgd fun _ hK => ?_
  unfold Oper.wp execOp
  simp only [ho, resolve, invoke, builtin, Sem.run_bind, Sem.run_pure, Result.andThen_ok, List.map_toArray, List.map_cons, List.map_nil, hs, hx, hr]
  exact hK _ _ (h v' w' h2 h3 h4)

structure SB where
  bm : Nat
  ga : Nat
  vR : Value
  vC : Value
  pv : Value
structure SL where
  wv : Value
  ov : Value
  ors : List Value
/-- What wmSearch writes. -/
def SMut (B : SB) (L : SL) (b : Nat) : Prop := b = B.bm ∨ b = B.ga ∨ L.wv.ownBlock = some b ∨ L.ov.ownBlock = some b

structure SS (I : Nat → Prop) (w : World) (B : SB) (L : SL) (st n : Nat) (pfx : List Int) (bud : Nat) (wkd : List Int) (out : List (List Int)) : Prop where
  box : w.heap[B.bm]? = some (.cells #[B.vR, B.vC, .int .i64 st, .int .i64 n, .slice (some ⟨B.ga, 0, none⟩) n n, L.wv, B.pv, .int .i64 bud, L.ov] 30 (0, 0))
  ob : OB w B.ga n wkd
  wk : OI w L.wv wkd
  pf : OI w B.pv pfx
  ou : OV w L.ov L.ors
  len : L.ors.length = out.length
  row : ∀ i, i < L.ors.length → OI w (L.ors.getD i (.slice none 0 0)) (out.getD i [])
  si : ∀ b, I b → b < w.heap.size ∧ ¬ SMut B L b
  so : ∀ u ∈ L.ors, ∀ b, u.ownBlock = some b → ¬ SMut B L b
  pI : ∀ b, B.pv.ownBlock = some b → I b

section
variable {I : Nat → Prop} {w w2 : World} {B : SB} {L L' : SL} {st n : Nat} {pfx : List Int} {bud : Nat} {wkd wkd' : List Int} {out : List (List Int)}

theorem SS.mb (h : SS I w B L st n pfx bud wkd out) : MBox w B.bm B.vR B.vC st n :=
  ⟨by simp [World.cell?, h.box], by simp [World.cell?, h.box], by simp [World.cell?, h.box], by simp [World.cell?, h.box]⟩
theorem SS.cell (h : SS I w B L st n pfx bud wkd out) : w.cell? ⟨B.bm, 4, none⟩ = some (.slice (some ⟨B.ga, 0, none⟩) n n) ∧ w.cell? ⟨B.bm, 5, none⟩ = some L.wv ∧ w.cell? ⟨B.bm, 6, none⟩ = some B.pv ∧ w.cell? ⟨B.bm, 7, none⟩ = some (.int .i64 bud) ∧ w.cell? ⟨B.bm, 8, none⟩ = some L.ov ∧ ∀ i, w.frozen? ⟨B.bm, i, none⟩ = false :=
  ⟨by simp [World.cell?, h.box], by simp [World.cell?, h.box], by simp [World.cell?, h.box], by simp [World.cell?, h.box], by simp [World.cell?, h.box], fun i => by simp [World.frozen?, h.box]⟩
theorem SS.lt (h : SS I w B L st n pfx bud wkd out) : ∀ b, SMut B L b → b < w.heap.size := by
  rintro b (e | e | e | e)
  · subst e
    rcases Nat.lt_or_ge B.bm w.heap.size with hlt | hge
    · exact hlt
    · have := h.box; rw [Array.getElem?_eq_none hge] at this; cases this
  · subst e; exact h.ob.lt
  · exact h.wk.lt b e
  · exact h.ou.lt b e
theorem OI.ne_cells {w : World} {v : Value} {l : List Int} {r : Nat} {cs : Array Value} {e : TypeId} {fz : Nat × Nat} (h : OI w v l) (hm : w.heap[r]? = some (.cells cs e fz)) (he : e ≠ 3) : v.ownBlock ≠ some r := fun k => by
  obtain ⟨c1, h1⟩ := ownsRow_block h k
  rw [h1] at hm; cases hm; exact he rfl
theorem OV.ne_cells {w : World} {v : Value} {l : List Value} {r : Nat} {cs : Array Value} {e : TypeId} {fz : Nat × Nat} (h : OV w v l) (hm : w.heap[r]? = some (.cells cs e fz)) (he : e ≠ 23) : v.ownBlock ≠ some r := fun k => by
  obtain ⟨c1, h1⟩ := ownsRow_block h k
  rw [h1] at hm; cases hm; exact he rfl
theorem OB.ne_cells {w : World} {g n : Nat} {l : List Int} {r : Nat} {cs : Array Value} {e : TypeId} {fz : Nat × Nat} (h : OB w g n l) (hm : w.heap[r]? = some (.cells cs e fz)) (he : e ≠ 4) : g ≠ r := fun k => by
  obtain ⟨c1, h1⟩ := h.block
  rw [k] at h1
  rw [h1] at hm; cases hm; exact he rfl

/-- The state turns: only what wmSearch may write has turned. -/
theorem SS.turn (h : SS I w B L st n pfx bud wkd out) (hc : Chg (SMut B L) w w2) (hm : ∀ b, SMut B L' b → SMut B L b ∨ w.heap.size ≤ b) (hors : L'.ors = L.ors)
    (box : w2.heap[B.bm]? = some (.cells #[B.vR, B.vC, .int .i64 st, .int .i64 n, .slice (some ⟨B.ga, 0, none⟩) n n, L'.wv, B.pv, .int .i64 bud, L'.ov] 30 (0, 0)))
    (ob : OB w2 B.ga n wkd') (wk : OI w2 L'.wv wkd') (ou : OV w2 L'.ov L'.ors) : SS I w2 B L' st n pfx bud wkd' out := by
  have hnot : ∀ b, b < w.heap.size → ¬ SMut B L b → ¬ SMut B L' b := fun b hb h1 h2 => by
    rcases hm b h2 with h3 | h3
    · exact h1 h3
    · omega
  refine ⟨box, ob, wk, h.pf.chg hc (fun b hb => (h.si b (h.pI b hb)).2), ou, by rw [hors]; exact h.len, fun i hi => ?_, fun b hb => ?_, fun u hu b hb => ?_, h.pI⟩
  · rw [hors] at hi ⊢
    refine (h.row i hi).chg hc (fun b hb => ?_)
    have e : L.ors.getD i (.slice none 0 0) = L.ors[i] := by simp [List.getD, hi]
    rw [e] at hb
    exact h.so _ (List.getElem_mem hi) b hb
  · have h1 := h.si b hb
    exact ⟨Nat.lt_of_lt_of_le h1.1 hc.size, hnot b h1.1 h1.2⟩
  · rw [hors] at hu
    obtain ⟨i, hi, rfl⟩ := List.mem_iff_getElem.1 hu
    have e : L.ors.getD i (.slice none 0 0) = L.ors[i] := by simp [List.getD, hi]
    have hlt := (h.row i hi).lt b (by rw [e]; exact hb)
    exact hnot b hlt (h.so _ hu b hb)
theorem SS.new (h : SS I w B L st n pfx bud wkd out) (hc : Chg (fun _ => False) w w2) : SS I w2 B L st n pfx bud wkd out :=
  h.turn (hc.mono (fun _ _ h => h.elim)) (fun b hb => .inl hb) rfl ((hc.block _ (h.lt _ (.inl rfl)) (fun h => h)).trans h.box) (h.ob.chg hc (fun h => h)) (h.wk.chg hc (fun _ _ h => h)) (h.ou.chg hc (fun _ _ h => h))

/-- 'm.onPath[x] = true; m.walked = append(m.walked, x)'. -/
theorem SS.push (h : SS I w B L st n pfx bud wkd out) {x g cap : Nat} {w1 : World}
    (hoi : OI w1 (.slice (some ⟨g, 0, none⟩) (wkd.length + 1) cap) (wkd ++ [(x : Int)])) (hg : ((w.setCell ⟨B.ga, x, none⟩ (.bool true)).alloc (.cells #[.int .i64 (x : Int)] 3)).grownBy w1 L.wv.ownBlock)
    (hl : L.wv.ownBlock = some g ∨ g = ((w.setCell ⟨B.ga, x, none⟩ (.bool true)).alloc (.cells #[.int .i64 (x : Int)] 3)).heap.size) :
    (w1.cell? ⟨B.bm, 5, none⟩ = some L.wv ∧ ∀ i, w1.frozen? ⟨B.bm, i, none⟩ = false) ∧
    SS I (w1.setCell ⟨B.bm, 5, none⟩ (.slice (some ⟨g, 0, none⟩) (wkd.length + 1) cap)) B { L with wv := .slice (some ⟨g, 0, none⟩) (wkd.length + 1) cap } st n pfx bud (wkd ++ [(x : Int)]) out ∧
    Chg (SMut B L) w (w1.setCell ⟨B.bm, 5, none⟩ (.slice (some ⟨g, 0, none⟩) (wkd.length + 1) cap)) ∧ (∀ b, SMut B { L with wv := .slice (some ⟨g, 0, none⟩) (wkd.length + 1) cap } b → SMut B L b ∨ w.heap.size ≤ b) := by
  have hbm := h.lt _ (.inl rfl)
  have hga : B.ga ≠ B.bm := h.ob.ne_cells h.box (by decide)
  have k1 : ∀ b, b < w.heap.size → b ≠ B.ga → L.wv.ownBlock ≠ some b → w1.heap[b]? = w.heap[b]? := fun b hb hne hw =>
    ((hg.block b (by simp; omega) (Ne.symm hw)).trans (Below.heap_alloc _ _ _ (by simpa using hb))).trans (Below.heap_setCell _ _ _ _ hne)
  have hb1 : w1.heap[B.bm]? = some (.cells #[B.vR, B.vC, .int .i64 st, .int .i64 n, .slice (some ⟨B.ga, 0, none⟩) n n, L.wv, B.pv, .int .i64 bud, L.ov] 30 (0, 0)) := (k1 _ hbm (Ne.symm hga) (h.wk.ne_cells h.box (by decide))).trans h.box
  have hgne : g ≠ B.bm := fun e => hoi.ne_cells hb1 (by decide) (by rw [e]; rfl)
  have hob1 : OB w1 B.ga n (wkd ++ [(x : Int)]) := by
    refine (h.ob.set x).same ?_
    exact (hg.block _ (by have := h.ob.lt; simp; omega) (Ne.symm (h.wk.ne_ob h.ob))).trans (Below.heap_alloc _ _ _ (by simpa using h.ob.lt))
  have hch : Chg (SMut B L) w (w1.setCell ⟨B.bm, 5, none⟩ (.slice (some ⟨g, 0, none⟩) (wkd.length + 1) cap)) :=
    ((((Chg.refl _ w).setCell (fun _ => .inr (.inl rfl)) _).alloc _).grown hg (fun k _ e => .inr (.inr (.inl e)))).setCell (fun _ => .inl rfl) _
  have hm : ∀ b, SMut B { L with wv := .slice (some ⟨g, 0, none⟩) (wkd.length + 1) cap } b → SMut B L b ∨ w.heap.size ≤ b := by
    rintro b (e | e | e | e)
    · exact .inl (.inl e)
    · exact .inl (.inr (.inl e))
    · simp [Value.ownBlock] at e
      subst e
      rcases hl with e | e
      · exact .inl (.inr (.inr (.inl e)))
      · right; simp at e; omega
    · exact .inl (.inr (.inr (.inr e)))
  refine ⟨⟨by simp [World.cell?, hb1], fun i => by simp [World.frozen?, hb1]⟩, h.turn hch hm rfl ?_ ?_ ?_ ?_, hch, hm⟩
  · simp [World.setCell, Array.getElem?_modify, hb1]
  · exact hob1.same (Below.heap_setCell _ _ _ _ hga)
  · exact hoi.same fun b hb => by
      simp [Value.ownBlock] at hb; subst hb
      exact Below.heap_setCell _ _ _ _ hgne
  · refine h.ou.same fun b hb => ?_
    rw [Below.heap_setCell _ _ _ _ (fun e => h.ou.ne_cells h.box (by decide) (by rw [hb, e]))]
    refine k1 b (h.ou.lt b hb) (fun e => ?_) (fun e => ?_)
    · obtain ⟨c1, h1⟩ := h.ob.block
      exact h.ou.ne_cells h1 (by decide) (by rw [hb, e])
    · exact h.wk.ne_ov h.ou b e hb

theorem OB.unset {w : World} {g n : Nat} {l : List Int} (x : Nat) (h : OB w g n (l ++ [(x : Int)])) (hx : (x : Int) ∉ l) : OB (w.setCell ⟨g, x, none⟩ (.bool false)) g n l := by
  have h1 := (World.ownsRow.stored h x (.bool false)).1
  have e : (seenL n (l ++ [(x : Int)])).set x (.bool false) = seenL n l := by
    apply List.ext_getElem?
    intro i
    rw [List.getElem?_set]
    by_cases hi : i < n
    · by_cases e : x = i
      · subst e
        rw [if_pos rfl, if_pos (by rw [seenL_length]; exact hi), seenL_at _ _ _ hi]
        simp [hasI, hx]
      · rw [if_neg e, seenL_at _ _ _ hi, seenL_at _ _ _ hi]
        have : ¬ (i : Int) = (x : Int) := by omega
        simp [hasI, this]
    · have h1 : (seenL n l)[i]? = none := by rw [List.getElem?_eq_none]; rw [seenL_length]; omega
      have h2 : (seenL n (l ++ [(x : Int)]))[i]? = none := by rw [List.getElem?_eq_none]; rw [seenL_length]; omega
      rw [h1, h2]
      simp [seenL_length]
      intro e; omega
  unfold OB
  rw [← e]; exact h1

/-- 'm.walked = m.walked[:len(m.walked)-1]; m.onPath[x] = false'. -/
theorem SS.pop {x : Nat} (h : SS I w B L st n pfx bud (wkd ++ [(x : Int)]) out) (hx : (x : Int) ∉ wkd) {g cap m : Nat} (hwv : L.wv = .slice (some ⟨g, 0, none⟩) m cap) {w1 : World} (hc1 : Chg (fun _ => False) w w1) :
    (let w2 := w1.setCell ⟨B.bm, 5, none⟩ (.slice (some ⟨g, 0, none⟩) wkd.length cap)
     w2.cell? ⟨B.bm, 4, none⟩ = some (.slice (some ⟨B.ga, 0, none⟩) n n) ∧ (∀ i, i < n → ∃ u, w2.cell? ⟨B.ga, i, none⟩ = some u) ∧ (∀ i, w2.frozen? ⟨B.ga, i, none⟩ = false)) ∧
    SS I ((w1.setCell ⟨B.bm, 5, none⟩ (.slice (some ⟨g, 0, none⟩) wkd.length cap)).setCell ⟨B.ga, x, none⟩ (.bool false)) B { L with wv := .slice (some ⟨g, 0, none⟩) wkd.length cap } st n pfx bud wkd out ∧
    Chg (SMut B L) w ((w1.setCell ⟨B.bm, 5, none⟩ (.slice (some ⟨g, 0, none⟩) wkd.length cap)).setCell ⟨B.ga, x, none⟩ (.bool false)) ∧ (∀ b, SMut B { L with wv := .slice (some ⟨g, 0, none⟩) wkd.length cap } b → SMut B L b ∨ w.heap.size ≤ b) := by
  have h1 := h.new hc1
  have hwk := h1.wk
  rw [hwv] at hwk
  have hshort := hwk.short
  have hga : B.ga ≠ B.bm := h.ob.ne_cells h.box (by decide)
  have hgne : g ≠ B.bm := fun e => hwk.ne_cells h1.box (by decide) (by rw [e]; rfl)
  have hgga : g ≠ B.ga := fun e => hwk.ne_ob h1.ob (by rw [e]; rfl)
  have hob2 : OB (w1.setCell ⟨B.bm, 5, none⟩ (.slice (some ⟨g, 0, none⟩) wkd.length cap)) B.ga n (wkd ++ [(x : Int)]) := h1.ob.same (Below.heap_setCell _ _ _ _ hga)
  have hbox2 : (w1.setCell ⟨B.bm, 5, none⟩ (.slice (some ⟨g, 0, none⟩) wkd.length cap)).heap[B.bm]? = some (.cells #[B.vR, B.vC, .int .i64 st, .int .i64 n, .slice (some ⟨B.ga, 0, none⟩) n n, .slice (some ⟨g, 0, none⟩) wkd.length cap, B.pv, .int .i64 bud, L.ov] 30 (0, 0)) := by
    simp [World.setCell, Array.getElem?_modify, h1.box]
  have hch : Chg (SMut B L) w ((w1.setCell ⟨B.bm, 5, none⟩ (.slice (some ⟨g, 0, none⟩) wkd.length cap)).setCell ⟨B.ga, x, none⟩ (.bool false)) :=
    ((hc1.mono (fun _ _ h => h.elim)).setCell (fun _ => .inl rfl) _).setCell (fun _ => .inr (.inl rfl)) _
  have hm : ∀ b, SMut B { L with wv := .slice (some ⟨g, 0, none⟩) wkd.length cap } b → SMut B L b ∨ w.heap.size ≤ b := by
    rintro b (e | e | e | e)
    · exact .inl (.inl e)
    · exact .inl (.inr (.inl e))
    · exact .inl (.inr (.inr (.inl (by rw [hwv]; exact e))))
    · exact .inl (.inr (.inr (.inr e)))
  refine ⟨⟨by simp [World.cell?, hbox2], fun i hi => ⟨_, hob2.cell i hi⟩, fun i => hob2.fz i⟩, h.turn hch hm rfl ?_ (hob2.unset x hx) ?_ ?_, hch, hm⟩
  · rw [Below.heap_setCell _ _ _ _ (Ne.symm hga)]; exact hbox2
  · exact hshort.same fun b hb => by
      simp [Value.ownBlock] at hb; subst hb
      rw [Below.heap_setCell _ _ _ _ hgga, Below.heap_setCell _ _ _ _ hgne]
  · refine h1.ou.same fun b hb => ?_
    obtain ⟨c1, hb1⟩ := h1.ob.block
    rw [Below.heap_setCell _ _ _ _ (fun e => h1.ou.ne_cells hb1 (by decide) (by rw [hb, e])), Below.heap_setCell _ _ _ _ (fun e => h1.ou.ne_cells h1.box (by decide) (by rw [hb, e]))]

end
end Go.Proofs.Qxb6601556a
