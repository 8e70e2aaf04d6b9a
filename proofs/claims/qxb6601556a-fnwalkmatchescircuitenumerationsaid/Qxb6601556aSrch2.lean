import Derived.Test.Qxb6601556aSrch
namespace Go.Proofs.Qxb6601556a
open Go.RowKit
set_option linter.unusedVariables false
set_option linter.unusedSimpArgs false

theorem step_make_own {w : World} {ops : Array Oper} {o : Oper} {a : Act} {Q : Exit → Act → World → Prop} {K : Act → World → Prop} {E : Prop} (hgd : o.guard = none) (l c : Operand) (hop : o.op = Op.makeSlice 23 l c)
    (C : Int) (n : Nat) (hl : a.eval l = .int .i64 0) (hc : a.eval c = .int .i64 C) (hC : C = (n : Int)) (hn : n ≤ 1000000)
    (h : ∀ w', OI w' (.slice (some ⟨w.heap.size, 0, none⟩) 0 n) [] → w.grownBy w' none → K (a.put o.dst (.slice (some ⟨w.heap.size, 0, none⟩) 0 n)) w') :
    if Region.wanted o (yielded ops a.tmps) = true then Oper.wp Try.prog o a w K Q else E := by
  obtain ⟨i0, hi, hz0, hz1, hz2⟩ := info_parts Try.info3
  have hw : Region.wanted o (yielded ops a.tmps) = true := by simp [Region.wanted, hgd]
  rw [if_pos hw]
  obtain ⟨w', hrun, r1, r2⟩ := run_make_own (P := Try.prog) w 0 23 3 i0 (.int .i64 0) 1 Try.underlying23 hi hz0 hz1 .i64 .i64 n (by rw [hz2]; omega) (by unfold maxLen; omega) (Nat.zero_le _)
  subst hC
  unfold Oper.wp
  simp [execOp, hop, hl, hc, hrun, Result.andThen]
  exact h w' r1 r2

section
variable {I : Nat → Prop} {w w5 : World} {B : SB} {L : SL} {st n : Nat} {pfx : List Int} {bud : Nat} {wkd c : List Int} {out : List (List Int)}
/-- 'm.out = append(m.out, c)'. -/
theorem SS.add (h : SS I w B L st n pfx bud wkd out) {rv : Value} {g cap : Nat} (hch : Chg (fun b => L.ov.ownBlock = some b) w w5)
    (hrv : OI w5 rv c) (hrf : ∀ b, rv.ownBlock = some b → w.heap.size ≤ b) (hov : OV w5 (.slice (some ⟨g, 0, none⟩) (L.ors.length + 1) cap) (L.ors ++ [rv])) (hfr : L.ov.ownBlock = some g ∨ w.heap.size ≤ g) :
    (w5.cell? ⟨B.bm, 8, none⟩ = some L.ov ∧ ∀ i, w5.frozen? ⟨B.bm, i, none⟩ = false) ∧
    SS I (w5.setCell ⟨B.bm, 8, none⟩ (.slice (some ⟨g, 0, none⟩) (L.ors.length + 1) cap)) B { L with ov := .slice (some ⟨g, 0, none⟩) (L.ors.length + 1) cap, ors := L.ors ++ [rv] } st n pfx bud wkd (out ++ [c]) ∧
    Chg (SMut B L) w (w5.setCell ⟨B.bm, 8, none⟩ (.slice (some ⟨g, 0, none⟩) (L.ors.length + 1) cap)) ∧ (∀ b, SMut B { L with ov := .slice (some ⟨g, 0, none⟩) (L.ors.length + 1) cap, ors := L.ors ++ [rv] } b → SMut B L b ∨ w.heap.size ≤ b) := by
  have hbm := h.lt _ (.inl rfl)
  have hb1 : w5.heap[B.bm]? = some (.cells #[B.vR, B.vC, .int .i64 st, .int .i64 n, .slice (some ⟨B.ga, 0, none⟩) n n, L.wv, B.pv, .int .i64 bud, L.ov] 30 (0, 0)) := (hch.block _ hbm (h.ou.ne_cells h.box (by decide))).trans h.box
  have hgne : g ≠ B.bm := fun e => hov.ne_cells hb1 (by decide) (by rw [e]; rfl)
  have hch2 : Chg (SMut B L) w (w5.setCell ⟨B.bm, 8, none⟩ (.slice (some ⟨g, 0, none⟩) (L.ors.length + 1) cap)) :=
    (hch.mono (fun b _ e => .inr (.inr (.inr e)))).setCell (fun _ => .inl rfl) _
  have hm : ∀ b, SMut B { L with ov := .slice (some ⟨g, 0, none⟩) (L.ors.length + 1) cap, ors := L.ors ++ [rv] } b → SMut B L b ∨ w.heap.size ≤ b := by
    rintro b (e | e | e | e)
    · exact .inl (.inl e)
    · exact .inl (.inr (.inl e))
    · exact .inl (.inr (.inr (.inl e)))
    · simp [Value.ownBlock] at e
      subst e
      rcases hfr with e | e
      · exact .inl (.inr (.inr (.inr e)))
      · exact .inr e
  have hnot : ∀ b, b < w.heap.size → ¬ SMut B L b → ¬ SMut B { L with ov := .slice (some ⟨g, 0, none⟩) (L.ors.length + 1) cap, ors := L.ors ++ [rv] } b := fun b hb h1 h2 => by
    rcases hm b h2 with h3 | h3
    · exact h1 h3
    · omega
  have hga : B.ga ≠ B.bm := h.ob.ne_cells h.box (by decide)
  have hovne : ∀ b, L.ov.ownBlock = some b → b ≠ B.ga := fun b hb e => by
    obtain ⟨c1, h1⟩ := h.ob.block
    exact h.ou.ne_cells h1 (by decide) (by rw [hb, e])
  have hob5 : OB w5 B.ga n wkd := h.ob.chg hch (fun e => hovne _ e rfl)
  have hwk5 : OI w5 L.wv wkd := h.wk.chg hch (fun b hb e => h.wk.ne_ov h.ou b hb e)
  have hrv' : OI (w5.setCell ⟨B.bm, 8, none⟩ (.slice (some ⟨g, 0, none⟩) (L.ors.length + 1) cap)) rv c := hrv.same fun b hb => Below.heap_setCell _ _ _ _ (fun e => hrv.ne_cells hb1 (by decide) (by rw [hb, e]))
  refine ⟨⟨by simp [World.cell?, hb1], fun i => by simp [World.frozen?, hb1]⟩, ⟨?_, ?_, ?_, h.pf.chg hch2 (fun b hb => (h.si b (h.pI b hb)).2), ?_, by simp [h.len], fun i hi => ?_, fun b hb => ?_, fun u hu b hb => ?_, h.pI⟩, hch2, hm⟩
  · simp [World.setCell, Array.getElem?_modify, hb1]
  · exact hob5.same (Below.heap_setCell _ _ _ _ hga)
  · exact hwk5.same fun b hb => Below.heap_setCell _ _ _ _ (fun e => hwk5.ne_cells hb1 (by decide) (by rw [hb, e]))
  · have : OV (w5.setCell ⟨B.bm, 8, none⟩ (.slice (some ⟨g, 0, none⟩) (L.ors.length + 1) cap)) (.slice (some ⟨g, 0, none⟩) (L.ors.length + 1) cap) (L.ors ++ [rv]) := hov.same fun b hb => by
      simp [Value.ownBlock] at hb; subst hb
      exact Below.heap_setCell _ _ _ _ hgne
    exact this
  · simp only [List.length_append, List.length_singleton] at hi
    by_cases hlt : i < L.ors.length
    · have e1 : (L.ors ++ [rv]).getD i (.slice none 0 0) = L.ors.getD i (.slice none 0 0) := by simp [List.getD, List.getElem?_append_left hlt]
      have e2 : (out ++ [c]).getD i [] = out.getD i [] := by simp [List.getD, List.getElem?_append_left (show i < out.length by rw [← h.len]; exact hlt)]
      rw [e1, e2]
      refine (h.row i hlt).chg hch2 (fun b hb => ?_)
      have e : L.ors.getD i (.slice none 0 0) = L.ors[i] := by simp [List.getD, hlt]
      rw [e] at hb
      exact h.so _ (List.getElem_mem hlt) b hb
    · obtain rfl : i = L.ors.length := by omega
      have e1 : (L.ors ++ [rv]).getD L.ors.length (.slice none 0 0) = rv := by simp [List.getD]
      have e2 : (out ++ [c]).getD L.ors.length [] = c := by rw [h.len]; simp [List.getD]
      rw [e1, e2]; exact hrv'
  · have h1 := h.si b hb
    exact ⟨Nat.lt_of_lt_of_le h1.1 hch2.size, hnot b h1.1 h1.2⟩
  · rcases List.mem_append.1 hu with hu | hu
    · obtain ⟨i, hi, rfl⟩ := List.mem_iff_getElem.1 hu
      have e : L.ors.getD i (.slice none 0 0) = L.ors[i] := by simp [List.getD, hi]
      have hlt := (h.row i hi).lt b (by rw [e]; exact hb)
      exact hnot b hlt (h.so _ hu b hb)
    · simp at hu
      subst hu
      rintro (e | e | e | e)
      · have := hrf b hb; have := h.lt _ (.inl e); omega
      · have := hrf b hb; have := h.lt _ (.inr (.inl e)); omega
      · have := hrf b hb; have := h.lt _ (.inr (.inr (.inl e))); omega
      · exact hrv.ne_ov hov b hb e
end

/-- The loop of wmSearch behind the successors l. -/
def srF (c : Pl.Ctx) (pfx : List Int) (b : Nat) (rb : List Int → Int → Bool) (f : Nat) (wkd : List Int) (out : List (List Int)) (l : List Int) : List (List Int) := l.foldl (Pl.srchStep c pfx b rb (Pl.srch c pfx b rb f) wkd) out
theorem srF_full (c : Pl.Ctx) (pfx : List Int) (b : Nat) (rb : List Int → Int → Bool) (f : Nat) (wkd : List Int) (out : List (List Int)) (l1 l2 : List Int) (h : b ≤ (srF c pfx b rb f wkd out l1).length) : srF c pfx b rb f wkd out (l1 ++ l2) = srF c pfx b rb f wkd out l1 := by
  unfold srF at h ⊢
  rw [List.foldl_append]
  refine Pl.foldl_inv (P := fun o => o = l1.foldl (Pl.srchStep c pfx b rb (Pl.srch c pfx b rb f) wkd) out) _ (fun o w ho => ?_) _ _ rfl
  rw [← ho] at h
  show Pl.srchStep c pfx b rb (Pl.srch c pfx b rb f) wkd o w = _
  rw [← ho]
  simp only [Pl.srchStep, if_pos h]
theorem srF_skip (comp : List Int) (st : Int) (c : Pl.Ctx) (pfx : List Int) (b : Nat) (rb : List Int → Int → Bool) (f : Nat) (wkd : List Int) (out : List (List Int)) (l : List Int) (k : Nat) (hk : k < l.length) (h : okTo comp st (l.getD k 0) = false) : srF c pfx b rb f wkd out (nextL comp st (l.take (k + 1))) = srF c pfx b rb f wkd out (nextL comp st (l.take k)) := by
  rw [nextL_take_succ _ _ _ _ hk, ← getD_at hk, h]; rfl
theorem srF_step (comp : List Int) (st : Int) (c : Pl.Ctx) (pfx : List Int) (b : Nat) (rb : List Int → Int → Bool) (f : Nat) (wkd : List Int) (out : List (List Int)) (l : List Int) (k : Nat) (hk : k < l.length) (h : okTo comp st (l.getD k 0) = true) : srF c pfx b rb f wkd out (nextL comp st (l.take (k + 1))) = Pl.srchStep c pfx b rb (Pl.srch c pfx b rb f) wkd (srF c pfx b rb f wkd out (nextL comp st (l.take k))) (l.getD k 0) := by
  rw [nextL_take_succ _ _ _ _ hk, ← getD_at hk, h]
  simp [srF]

def SrC (rows : List (List Int)) (comp : List Int) (st : Nat) (rb : List Int → Int → Bool) (bud f : Nat) : Prop := ∀ (I : Nat → Prop) (B : SB) (L : SL) (rv : List Value) (pfx wkd : List Int) (out : List (List Int)) (x : Int) (w : World),
    SS I w B L st rows.length pfx bud wkd out → Graph w B.vR B.vC rv rows comp → GraphI I B.vR B.vC rv → wkd.Nodup → (∀ y ∈ wkd, 0 ≤ y ∧ y < (rows.length : Int)) → x ∈ wkd → rows.length + 1 ≤ f + wkd.length → pfx.length ≤ 5000 → bud ≤ 64 → out.length ≤ 64 →
    Calls Try.prog 11 #[.pointer (some ⟨B.bm, 0, none⟩), .int .i64 x] w fun e w' => e = .returned (.tuple #[]) ∧ ∃ L', SS I w' B L' st rows.length pfx bud wkd (Pl.srch (ctxOf rows comp st) pfx bud rb f wkd out x) ∧ Chg (SMut B L) w w' ∧ ∀ b, SMut B L' b → SMut B L b ∨ w.heap.size ≤ b

end Go.Proofs.Qxb6601556a
