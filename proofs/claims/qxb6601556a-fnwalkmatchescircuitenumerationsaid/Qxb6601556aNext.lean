import Derived.Test.Qxb6601556aOps
namespace Go.Proofs.Qxb6601556a
open Go.RowKit
set_option linter.unusedVariables false
set_option linter.unusedSimpArgs false

/-- The graph in memory: a row of slices, each a row of ints; the components. -/
structure Graph (w : World) (vR vC : Value) (rv : List Value) (rows : List (List Int)) (comp : List Int) : Prop where
  top : OV w vR rv
  len : rv.length = rows.length
  row : ∀ i, i < rows.length → OI w (rv.getD i (.slice none 0 0)) (rows.getD i [])
  com : OI w vC comp

theorem Graph.chg {F : Nat → Prop} {w w' : World} {vR vC : Value} {rv : List Value} {rows : List (List Int)} {comp : List Int} (g : Graph w vR vC rv rows comp) (hc : Chg F w w')
    (h1 : ∀ b, vR.ownBlock = some b → ¬ F b) (h2 : ∀ b, vC.ownBlock = some b → ¬ F b) (h3 : ∀ i, i < rows.length → ∀ b, (rv.getD i (.slice none 0 0)).ownBlock = some b → ¬ F b) : Graph w' vR vC rv rows comp :=
  ⟨g.top.chg hc h1, g.len, fun i hi => (g.row i hi).chg hc (h3 i hi), g.com.chg hc h2⟩

def okTo (comp : List Int) (start x : Int) : Bool := decide (start ≤ x) && decide (comp.getD x.toNat 0 = comp.getD start.toNat 0)
def nextL (comp : List Int) (start : Int) (l : List Int) : List Int := l.filter (okTo comp start)

theorem nextL_take_succ (comp : List Int) (start : Int) (l : List Int) (k : Nat) (h : k < l.length) : nextL comp start (l.take (k + 1)) = if okTo comp start l[k] then nextL comp start (l.take k) ++ [l[k]] else nextL comp start (l.take k) := by
  unfold nextL
  rw [List.take_succ_eq_append_getElem h, List.filter_append]
  by_cases hc : okTo comp start l[k] = true
  · simp [hc]
  · simp [hc]

theorem OV.at {w : World} {v : Value} {l : List Value} (h : OV w v l) (i : Nat) (hi : i < l.length) : ∃ g cap, v = .slice (some ⟨g, 0, none⟩) l.length cap ∧ g < w.heap.size ∧ w.cell? ⟨g, i, none⟩ = some (l.getD i (.slice none 0 0)) := by
  obtain ⟨a, cap, h1, h2, h3, h4, h5, h6⟩ := ownsRow_shape h
  obtain ⟨g, rfl, hc⟩ := h6 i (l.getD i (.slice none 0 0)) (by simp [hi])
  exact ⟨g, cap, h1, (h5 _ rfl).2.1, hc⟩
theorem OI.at {w : World} {v : Value} {l : List Int} (h : OI w v l) (i : Nat) (hi : i < l.length) : ∃ g cap, v = .slice (some ⟨g, 0, none⟩) l.length cap ∧ g < w.heap.size ∧ ∀ j, j < l.length → w.cell? ⟨g, j, none⟩ = some (.int .i64 (l.getD j 0)) := by
  obtain ⟨a, cap, h1, h2, h3, h4, h5, h6⟩ := ownsRow_shape h
  obtain ⟨g, rfl, hc⟩ := h6 i (.int .i64 (l.getD i 0)) (by simp [hi])
  refine ⟨g, cap, h1, (h5 _ rfl).2.1, fun j hj => ?_⟩
  obtain ⟨g', hg, hc'⟩ := h6 j (.int .i64 (l.getD j 0)) (by simp [hj])
  cases hg
  exact hc'

set_option maxHeartbeats 1000000 in
theorem next_any (bs : Nat) (vR vC : Value) (rv : List Value) (rows : List (List Int)) (comp : List Int) (st v : Nat) (w : World) (G : Graph w vR vC rv rows comp)
    (c0 : w.cell? ⟨bs, 0, none⟩ = some vR) (c1 : w.cell? ⟨bs, 1, none⟩ = some vC) (c3 : w.cell? ⟨bs, 3, none⟩ = some (.int .i64 st))
    (hv : v < rows.length) (hs : st < rows.length) (hcl : rows.length ≤ comp.length) (ht : ∀ x ∈ rows.getD v [], x < (rows.length : Int)) (hb : (rows.getD v []).length ≤ 1024) (hn : rows.length ≤ 256) (hcb : comp.length ≤ 4096) :
    Calls Try.prog 30 #[.pointer (some ⟨bs, 0, none⟩), .int .i64 v] w fun e w' => ∃ nv, e = .returned nv ∧ OI w' nv (nextL comp st (rows.getD v [])) ∧ Chg (fun _ => False) w w' ∧ ∀ b, nv.ownBlock = some b → w.heap.size ≤ b := by
  obtain ⟨gR, cR, rfl, hgR, hcR⟩ := G.top.at v (by rw [G.len]; exact hv)
  obtain ⟨gC, cC, rfl, hgC, hcC⟩ := G.com.at st (by omega)
  have hrow := G.row v hv
  have hlen := G.len
  generalize hrvv : rv.getD v (.slice none 0 0) = rvv at *
  generalize hlv : rows.getD v [] = l at *
  obtain ⟨al, cl, rfl, hl1, hl2, hl3, hl4, hl5⟩ := hrow.shape
  have hcst := hcC st (by omega)
  obtain ⟨i0, hi, hz0, hz1, hz2⟩ := info_parts Try.info3
  have hvi : (v : Int) < (rv.length : Int) := by omega
  have hsi : (st : Int) < (comp.length : Int) := by omega
  clear hrvv hlv hrow G
  go_enter Try.func30, Try.ntmps30
  go_wp2_with fail
  go_loopw [5, 16, 7] (fun nv i _ wr => ∃ k : Nat, k ≤ l.length ∧ i = .int .i64 k ∧ OI wr nv (nextL comp st (l.take k)) ∧ Chg (fun _ => False) w wr ∧ (∀ b, nv.ownBlock = some b → w.heap.size ≤ b)) (fun _ i _ _ => l.length - (intOf i).toNat)
  case atStart => exact ⟨0, Nat.zero_le _, rfl, OI.nil _, Chg.refl _ _, fun b hb => by cases hb⟩
  case round =>
    obtain ⟨k, hk, rfl, hoi, hchg, hblk⟩ := hrel
    by_cases hlt : k < l.length
    · obtain ⟨bl, ol, rfl, hcell⟩ := hl5 k hlt
      have hcell' := hchg.cellEq hcell (by simp)
      have c1' := hchg.cellEq c1 (by simp)
      have c3' := hchg.cellEq c3 (by simp)
      have hst' := hchg.cellEq hcst (by simp)
      have hx1 : l.getD k 0 < (rows.length : Int) := ht _ (by simp [hlt])
      have HN : Hid (nextL comp st (l.take (k + 1)) = if okTo comp st (l.getD k 0) then nextL comp st (l.take k) ++ [l.getD k 0] else nextL comp st (l.take k)) := by
        have := nextL_take_succ comp st l k hlt
        have e : l.getD k 0 = l[k] := by simp [hlt]
        rw [e]; exact this
      clear hcell c0 c1 c3 hcst hcR hl4 hl5
      generalize l.getD k 0 = x at *
      by_cases hsx : (st : Int) ≤ x
      · obtain ⟨xn, rfl⟩ := Int.eq_ofNat_of_zero_le (show 0 ≤ x by omega)
        have hxc := hchg.cellEq (hcC xn (by omega)) (by simp)
        clear hcC
        have hxi : (xn : Int) < (comp.length : Int) := by omega
        have hd : decide ((st : Int) ≤ (xn : Int)) = true := by simp; omega
        go_wp2_with fail
        go_quiet (fail)
        go_wp2_with (at_builtin; refine wpList_append_oi rfl _ _ rfl _ _ rfl (hoi.same (fun b hb => Below.heap_alloc _ _ _ (hoi.lt b hb))) wr.heap.size xn 1 rfl (heap_alloc_new _ _) (Nat.le_trans (List.length_filter_le _ _) (by simp; omega)) ?_; intro g cap w1 hoi1 hgr1 hlies)
        · have heq : (comp[xn]?.getD 0 == comp[st]?.getD 0) = true := by assumption
          have hok : okTo comp st (xn : Int) = true := by
            simp [okTo]; exact ⟨by omega, by simpa using heq⟩
          go_roundw
          case rel =>
            refine ⟨k + 1, by omega, by go_num, ?_, ?_, ?_⟩
            · rw [HN.out, if_pos hok]; exact hoi1
            · exact ((hchg.drewN nq).alloc _).grown hgr1 (fun i hi e => by have := hblk i e; omega)
            · intro b hb
              simp [Value.ownBlock] at hb
              subst hb
              rcases hlies with h | h
              · exact hblk _ h
              · have := hchg.size; simp at h; omega
          case measure => simp [intOf]; omega
        · have heq : (comp[xn]?.getD 0 == comp[st]?.getD 0) = false := by assumption
          have hok : ¬ okTo comp st (xn : Int) = true := by
            simp [okTo]; intro _; simpa using heq
          go_roundw
          case rel =>
            refine ⟨k + 1, by omega, by go_num, ?_, hchg.drewN nq, hblk⟩
            rw [HN.out, if_neg hok]; exact hoi
          case measure => simp [intOf]; omega
      · have hd : decide ((st : Int) ≤ x) = false := by simp; omega
        clear hcC
        go_wp2_with fail
        go_quiet (fail)
        go_wp2_with fail
        have hok : ¬ okTo comp st x = true := by
          simp [okTo]; intro h; omega
        go_roundw
        case rel =>
          refine ⟨k + 1, by omega, by go_num, ?_, hchg.drewN nq, hblk⟩
          rw [HN.out, if_neg hok]; exact hoi
        case measure => simp [intOf]; omega
    · go_wp2_with fail
      go_ret
      refine ⟨_, rfl, ?_, hchg, hblk⟩
      rw [List.take_of_length_le (by omega)] at hoi
      exact hoi

end Go.Proofs.Qxb6601556a
