import Derived.Test.Qxb6601556aWalkA
namespace Go.Proofs.Qxb6601556a
open Go.RowKit
set_option linter.unusedVariables false
set_option linter.unusedSimpArgs false

set_option maxRecDepth 100000 in
set_option maxHeartbeats 2000000 in
theorem walk_step (rows : List (List Int)) (comp : List Int) (st : Nat) (D : Dom rows comp st) (f : Nat) (ih : WkC rows comp st f) : WkC rows comp st (f + 1) := by
  intro I B L rv path s v w hst hG hI hsane htidy hv hvb hfuel hpf hcl
  obtain ⟨vn, rfl⟩ := Int.eq_ofNat_of_zero_le hv.1
  have IH := hideP ih
  clear ih
  obtain ⟨c0, c1, c2, c3, c4, c5, c6, fz⟩ := hst.cell
  clear c0 c1 c2 c3 c5 c6
  go_enter Try.func28, Try.ntmps28
  go_wp2_with (first
    | (at_builtin; refine wpList_append_oi rfl _ _ rfl _ _ rfl (hst.pth.same (fun b hb => Below.heap_alloc _ _ _ (hst.pth.lt b hb))) w.heap.size vn 1 rfl (heap_alloc_new _ _) (by omega) ?_; intro g cap w1 hoi1 hgr1 hlies; obtain ⟨d4, d5, dz, hst1, hch1, hmut1⟩ := push_path hst hoi1 hgr1 hlies; clear c4 fz)
    | (at_mapUpdate; refine wpList_store_v rfl _ _ _ 32 rfl 3 4 Try.underlying32 Try.underlying3 B.mb _ rfl hst1.hmb vn (.bool true) rfl rfl ?_; intro w2 hv2 hg2 hz2; have hst2 := hst1.setBl vn true hv2 hg2; clear d4 d5 dz))
  have hch2 : Chg (Mut B L) w w2 := hch1.grown hg2 (fun k _ e => by cases e; exact .inr (.inl rfl))
  have hG2 := hG.kept hI hst hch2
  obtain ⟨L2, hst2', hmut2⟩ : ∃ L2, St I w2 B L2 st (path ++ [(vn : Int)]) (Pl.setB s vn true) ∧ ∀ b, Mut B L2 b → Mut B L b ∨ w.heap.size ≤ b := ⟨_, hst2, hmut1⟩
  clear hst2 hmut1 hst1 hch1 hg2 hv2 hlies hgr1 hoi1 hz2
  obtain ⟨c0, c1, c2, c3, c4, c5, c6, fz⟩ := hst2'.cell
  refine (next_any B.bs B.vR B.vC rv rows comp st vn w2 hG2 c0 c1 c3 (by omega) D.s D.cn (D.t vn) (D.e vn) D.n D.c).mono ?_
  rintro e w3 ⟨nv, rfl, hnv, hch3, hfr3⟩
  clear c0 c1 c2 c3 c4 c5 c6 fz
  have hnr := nextL_range D vn
  have hnl := nextL_len D vn
  have hst3 := hst2'.chg hch3
  have hG3 := hG2.kept hI hst2' (hch3.mono (fun _ _ h => h.elim))
  have HGO := hideP (fun l hl => loopF_going (ctxOk D) f path hsane htidy hv hvb l hl)
  have HGC := hideP (fun l hl => loopF_circ (ctxOk D) f path hsane htidy hv hvb l hl)
  have Hnx : Hid ((ctxOf rows comp st).nx vn = nextL comp st (rows.getD vn [])) := rfl
  generalize hnlq : nextL comp st (rows.getD vn []) = nl at *
  clear hnlq
  have hnf : ∀ b, nv.ownBlock = some b → ¬ Mut B L2 b := fun b hb hm => by
    have := hst2'.lt b hm
    have := hfr3 b hb
    omega
  have hch03 : Chg (Mut B L) w w3 := hch2.trans hch3 (fun _ _ h => h.elim)
  have hmut3 : ∀ b, Mut B L2 b → Mut B L b ∨ w.heap.size ≤ b := hmut2
  clear hst2' hG2 hch2 hch3 hfr3 hmut2
  have HGK := hideP (fun wr (hc : Chg (Mut B L2) w3 wr) => hG3.kept hI hst3 hc)
  obtain ⟨an, cn, rfl, hn1, hn2, hn3, hn4, hn5⟩ := hnv.shape
  clear hn3 hn4 hn5
  go_wp2_with fail
  go_loopw [29, 5, 7] (fun i fd _ wr => ∃ k : Nat, ∃ L' : Lay, k ≤ nl.length ∧ i = .int .i64 k ∧ fd = .bool (loopF (ctxOf rows comp st) f path s vn (nl.take k)).1 ∧ St I wr B L' st (path ++ [(vn : Int)]) (loopF (ctxOf rows comp st) f path s vn (nl.take k)).2 ∧ Chg (Mut B L2) w3 wr ∧ (∀ b, Mut B L' b → Mut B L2 b ∨ w3.heap.size ≤ b)) (fun i _ _ _ => nl.length - (intOf i).toNat)
  case atStart => exact ⟨0, L2, Nat.zero_le _, rfl, rfl, hst3, Chg.refl _ _, fun b hb => .inl hb⟩
  case round =>
    obtain ⟨k, L', hk, rfl, rfl, hstk, hchk, hmutk⟩ := hrel
    clear hst3
    by_cases hlt : k < nl.length
    · have hoi := hnv.chg hchk hnf
      obtain ⟨g', cap', hsl, hg', hcells⟩ := hoi.at k hlt
      cases hsl
      have hcell := hcells k hlt
      have HF := hideP (loopF_succ (ctxOf rows comp st) f path s vn nl k hlt)
      have hgo := HGO.out (nl.take k) (fun x hx => hnr x (List.mem_of_mem_take hx))
      have hgc := HGC.out (nl.take k) (fun x hx => hnr x (List.mem_of_mem_take hx))
      have hxr : 0 ≤ nl.getD k 0 ∧ nl.getD k 0 < (rows.length : Int) := hnr _ (by simp [hlt])
      clear hcells hoi HGO HGC
      generalize nl.getD k 0 = x at *
      generalize loopF (ctxOf rows comp st) f path s vn (nl.take k) = t at *
      obtain ⟨fd, t⟩ := t
      simp only at hstk hgc
      obtain ⟨ac, cc, hcvq, hc1, hc2, _, _, _⟩ := ownsRow_shape hstk.crc
      rw [hstk.rln] at hcvq
      obtain ⟨c0, c1, c2, c3, c4, c5, c6, fz⟩ := hstk.cell
      have Hcv := hideP hcvq
      rw [hcvq] at c2
      clear hcvq c0 c1 c6
      by_cases hcap : 64 ≤ t.circ.length
      · have hcapi : (64 : Int) ≤ (t.circ.length : Int) := by omega
        go_wp2_with fail
        go_roundw
        case rel =>
          refine ⟨k + 1, L', by omega, by go_num, ?_, ?_, hchk, hmutk⟩
          · rw [HF.out]; simp [Pl.step, hcap]
          · rw [HF.out]; simp only [Pl.step, hcap, if_true]; exact hstk
        case measure => simp [intOf]; omega
      · have hcapi : ¬ (64 : Int) ≤ (t.circ.length : Int) := by omega
        by_cases hxs : x = st
        · subst hxs
          obtain ⟨gp, cp, hpq, hgp, _⟩ := hstk.pth.at 0 (by simp)
          have Hpv := hideP hpq
          rw [hpq] at c4
          simp only [List.length_append, List.length_singleton] at c4
          have hpb : path.length ≤ 10000 := by omega
          have hbs := hstk.lt _ (.inl rfl)
          clear hpq hfuel hpf c5
          go_wp2_with fail
          refine wp_region_S (fun w' => w'.cell? ⟨B.bs, 2, none⟩ = some (.slice ac t.circ.length cc) ∧ w'.cell? ⟨B.bs, 4, none⟩ = some (.slice (some ⟨gp, 0, none⟩) (path.length + 1) cp) ∧ w'.cell? ⟨B.bs, 3, none⟩ = some (.int .i64 st)) 20 (by kernel_rfl) ?_
          have hS0 : wr.drew.cell? ⟨B.bs, 2, none⟩ = some (.slice ac t.circ.length cc) ∧ wr.drew.cell? ⟨B.bs, 4, none⟩ = some (.slice (some ⟨gp, 0, none⟩) (path.length + 1) cp) ∧ wr.drew.cell? ⟨B.bs, 3, none⟩ = some (.int .i64 st) := ⟨c2, c4, c3⟩
          refine wpAnyS_take (i := 0) (v := ?_) rfl (by kernel_rfl) (fun _ _ _ h => h) (Or.inl ⟨by rfl, ?_⟩) hS0 ?_
          rotate_left
          · intro w0 hS1; (try dsimp only at hS1); go_simp; first | done | with_reducible rfl
          try simp only [Act.put, List.setIfInBounds_toArray, List.set_cons_zero, List.set_cons_succ]
          refine wpAnyS_take (i := 1) (v := ?_) rfl (by kernel_rfl) (fun _ _ _ h => h) (Or.inl ⟨by rfl, ?_⟩) hS0 ?_
          rotate_left
          · intro w0 hS1; (try dsimp only at hS1); go_simp; first | done | with_reducible rfl
          try simp only [Act.put, List.setIfInBounds_toArray, List.set_cons_zero, List.set_cons_succ]
          refine wpAnyS_take (i := 2) (v := ?_) rfl (by kernel_rfl) (fun _ _ _ h => h) (Or.inl ⟨by rfl, ?_⟩) hS0 ?_
          rotate_left
          · intro w0 hS1; (try dsimp only at hS1); go_simp; first | done | with_reducible rfl
          try simp only [Act.put, List.setIfInBounds_toArray, List.set_cons_zero, List.set_cons_succ]
          refine wpAnyS_take (i := 3) (v := ?_) rfl (by kernel_rfl) (fun _ _ _ h => h) (Or.inl ⟨by rfl, ?_⟩) hS0 ?_
          rotate_left
          · intro w0 hS1; (try dsimp only at hS1); go_simp; first | done | with_reducible rfl
          try simp only [Act.put, List.setIfInBounds_toArray, List.set_cons_zero, List.set_cons_succ]
          refine wpAnyS_take (i := 4) (v := ?_) rfl (by kernel_rfl) (fun _ _ _ h => h) (Or.inl ⟨by rfl, ?_⟩) hS0 ?_
          rotate_left
          · intro w0 hS1; (try dsimp only at hS1); go_simp; first | done | with_reducible rfl
          try simp only [Act.put, List.setIfInBounds_toArray, List.set_cons_zero, List.set_cons_succ]
          refine wpAnyS_take (i := 5) (v := ?_) rfl (by kernel_rfl) (fun _ _ _ h => h) (Or.inl ⟨by rfl, ?_⟩) hS0 ?_
          rotate_left
          · intro w0 hS1; (try dsimp only at hS1); go_simp; first | done | with_reducible rfl
          try simp only [Act.put, List.setIfInBounds_toArray, List.set_cons_zero, List.set_cons_succ]
          refine wpAnyS_take (i := 6) (v := ?_) rfl (by kernel_rfl) (fun _ _ _ h => h) (Or.inl ⟨by rfl, ?_⟩) hS0 ?_
          rotate_left
          · intro w0 hS1; (try dsimp only at hS1); go_simp; first | done | with_reducible rfl
          try simp only [Act.put, List.setIfInBounds_toArray, List.set_cons_zero, List.set_cons_succ]
          refine wpAnyS_take (i := 7) (v := ?_) rfl (by kernel_rfl) (fun _ _ _ h => h) (Or.inl ⟨by rfl, ?_⟩) hS0 ?_
          rotate_left
          · intro w0 hS1; (try dsimp only at hS1); go_simp; first | done | with_reducible rfl
          try simp only [Act.put, List.setIfInBounds_toArray, List.set_cons_zero, List.set_cons_succ]
          refine wpAnyS_take (i := 8) (v := ?_) rfl (by kernel_rfl) (fun _ _ _ h => h) (Or.inl ⟨by rfl, ?_⟩) hS0 ?_
          rotate_left
          · intro w0 hS1; (try dsimp only at hS1); go_simp; first | done | with_reducible rfl
          try simp only [Act.put, List.setIfInBounds_toArray, List.set_cons_zero, List.set_cons_succ]
          refine wpAnyS_take (i := 10) (v := ?_) rfl (by kernel_rfl) (fun _ _ _ h => h) (Or.inl ⟨by rfl, ?_⟩) hS0 ?_
          rotate_left
          · intro w0 hS1; (try dsimp only at hS1); go_simp; first | done | with_reducible rfl
          try simp only [Act.put, List.setIfInBounds_toArray, List.set_cons_zero, List.set_cons_succ]
          refine wpAnyS_take (i := 11) (v := ?_) rfl (by kernel_rfl) (fun _ _ _ h => h) (Or.inl ⟨by rfl, ?_⟩) hS0 ?_
          rotate_left
          · intro w0 hS1; (try dsimp only at hS1); go_simp; first | done | with_reducible rfl
          try simp only [Act.put, List.setIfInBounds_toArray, List.set_cons_zero, List.set_cons_succ]
          refine wpAnyS_take (i := 12) (v := ?_) rfl (by kernel_rfl) (fun _ _ _ h => h) (Or.inl ⟨by rfl, ?_⟩) hS0 ?_
          rotate_left
          · intro w0 hS1; (try dsimp only at hS1); go_simp; first | done | with_reducible rfl
          try simp only [Act.put, List.setIfInBounds_toArray, List.set_cons_zero, List.set_cons_succ]
          refine wpAnyS_take (i := 13) (v := ?_) rfl (by kernel_rfl) (fun _ _ _ h => h) (Or.inl ⟨by rfl, ?_⟩) hS0 ?_
          rotate_left
          · intro w0 hS1; (try dsimp only at hS1); go_simp; first | done | with_reducible rfl
          try simp only [Act.put, List.setIfInBounds_toArray, List.set_cons_zero, List.set_cons_succ]
          refine wpAnyS_ready (rs := [9, 14]) (by kernel_rfl) (by simp) ?_
          refine AllReadyS.cons rfl (fun K hK => ?_) (AllReadyS.cons rfl (fun K hK => ?_) AllReadyS.nil)
          · refine step_append_copy rfl _ _ rfl rfl gp cp (path ++ [(vn : Int)]) (by simp; rfl) (by have := hstk.pth; rw [Hpv.out] at this; exact this) (by simp) (by simp; omega) ?_
            intro cp4 w4 hoi4 hg4
            have e4 : w4.heap[B.bs]? = wr.heap[B.bs]? := hg4.block _ hbs (by simp)
            refine hK.out _ _ (fun _ => S9_keep e4 hS0) ?_
            clear hK K
            try simp only [Act.put, List.setIfInBounds_toArray, List.set_cons_zero, List.set_cons_succ]
            refine wpAnyS_ready (rs := [14]) (by kernel_rfl) (by simp) ?_
            refine AllReadyS.cons rfl (fun K hK => ?_) AllReadyS.nil
            go_simp
            have hs4 : wr.heap.size ≤ w4.heap.size := hg4.size
            have e5 : (w4.alloc (.cells #[.int .i64 st] 3)).heap[B.bs]? = wr.heap[B.bs]? := (Below.heap_alloc _ _ _ (by omega)).trans e4
            refine hK.out _ _ (fun _ => S9_keep e5 hS0) ?_
            clear hK K
            try simp only [Act.put, List.setIfInBounds_toArray, List.set_cons_zero, List.set_cons_succ]
            refine wpAnyS_ready (rs := [15]) (by kernel_rfl) (by simp) ?_
            refine AllReadyS.cons rfl (fun K hK => ?_) AllReadyS.nil
            have hoi4' : OI w4 (.slice (some ⟨wr.heap.size, 0, none⟩) (path.length + 1) cp4) (path ++ [(vn : Int)]) := by simpa using hoi4
            refine step_append_oi rfl _ _ rfl (.slice (some ⟨wr.heap.size, 0, none⟩) (path.length + 1) cp4) (path ++ [(vn : Int)]) rfl (hoi4'.same (fun b hb => Below.heap_alloc _ _ _ (hoi4'.lt b hb))) w4.heap.size st 1 rfl (heap_alloc_new _ _) (by simp; omega) ?_
            intro g6 cp6 w6 hoi6 hg6 hl6
            have hc6 : Chg (fun _ => False) wr w6 := (((Chg.refl _ wr).drew.grown hg4 (fun k _ e => by cases e)).alloc _).grown hg6 (fun k hk e => by simp [Value.ownBlock] at e; omega)
            have hb6 : wr.heap.size ≤ g6 := by
              rcases hl6 with h | h
              · simp [Value.ownBlock] at h; omega
              · simp at h; omega
            clear hg6 hl6 hoi4 hoi4' e4 e5 hs4 hg4
            have hoi6' : OI w6 (.slice (some ⟨g6, 0, none⟩) (path.length + 1 + 1) cp6) (path ++ [(vn : Int)] ++ [(st : Int)]) := by simpa using hoi6
            clear hoi6
            refine hK.out _ _ (fun _ => S9_keep (hc6.block _ hbs (fun h => h)) hS0) ?_
            clear hK K
            try simp only [Act.put, List.setIfInBounds_toArray, List.set_cons_zero, List.set_cons_succ, List.length_append, List.length_singleton]
            refine wpAnyS_ready (rs := [16]) (by kernel_rfl) (by simp) ?_
            refine AllReadyS.cons rfl (fun K hK => ?_) AllReadyS.nil
            go_simp
            have hc7 := hc6.alloc (.cells #[.slice (some ⟨g6, 0, none⟩) (path.length + 1 + 1) cp6] 23)
            refine hK.out _ _ (fun _ => S9_keep (hc7.block _ hbs (fun h => h)) hS0) ?_
            clear hK K
            try simp only [Act.put, List.setIfInBounds_toArray, List.set_cons_zero, List.set_cons_succ]
            refine wpAnyS_ready (rs := [17]) (by kernel_rfl) (by simp) ?_
            refine AllReadyS.cons rfl (fun K hK => ?_) AllReadyS.nil
            have hov7 := hstk.crc.chg hc7 (fun _ _ h => h)
            refine step_append_ov rfl _ _ rfl L'.cv L'.rows (by rw [Hcv.out]; rfl) hov7 w6.heap.size (.slice (some ⟨g6, 0, none⟩) (path.length + 1 + 1) cp6) rfl 1 rfl (heap_alloc_new _ _) (by rw [hstk.rln]; omega) ?_
            intro g8 cp8 w8 hov8 hg8 hl8
            have hc8 : Chg (fun b => L'.cv.ownBlock = some b) wr w8 := (hc7.mono (fun _ _ h => h.elim)).grown hg8 (fun k _ e => e)
            have hs7 := hc6.size
            have hfr8 : L'.cv.ownBlock = some g8 ∨ wr.heap.size ≤ g8 := by
              rcases hl8 with h | h
              · exact .inl h
              · right; simp at h; omega
            have hrv8 : OI w8 (.slice (some ⟨g6, 0, none⟩) (path.length + 1 + 1) cp6) (path ++ [(vn : Int)] ++ [(st : Int)]) := by
              refine hoi6'.same fun b hb => ?_
              have hlt6 := hoi6'.lt b hb
              simp [Value.ownBlock] at hb
              subst hb
              refine (hg8.block _ (by simp; omega) (fun e => ?_)).trans (Below.heap_alloc _ _ _ hlt6)
              have := hstk.crc.lt _ e.symm
              omega
            obtain ⟨d2, dz, hst9, hch9, hmut9⟩ := add_circ hstk hc8 hrv8 (fun b hb => by simp [Value.ownBlock] at hb; omega) hov8 hfr8
            have e8 : w8.heap[B.bs]? = wr.heap[B.bs]? := hc8.block _ hbs (hstk.crc.ne_box hstk.box)
            have hS8 := S9_keep e8 hS0
            refine hK.out _ _ (fun _ => hS8) ?_
            clear hK K hov8 hg8 hl8 hc8 hrv8 hov7 hc7
            try simp only [Act.put, List.setIfInBounds_toArray, List.set_cons_zero, List.set_cons_succ]
            refine wpAnyS_take (i := 18) (v := ?_) rfl (by kernel_rfl) (fun _ _ _ h => h) (Or.inl ⟨by rfl, ?_⟩) hS8 ?_
            rotate_left
            · intro w0 hS1; (try dsimp only at hS1); go_simp; first | done | with_reducible rfl
            try simp only [Act.put, List.setIfInBounds_toArray, List.set_cons_zero, List.set_cons_succ]
            refine wpAnyS_take (i := 19) (v := ?_) rfl (by kernel_rfl) (fun _ _ _ h => h) (Or.inl ⟨by rfl, ?_⟩) hS8 ?_
            rotate_left
            · intro w0 hS1; (try dsimp only at hS1); go_simp; first | done | with_reducible rfl
            try simp only [Act.put, List.setIfInBounds_toArray, List.set_cons_zero, List.set_cons_succ]
            refine wpAnyS_ready (rs := [20]) (by kernel_rfl) (by simp) ?_
            refine AllReadyS.cons rfl (fun K hK => ?_) AllReadyS.nil
            go_simp
            refine hK.out _ _ (fun h => absurd rfl h) ?_
            clear hK K
            refine wpAnyS_done (by kernel_rfl) ?_ _
            clear d2 dz hS8 e8
            go_wp2_with fail
            have cs := chg_step hchk hmutk hch9 hmut9
            go_roundw
            case rel =>
              refine ⟨k + 1, _, by omega, by go_num, ?_, ?_, cs.1, cs.2⟩
              · rw [HF.out]; simp [Pl.step, hcap, ctxOf]
              · rw [HF.out]; simp only [Pl.step, hcap, if_false, ctxOf, if_true]; exact hst9
            case measure => simp [intOf]; omega
          · go_simp
            have e4 : (wr.drew.alloc (.cells #[.int .i64 st] 3)).heap[B.bs]? = wr.heap[B.bs]? := Below.heap_alloc _ _ _ hbs
            refine hK.out _ _ (fun _ => S9_keep e4 hS0) ?_
            clear hK K
            try simp only [Act.put, List.setIfInBounds_toArray, List.set_cons_zero, List.set_cons_succ]
            refine wpAnyS_ready (rs := [9]) (by kernel_rfl) (by simp) ?_
            refine AllReadyS.cons rfl (fun K hK => ?_) AllReadyS.nil
            refine step_append_copy rfl _ _ rfl rfl gp cp (path ++ [(vn : Int)]) (by simp; rfl) (by have := hstk.pth; rw [Hpv.out] at this; exact this.same (fun b hb => Below.heap_alloc _ _ _ (this.lt b hb))) (by simp) (by simp; omega) ?_
            intro cp4 w4 hoi4 hg4
            have hs4 : wr.heap.size + 1 ≤ w4.heap.size := by have := hg4.size; simpa using this
            have e5 : w4.heap[B.bs]? = wr.heap[B.bs]? := (hg4.block _ (by simp; omega) (by simp)).trans e4
            have hB4 : w4.heap[wr.heap.size]? = some (.cells #[.int .i64 st] 3 (0, 0)) := (hg4.block _ (by simp) (by simp)).trans (heap_alloc_new wr.drew _)
            refine hK.out _ _ (fun _ => S9_keep e5 hS0) ?_
            clear hK K
            try simp only [Act.put, List.setIfInBounds_toArray, List.set_cons_zero, List.set_cons_succ]
            refine wpAnyS_ready (rs := [15]) (by kernel_rfl) (by simp) ?_
            refine AllReadyS.cons rfl (fun K hK => ?_) AllReadyS.nil
            have hoi4' : OI w4 (.slice (some ⟨wr.heap.size + 1, 0, none⟩) (path.length + 1) cp4) (path ++ [(vn : Int)]) := by simpa using hoi4
            refine step_append_oi rfl _ _ rfl (.slice (some ⟨wr.heap.size + 1, 0, none⟩) (path.length + 1) cp4) (path ++ [(vn : Int)]) (by simp; rfl) hoi4' wr.heap.size st 1 (by simp; rfl) hB4 (by simp; omega) ?_
            intro g6 cp6 w6 hoi6 hg6 hl6
            have hc6 : Chg (fun _ => False) wr w6 := (((Chg.refl _ wr).drew.alloc _).grown hg4 (fun k _ e => by cases e)).grown hg6 (fun k hk e => by simp [Value.ownBlock] at e; omega)
            have hb6 : wr.heap.size ≤ g6 := by
              rcases hl6 with h | h
              · simp [Value.ownBlock] at h; omega
              · omega
            clear hg6 hl6 hoi4 hoi4' e4 e5 hs4 hg4 hB4
            have hoi6' : OI w6 (.slice (some ⟨g6, 0, none⟩) (path.length + 1 + 1) cp6) (path ++ [(vn : Int)] ++ [(st : Int)]) := by simpa using hoi6
            clear hoi6
            refine hK.out _ _ (fun _ => S9_keep (hc6.block _ hbs (fun h => h)) hS0) ?_
            clear hK K
            try simp only [Act.put, List.setIfInBounds_toArray, List.set_cons_zero, List.set_cons_succ, List.length_append, List.length_singleton]
            refine wpAnyS_ready (rs := [16]) (by kernel_rfl) (by simp) ?_
            refine AllReadyS.cons rfl (fun K hK => ?_) AllReadyS.nil
            go_simp
            have hc7 := hc6.alloc (.cells #[.slice (some ⟨g6, 0, none⟩) (path.length + 1 + 1) cp6] 23)
            refine hK.out _ _ (fun _ => S9_keep (hc7.block _ hbs (fun h => h)) hS0) ?_
            clear hK K
            try simp only [Act.put, List.setIfInBounds_toArray, List.set_cons_zero, List.set_cons_succ]
            refine wpAnyS_ready (rs := [17]) (by kernel_rfl) (by simp) ?_
            refine AllReadyS.cons rfl (fun K hK => ?_) AllReadyS.nil
            have hov7 := hstk.crc.chg hc7 (fun _ _ h => h)
            refine step_append_ov rfl _ _ rfl L'.cv L'.rows (by rw [Hcv.out]; rfl) hov7 w6.heap.size (.slice (some ⟨g6, 0, none⟩) (path.length + 1 + 1) cp6) rfl 1 rfl (heap_alloc_new _ _) (by rw [hstk.rln]; omega) ?_
            intro g8 cp8 w8 hov8 hg8 hl8
            have hc8 : Chg (fun b => L'.cv.ownBlock = some b) wr w8 := (hc7.mono (fun _ _ h => h.elim)).grown hg8 (fun k _ e => e)
            have hs7 := hc6.size
            have hfr8 : L'.cv.ownBlock = some g8 ∨ wr.heap.size ≤ g8 := by
              rcases hl8 with h | h
              · exact .inl h
              · right; simp at h; omega
            have hrv8 : OI w8 (.slice (some ⟨g6, 0, none⟩) (path.length + 1 + 1) cp6) (path ++ [(vn : Int)] ++ [(st : Int)]) := by
              refine hoi6'.same fun b hb => ?_
              have hlt6 := hoi6'.lt b hb
              simp [Value.ownBlock] at hb
              subst hb
              refine (hg8.block _ (by simp; omega) (fun e => ?_)).trans (Below.heap_alloc _ _ _ hlt6)
              have := hstk.crc.lt _ e.symm
              omega
            obtain ⟨d2, dz, hst9, hch9, hmut9⟩ := add_circ hstk hc8 hrv8 (fun b hb => by simp [Value.ownBlock] at hb; omega) hov8 hfr8
            have e8 : w8.heap[B.bs]? = wr.heap[B.bs]? := hc8.block _ hbs (hstk.crc.ne_box hstk.box)
            have hS8 := S9_keep e8 hS0
            refine hK.out _ _ (fun _ => hS8) ?_
            clear hK K hov8 hg8 hl8 hc8 hrv8 hov7 hc7
            try simp only [Act.put, List.setIfInBounds_toArray, List.set_cons_zero, List.set_cons_succ]
            refine wpAnyS_take (i := 18) (v := ?_) rfl (by kernel_rfl) (fun _ _ _ h => h) (Or.inl ⟨by rfl, ?_⟩) hS8 ?_
            rotate_left
            · intro w0 hS1; (try dsimp only at hS1); go_simp; first | done | with_reducible rfl
            try simp only [Act.put, List.setIfInBounds_toArray, List.set_cons_zero, List.set_cons_succ]
            refine wpAnyS_take (i := 19) (v := ?_) rfl (by kernel_rfl) (fun _ _ _ h => h) (Or.inl ⟨by rfl, ?_⟩) hS8 ?_
            rotate_left
            · intro w0 hS1; (try dsimp only at hS1); go_simp; first | done | with_reducible rfl
            try simp only [Act.put, List.setIfInBounds_toArray, List.set_cons_zero, List.set_cons_succ]
            refine wpAnyS_ready (rs := [20]) (by kernel_rfl) (by simp) ?_
            refine AllReadyS.cons rfl (fun K hK => ?_) AllReadyS.nil
            go_simp
            refine hK.out _ _ (fun h => absurd rfl h) ?_
            clear hK K
            refine wpAnyS_done (by kernel_rfl) ?_ _
            clear d2 dz hS8 e8
            go_wp2_with fail
            have cs := chg_step hchk hmutk hch9 hmut9
            go_roundw
            case rel =>
              refine ⟨k + 1, _, by omega, by go_num, ?_, ?_, cs.1, cs.2⟩
              · rw [HF.out]; simp [Pl.step, hcap, ctxOf]
              · rw [HF.out]; simp only [Pl.step, hcap, if_false, ctxOf, if_true]; exact hst9
            case measure => simp [intOf]; omega
        · have hxb : (x == (st : Int)) = false := by simpa using hxs
          cases hbx : Pl.isB t x with
          | true =>
            go_wp2_with (at_lookup; refine wpList_look_bl rfl _ _ rfl B.mb t rfl hstk.hmb x rfl ?_; rw [hbx])
            go_roundw
            case rel =>
              refine ⟨k + 1, L', by omega, by go_num, ?_, ?_, hchk, hmutk⟩
              · rw [HF.out]; simp [Pl.step, hcap, hxs, ctxOf, hbx]
              · rw [HF.out]; simp only [Pl.step, hcap, if_false, ctxOf, hxs, hbx, if_true]; exact hstk
            case measure => simp [intOf]; omega
          | false =>
            have hfu : Pl.openNodes rows.length t ≤ f := by
              have := Pl.openNodes_lt (n := rows.length) (s := s) (t := t) hv (fun z hz => hgo.rel.kept z (by rw [Pl.isB_setB]; split <;> simp [hz])) hvb (hgo.rel.kept _ (by rw [Pl.isB_setB]; simp))
              omega
            go_wp2_with (at_lookup; refine wpList_look_bl rfl _ _ rfl B.mb t rfl hstk.hmb x rfl ?_; rw [hbx])
            refine (IH.out I B L' rv (path ++ [(vn : Int)]) t x wr hstk (HGK.out wr hchk) hI hgo.sane (hgo.tidy (by simpa using hcap)) hxr hbx hfu (by simp; omega) (by omega)).mono ?_
            rintro e w' ⟨rfl, L'', hst'', hch'', hmut''⟩
            have cs := chg_step hchk hmutk hch'' hmut''
            have HR : Hid (Pl.step (ctxOf rows comp st) (Pl.wk (ctxOf rows comp st) f (path ++ [(vn : Int)])) (path ++ [(vn : Int)]) (fd, t) x = ((Pl.wk (ctxOf rows comp st) f (path ++ [(vn : Int)]) t x).1 || fd, (Pl.wk (ctxOf rows comp st) f (path ++ [(vn : Int)]) t x).2)) := by
              show Pl.step _ _ _ _ _ = _
              simp [Pl.step, hcap, ctxOf, hxs, hbx]
            generalize Pl.wk (ctxOf rows comp st) f (path ++ [(vn : Int)]) t x = R at *
            obtain ⟨rb, R⟩ := R
            cases rb
            all_goals
              go_wp2_with fail
              go_roundw
              case rel =>
                refine ⟨k + 1, L'', by omega, by go_num, ?_, ?_, cs.1, cs.2⟩
                · rw [HF.out, HR.out]; simp
                · rw [HF.out, HR.out]; exact hst''
              case measure => simp [intOf]; omega
    · have hT : nl.take k = nl := List.take_of_length_le (by omega)
      have hgo := HGO.out nl hnr
      have hgc := HGC.out nl hnr
      have HWK := hideP (wk_succ (ctxOf rows comp st) f path s vn)
      rw [Hnx.out] at HWK
      rw [hT] at hstk ⊢
      clear HGO HGC hT
      generalize loopF (ctxOf rows comp st) f path s vn nl = r at *
      obtain ⟨fd, t⟩ := r
      simp only at hstk hgc
      cases fd
      · go_wp2_with fail
        obtain ⟨c0, c1, c2, c3, c4, c5, c6, fz⟩ := hstk.cell
        refine (next_any B.bs B.vR B.vC rv rows comp st vn wr (HGK.out wr hchk) c0 c1 c3 (by omega) D.s D.cn (D.t vn) (D.e vn) D.n D.c).mono ?_
        rintro e w4 ⟨nv, rfl, hnv4, hch4, hfr4⟩
        have hnv4' : OI w4 nv nl := by rw [← Hnx.out]; exact hnv4
        clear c0 c1 c2 c3 c4 c5 c6 fz hnv4
        have hst4 := hstk.chg hch4
        have hnf4 : ∀ b, nv.ownBlock = some b → ¬ Mut B L' b := fun b hb hm => by
          have := hstk.lt b hm
          have := hfr4 b hb
          omega
        have cs1 := chg_step hch03 hmut3 hchk hmutk
        have hch04 : Chg (Mut B L) w w4 := cs1.1.trans hch4 (fun _ _ h => h.elim)
        have hmut4 := cs1.2
        have hsz4 : w.heap.size ≤ w4.heap.size := hch04.size
        clear hstk hchk hmutk cs1 hch4 hfr4
        obtain ⟨an4, cn4, rfl, _, _, _, _, _⟩ := hnv4'.shape
        go_wp2_with fail
        go_loopw [90, 9] (fun i _ wq => ∃ k : Nat, ∃ L'' : Lay, k ≤ nl.length ∧ i = .int .i64 k ∧ St I wq B L'' st (path ++ [(vn : Int)]) (waitF t vn nl k) ∧ Chg (Mut B L') w4 wq ∧ (∀ b, Mut B L'' b → Mut B L' b ∨ w4.heap.size ≤ b)) (fun i _ _ => nl.length - (intOf i).toNat)
        case atStart => exact ⟨0, L', Nat.zero_le _, rfl, hst4, Chg.refl _ _, fun b hb => .inl hb⟩
        case round =>
          obtain ⟨k2, L'', hk2, rfl, hstq, hchq, hmutq⟩ := hrel
          clear hst4
          by_cases hlt2 : k2 < nl.length
          · have hoi2 := hnv4'.chg hchq hnf4
            obtain ⟨g2, cap2, hsl, _, hcells⟩ := hoi2.at k2 hlt2
            cases hsl
            have hcell2 := hcells k2 hlt2
            have HF2 := hideP (waitF_succ t vn nl k2 hlt2)
            have hsn := waitF_sane hgo.sane hv hnr k2
            have hxr : 0 ≤ nl.getD k2 0 ∧ nl.getD k2 0 < (rows.length : Int) := hnr _ (by simp [hlt2])
            clear hcells hoi2
            generalize nl.getD k2 0 = x at *
            generalize waitF t vn nl k2 = q at *
            obtain ⟨_, _, _, _, _, _, c6, _⟩ := hstq.cell
            have hwl := hsn.wl x
            have hwlen : (Pl.wl q x).length ≤ rows.length := Pl.nodup_bound hwl.1 hwl.2
            have hDn := D.n
            obtain ⟨ax, cx, hlvq, _, _, _, _, hrow⟩ := (hstq.lst x).shape
            have HLV := hideP hlvq
            clear hlvq
            cases hhas : hasI (Pl.wl q x) vn with
            | true =>
              go_wp2_with (first
                | (at_lookup; refine wpList_look_by rfl _ _ rfl B.mB L'' rfl hstq.hmB x rfl ?_; rw [HLV.out])
                | (go_at_call 31; refine (contains_any ax (Pl.wl q x).length cx (Pl.wl q x) vn _ rfl hrow (by omega)).mono ?_; rintro e w' ⟨rfl, hw'⟩; rw [hw', hhas]; clear hw'))
              go_roundw
              case rel =>
                refine ⟨k2 + 1, L'', by omega, by go_num, ?_, hchq, hmutq⟩
                rw [HF2.out]
                have hc : (Pl.wl q x).contains (vn : Int) = true := hhas
                unfold Pl.wait1
                rw [if_pos hc]; exact hstq
              case measure => simp [intOf]; omega
            | false =>
              go_wp2_with (first
                | (at_lookup; refine wpList_look_by rfl _ _ rfl B.mB L'' rfl hstq.hmB x rfl ?_; rw [HLV.out])
                | (go_at_call 31; refine (contains_any ax (Pl.wl q x).length cx (Pl.wl q x) vn _ rfl hrow (by omega)).mono ?_; rintro e w' ⟨rfl, hw'⟩; rw [hw', hhas]; clear hw'))
              have hbsq := hstq.lt _ (.inl rfl)
              have hmBq := hstq.hmB.lt
              refine wp_region_S (fun w' => w'.cell? ⟨B.bs, 6, none⟩ = some (.map (some B.mB)) ∧ VMap w' B.mB L''.lists) 14 (by kernel_rfl) ?_
              have hS0 : wr.drew.cell? ⟨B.bs, 6, none⟩ = some (.map (some B.mB)) ∧ VMap wr.drew B.mB L''.lists := ⟨c6, hstq.hmB⟩
              refine wpAnyS_take (i := 0) (v := ?_) rfl (by kernel_rfl) (fun _ _ _ h => h) (Or.inl ⟨by rfl, ?_⟩) hS0 ?_
              rotate_left
              · intro w0 hS1; (try dsimp only at hS1); go_simp; first | done | with_reducible rfl
              try simp only [Act.put, List.setIfInBounds_toArray, List.set_cons_zero, List.set_cons_succ]
              refine wpAnyS_take (i := 1) (v := ?_) rfl (by kernel_rfl) (fun _ _ _ h => h) (Or.inl ⟨by rfl, ?_⟩) hS0 ?_
              rotate_left
              · intro w0 hS1; (try dsimp only at hS1); go_simp; first | done | with_reducible rfl
              try simp only [Act.put, List.setIfInBounds_toArray, List.set_cons_zero, List.set_cons_succ]
              refine wpAnyS_take (i := 2) (v := ?_) rfl (by kernel_rfl) (fun _ _ _ h => h) (Or.inl ⟨by rfl, ?_⟩) hS0 ?_
              rotate_left
              · intro w0 hS1; (try dsimp only at hS1); go_simp; first | done | with_reducible rfl
              try simp only [Act.put, List.setIfInBounds_toArray, List.set_cons_zero, List.set_cons_succ]
              refine wpAnyS_take (i := 3) (v := ?_) rfl (by kernel_rfl) (fun _ _ _ h => h) (Or.inl ⟨by rfl, ?_⟩) hS0 ?_
              rotate_left
              · intro w0 hS1; (try dsimp only at hS1); go_simp; first | done | with_reducible rfl
              try simp only [Act.put, List.setIfInBounds_toArray, List.set_cons_zero, List.set_cons_succ]
              refine wpAnyS_take (i := 4) (v := ?_) rfl (by kernel_rfl) (fun _ _ _ h => h) (Or.inl ⟨by rfl, ?_⟩) hS0 ?_
              rotate_left
              · intro w0 hS1; (try dsimp only at hS1); go_simp; first | done | with_reducible rfl
              try simp only [Act.put, List.setIfInBounds_toArray, List.set_cons_zero, List.set_cons_succ]
              refine wpAnyS_take (i := 5) (v := ?_) rfl (by kernel_rfl) (fun _ _ _ h => h) (Or.inl ⟨by rfl, ?_⟩) hS0 ?_
              rotate_left
              · intro w0 hS1; (try dsimp only at hS1); go_simp; first | done | with_reducible rfl
              try simp only [Act.put, List.setIfInBounds_toArray, List.set_cons_zero, List.set_cons_succ]
              refine wpAnyS_take (i := 6) (v := ?_) rfl (by kernel_rfl) (fun _ _ _ h => h) (Or.inl ⟨by rfl, ?_⟩) hS0 ?_
              rotate_left
              · intro w0 hS1; (try dsimp only at hS1); go_simp; first | done | with_reducible rfl
              try simp only [Act.put, List.setIfInBounds_toArray, List.set_cons_zero, List.set_cons_succ]
              refine wpAnyS_take (i := 7) (v := ?_) rfl (by kernel_rfl) (fun _ _ _ h => h) (Or.inl ⟨by rfl, ?_⟩) hS0 ?_
              rotate_left
              · intro w0 hS1; (try dsimp only at hS1); go_simp; first | done | with_reducible rfl
              try simp only [Act.put, List.setIfInBounds_toArray, List.set_cons_zero, List.set_cons_succ]
              refine wpAnyS_take (i := 8) (v := ?_) rfl (by kernel_rfl) (fun _ _ _ h => h) (Or.inl ⟨by rfl, ?_⟩) hS0 ?_
              rotate_left
              · intro w0 hS1; (try dsimp only at hS1); go_simp; first | done | with_reducible rfl
              try simp only [Act.put, List.setIfInBounds_toArray, List.set_cons_zero, List.set_cons_succ]
              refine wpAnyS_take (i := 9) (v := ?_) rfl (by kernel_rfl) (fun _ _ _ h => h) (Or.inl ⟨by rfl, ?_⟩) hS0 ?_
              rotate_left
              · intro w0 hS1; (try dsimp only at hS1); go_simp; first | done | with_reducible rfl
              try simp only [Act.put, List.setIfInBounds_toArray, List.set_cons_zero, List.set_cons_succ]
              refine wpAnyS_take (i := 10) (v := .slice ax (Pl.wl q x).length cx) rfl (by kernel_rfl) (fun _ _ _ h => h) (Or.inl ⟨by rfl, ?_⟩) hS0 ?_
              · intro w0 hS1
                have hrun : (Instr.lookup 33 (.map (some B.mB)) (.int .i64 x) false).run Try.prog w0 = .ok (.slice ax (Pl.wl q x).length cx) w0 := by
                  rw [← HLV.out]; exact hS1.2.look (P := Try.prog) Try.underlying33 Try.underlying3 (Try.zero23 w0) x
                clear hS1
                go_simp
              try simp only [Act.put, List.setIfInBounds_toArray, List.set_cons_zero, List.set_cons_succ]
              refine wpAnyS_take (i := 11) (v := ?_) rfl (by kernel_rfl) (fun _ _ _ h => h) (Or.inl ⟨by rfl, ?_⟩) hS0 ?_
              rotate_left
              · intro w0 hS1; (try dsimp only at hS1); go_simp; first | done | with_reducible rfl
              try simp only [Act.put, List.setIfInBounds_toArray, List.set_cons_zero, List.set_cons_succ]
              refine wpAnyS_ready (rs := [12]) (by kernel_rfl) (by simp) ?_
              refine AllReadyS.cons rfl (fun K hK => ?_) AllReadyS.nil
              go_simp
              have hc5 : Chg (fun _ => False) wr (wr.drew.alloc (.cells #[.int .i64 vn] 3)) := (Chg.refl _ wr).drew.alloc _
              have hS5 := S20_keep (hc5.block _ hbsq (fun h => h)) (hc5.block _ hmBq (fun h => h)) hS0
              refine hK.out _ _ (fun _ => hS5) ?_
              clear hK K
              try simp only [Act.put, List.setIfInBounds_toArray, List.set_cons_zero, List.set_cons_succ]
              refine wpAnyS_ready (rs := [13]) (by kernel_rfl) (by simp) ?_
              refine AllReadyS.cons rfl (fun K hK => ?_) AllReadyS.nil
              have hlq := hstq.lst x
              rw [HLV.out] at hlq
              refine step_append_oi rfl _ _ rfl (.slice ax (Pl.wl q x).length cx) (Pl.wl q x) rfl (hlq.chg hc5 (fun _ _ h => h)) wr.heap.size vn 1 rfl (heap_alloc_new wr.drew _) (by omega) ?_
              intro g6 cp6 w6 hoi6 hg6 hl6
              have hc6 : Chg (fun b => (Value.slice ax (Pl.wl q x).length cx).ownBlock = some b) wr w6 := (hc5.mono (fun _ _ h => h.elim)).grown hg6 (fun k _ e => e)
              have hS6 := S20_keep (hc6.block _ hbsq (hlq.ne_box hstq.box)) (hc6.block _ hmBq (hlq.ne_map hstq.hmB)) hS0
              refine hK.out _ _ (fun _ => hS6) ?_
              clear hK K
              try simp only [Act.put, List.setIfInBounds_toArray, List.set_cons_zero, List.set_cons_succ]
              refine wpAnyS_ready (rs := [14]) (by kernel_rfl) (by simp) ?_
              refine AllReadyS.cons rfl (fun K hK => ?_) AllReadyS.nil
              refine step_store_v rfl _ _ _ rfl B.mB _ rfl hS6.2 x (.slice (some ⟨g6, 0, none⟩) ((Pl.wl q x).length + 1) cp6) rfl rfl ?_
              intro w7 hv7 hg7 hz7
              have hlv6 : ∀ b, (Value.slice (some ⟨g6, 0, none⟩) ((Pl.wl q x).length + 1) cp6).ownBlock = some b → (lv L'' x).ownBlock = some b ∨ wr.heap.size ≤ b := by
                intro b hb
                simp [Value.ownBlock] at hb
                subst hb
                rw [HLV.out]
                rcases hl6 with h | h
                · exact .inl h
                · right; simp at h; omega
              obtain ⟨hst9, hch9, hmut9⟩ := put_wait hstq hc5 (by rw [HLV.out]; exact hg6) hoi6 hlv6 hv7 hg7
              refine hK.out _ _ (fun h => absurd rfl h) ?_
              clear hK K
              refine wpAnyS_done (by kernel_rfl) ?_ _
              clear hS6 hS5 hg7 hv7 hg6 hl6 hoi6 hlv6 hc6 hc5 hS0 hlq
              go_wp2_with fail
              have cs := chg_step hchq hmutq hch9 hmut9
              go_roundw
              case rel =>
                refine ⟨k2 + 1, _, by omega, by go_num, ?_, cs.1, cs.2⟩
                have hc : ¬ (Pl.wl q x).contains (vn : Int) = true := by
                  have hf : (Pl.wl q x).contains (vn : Int) = false := hhas
                  rw [hf]; exact Bool.false_ne_true
                rw [HF2.out]
                unfold Pl.wait1
                rw [if_neg hc]; exact hst9
              case measure => simp [intOf]; omega
          · have hk2e : k2 = nl.length := by omega
            obtain ⟨_, _, _, _, c4, _, _, fz⟩ := hstq.cell
            obtain ⟨gp, cp, hpq, hpc⟩ := hstq.pth.atc (by simp)
            rw [hpq] at c4
            simp only [List.length_append, List.length_singleton] at c4 hpc
            have Hpv := hideP hpq
            have hfz4 := fz 4
            have hpb : path.length ≤ 10000 := by omega
            have hpi0 : (0 : Int) ≤ (path.length : Int) := by omega
            have hpi : (path.length : Int) ≤ (cp : Int) := by omega
            have Hk := hideP hk2e
            clear hpq fz hk2e
            go_wp2_with fail
            go_region
            obtain ⟨hst9, hch9, hmut9⟩ := pop_path (w1 := wr.drew) hstq Hpv.out rfl rfl rfl rfl
            go_wp2_with fail
            go_ret
            have cs2 := chg_step hch04 (fun b hb => hmut4 b hb) hchq hmutq
            have cs3 := chg_step cs2.1 cs2.2 hch9 hmut9
            refine ⟨ret_bool ?_, _, ?_, cs3.1, cs3.2⟩
            · rw [HWK.out]; rfl
            · rw [Hk.out, waitF_all] at hst9
              rw [HWK.out]; exact hst9
      · go_wp2_with fail
        refine (unblock_any rows.length D.n (Pl.cnt (Pl.put t.bl vn false)) I B L' st (path ++ [(vn : Int)]) t vn wr hstk hgo.sane hv (Nat.le_refl _)).mono ?_
        rintro e w' ⟨rfl, ls, hst', hch', hm'⟩
        obtain ⟨_, _, _, _, c4, _, _, fz⟩ := hst'.cell
        obtain ⟨gp, cp, hpq, hpc⟩ := hst'.pth.atc (by simp)
        rw [hpq] at c4
        simp only [List.length_append, List.length_singleton] at c4 hpc
        have Hpv := hideP hpq
        have hfz4 := fz 4
        have hpb : path.length ≤ 10000 := by omega
        have hpi0 : (0 : Int) ≤ (path.length : Int) := by omega
        have hpi : (path.length : Int) ≤ (cp : Int) := by omega
        clear hpq fz
        go_wp2_with fail
        go_region
        obtain ⟨hst9, hch9, hmut9⟩ := pop_path (w1 := w'.drew) hst' Hpv.out rfl rfl rfl rfl
        go_wp2_with fail
        go_ret
        have cs1 := chg_step hch03 hmut3 hchk hmutk
        have cs2 := chg_step cs1.1 cs1.2 (hch'.mono (G := Mut B L') (fun b _ hb => hb.elim (fun e => .inr (.inl e)) (fun e => .inr (.inr (.inl e))))) (fun b hb => .inl (hm' b hb))
        have cs3 := chg_step cs2.1 cs2.2 hch9 hmut9
        refine ⟨ret_bool ?_, _, ?_, cs3.1, cs3.2⟩
        · rw [HWK.out]; rfl
        · rw [HWK.out]; exact hst9

theorem walk_any (rows : List (List Int)) (comp : List Int) (st : Nat) (D : Dom rows comp st) (f : Nat) : WkC rows comp st f := by
  induction f with
  | zero =>
    intro I B L rv path s v w hst hG hI hsane htidy hv hvb hfuel hpf hcl
    exfalso
    have h1 : 0 < Pl.openNodes rows.length s := by
      unfold Pl.openNodes
      refine List.countP_pos_iff.2 ⟨v.toNat, by simp; omega, ?_⟩
      have : ((v.toNat : Nat) : Int) = v := by omega
      rw [this, hvb]; rfl
    omega
  | succ f ih => exact walk_step rows comp st D f ih

end Go.Proofs.Qxb6601556a
