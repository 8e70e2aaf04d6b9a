import Derived.Test.Qxb6601556aSrch2
import Derived.Test.Qxb6601556aWait
namespace Go.Proofs.Qxb6601556a
open Go.RowKit
set_option linter.unusedVariables false
set_option linter.unusedSimpArgs false

theorem blk_step {v v' : Value} {m N : Nat} (h : ∀ b, v'.ownBlock = some b → v.ownBlock = some b ∨ b = m) (hv : ∀ b, v.ownBlock = some b → N ≤ b) (hm : N ≤ m) : ∀ b, v'.ownBlock = some b → N ≤ b := fun b hb => by
  rcases h b hb with h | h
  · exact hv b h
  · omega
theorem blk_step2 {v : Value} {g m N : Nat} (h : v.ownBlock = some g ∨ g = m) (hv : ∀ b, v.ownBlock = some b → N ≤ b) (hm : N ≤ m) : N ≤ g := by
  rcases h with h | h
  · exact hv g h
  · omega
theorem wpList_append_ov {w : World} {ops : Array Oper} {rest : List Oper} {o : Oper} {a : Act} {Q : Exit → Act → World → Prop} (hgd : o.guard = none) (s x : Operand) (ho : o.op = .call { callee := .builtin .append, args := #[s, x], argTypes := #[22, 22] })
    (v : Value) (l : List Value) (hs : a.eval s = v) (hoi : OV w v l) (B : Nat) (y : Value) (hy : y.oneCell' = true) (c : Nat) (hx : a.eval x = .slice (some ⟨B, 0, none⟩) 1 c) (hB : w.heap[B]? = some (.cells #[y] 23 (0, 0))) (hlen : l.length ≤ 1000000000)
    (h : ∀ g cap w', OV w' (.slice (some ⟨g, 0, none⟩) (l.length + 1) cap) (l ++ [y]) → w.grownBy w' v.ownBlock → (v.ownBlock = some g ∨ g = w.heap.size) → wpList Try.prog ops Q rest (a.put o.dst (.slice (some ⟨g, 0, none⟩) (l.length + 1) cap)) w') :
    wpList Try.prog ops Q (o :: rest) a w := by
  obtain ⟨i0, hi, hz0, hz1, hz2⟩ := info_parts Try.info23
  refine wpList_append_lies w hgd s x 22 ho 0 23 i0 (.slice none 0 0) 1 24 Try.underlying22 hi hz0 hz1 hz2 rfl (by decide) v l.length l hs hoi ⟨B, 0, none⟩ 1 c [y] hx rfl (World.news_of_block hB) (by intro u hu; simp at hu; subst hu; exact hy) (by decide) (by unfold maxLen; omega) (by omega) (Nat.zero_le _) w.heap.size rfl ?_
  intro g cap w' h1 h2 h3 h4
  exact h g cap w' (by simpa [OV] using h1) h2 h3

theorem SS.add3 {I : Nat → Prop} {w w6 w8 : World} {B : SB} {L : SL} {st n : Nat} {pfx : List Int} {bud : Nat} {wkd c : List Int} {out : List (List Int)} (h : SS I w B L st n pfx bud wkd out) {g6 m cap6 g8 cp8 : Nat} (hc6 : Chg (fun _ => False) w w6) (hb6 : w.heap.size ≤ g6)
    (hoi6 : OI w6 (.slice (some ⟨g6, 0, none⟩) m cap6) c) (hov8 : OV w8 (.slice (some ⟨g8, 0, none⟩) (L.ors.length + 1) cp8) (L.ors ++ [.slice (some ⟨g6, 0, none⟩) m cap6])) (hg8 : (w6.alloc (.cells #[.slice (some ⟨g6, 0, none⟩) m cap6] 23)).grownBy w8 L.ov.ownBlock)
    (hl8 : L.ov.ownBlock = some g8 ∨ g8 = (w6.alloc (.cells #[.slice (some ⟨g6, 0, none⟩) m cap6] 23)).heap.size) :
    (w8.cell? ⟨B.bm, 8, none⟩ = some L.ov ∧ ∀ i, w8.frozen? ⟨B.bm, i, none⟩ = false) ∧
    SS I (w8.setCell ⟨B.bm, 8, none⟩ (.slice (some ⟨g8, 0, none⟩) (L.ors.length + 1) cp8)) B { L with ov := .slice (some ⟨g8, 0, none⟩) (L.ors.length + 1) cp8, ors := L.ors ++ [.slice (some ⟨g6, 0, none⟩) m cap6] } st n pfx bud wkd (out ++ [c]) ∧
    Chg (SMut B L) w (w8.setCell ⟨B.bm, 8, none⟩ (.slice (some ⟨g8, 0, none⟩) (L.ors.length + 1) cp8)) ∧ (∀ b, SMut B { L with ov := .slice (some ⟨g8, 0, none⟩) (L.ors.length + 1) cp8, ors := L.ors ++ [.slice (some ⟨g6, 0, none⟩) m cap6] } b → SMut B L b ∨ w.heap.size ≤ b) := by
  have hc8 : Chg (fun b => L.ov.ownBlock = some b) w w8 := ((hc6.alloc _).mono (fun _ _ h => h.elim)).grown hg8 (fun k _ e => e)
  have hs6 := hc6.size
  refine h.add hc8 ?_ (fun b hb => by simp [Value.ownBlock] at hb; omega) hov8 ?_
  · refine hoi6.same fun b hb => ?_
    have hlt6 := hoi6.lt b hb
    simp [Value.ownBlock] at hb
    subst hb
    refine (hg8.block _ (by simp; omega) (fun e => ?_)).trans (Below.heap_alloc _ _ _ hlt6)
    have := h.ou.lt _ e.symm
    omega
  · rcases hl8 with h | h
    · exact .inl h
    · right; simp at h; omega

set_option maxRecDepth 100000 in
set_option maxHeartbeats 2000000 in
theorem srch_step (rows : List (List Int)) (comp : List Int) (st : Nat) (D : Dom rows comp st) (rb : List Int → Int → Bool) (hrb : ∀ wkd w, rb wkd w = true ↔ Pl.Reach (ctxOf rows comp st) (fun y => wkd.contains y) w) (bud f : Nat) (ih : SrC rows comp st rb bud f) : SrC rows comp st rb bud (f + 1) := by
  intro I B L rv pfx wkd out x w hSS hG hGI hnd hrg hx hfs hpl hbud hol
  obtain ⟨xn, rfl⟩ := Int.eq_ofNat_of_zero_le (hrg x hx).1
  have hxn : xn < rows.length := by have := (hrg _ hx).2; omega
  have hxni : (xn : Int) < (rv.length : Int) := by rw [hG.len]; omega
  have IH := hideP ih
  have HRB := hideP hrb
  have HD := hideP D
  have hwl : wkd.length ≤ rows.length := Pl.nodup_bound hnd hrg
  have hn := D.n
  have HG := hideP hG
  have HGI := hideP hGI
  have HSS := hideP hSS
  have HND := hideP hnd
  have HRG := hideP hrg
  have c0 := hSS.mb.c0
  obtain ⟨gR, cR, hvR, hgR, hcR⟩ := hG.top.at xn (by rw [hG.len]; exact hxn)
  rw [hvR] at c0
  have hrow := hG.row xn hxn
  have hle := D.e xn
  have htt := D.t xn
  have hlI : ∀ b, (rv.getD xn (.slice none 0 0)).ownBlock = some b → I b := hGI.row xn
  have HNX : Hid (Pl.srch (ctxOf rows comp st) pfx bud rb (f + 1) wkd out xn = srF (ctxOf rows comp st) pfx bud rb f wkd out (nextL comp st (rows.getD xn []))) := rfl
  generalize hrvv : rv.getD xn (.slice none 0 0) = rvv at *
  obtain ⟨al, cl, rfl, hl1, hl2, -, -, -⟩ := hrow.shape
  generalize hlq : rows.getD xn [] = l at *
  have HROW := hideP hrow
  have HLI := hideP hlI
  have HTT := hideP htt
  clear hrvv hlq hrow hlI htt ih hrb D hG hGI hSS hnd hrg hgR hvR
  have hst := HD.out.s
  have hcn := HD.out.cn
  have hcb := HD.out.c
  go_enter Try.func11, Try.ntmps11
  go_wp2_with fail
  clear c0 hcR
  go_loopw [15, 5, 6] (fun kv _ _ wr => ∃ k : Nat, ∃ L' : SL, k ≤ l.length ∧ kv = .int .i64 k ∧ SS I wr B L' st rows.length pfx bud wkd (srF (ctxOf rows comp st) pfx bud rb f wkd out (nextL comp st (l.take k))) ∧ Chg (SMut B L) w wr ∧ ∀ b, SMut B L' b → SMut B L b ∨ w.heap.size ≤ b) (fun kv _ _ _ => l.length - (intOf kv).toNat)
  case atStart => exact ⟨0, L, Nat.zero_le _, rfl, HSS.out, Chg.refl _ _, fun b hb => .inl hb⟩
  case round =>
    obtain ⟨k, L', hkl, rfl, hSk, hck, hmk⟩ := hrel
    by_cases hk : k < l.length
    · have hrk := HROW.out.chg hck (fun b hb => (HSS.out.si b (HLI.out b hb)).2)
      obtain ⟨al', cl', hse, -, -, -, -, hl5⟩ := hrk.shape
      cases hse
      obtain ⟨b, off, rfl, hcell⟩ := hl5 k hk
      have hyl : l.getD k 0 < (rows.length : Int) := HTT.out _ (by rw [getD_at hk]; exact List.getElem_mem _)
      have HF0 : Hid (bud ≤ (srF (ctxOf rows comp st) pfx bud rb f wkd out (nextL comp st (l.take k))).length → srF (ctxOf rows comp st) pfx bud rb f wkd out (nextL comp st l) = srF (ctxOf rows comp st) pfx bud rb f wkd out (nextL comp st (l.take k))) := by
        intro hb
        have e : nextL comp st l = nextL comp st (l.take k) ++ nextL comp st (l.drop k) := by
          unfold nextL; rw [← List.filter_append, List.take_append_drop]
        rw [e]; exact srF_full _ _ _ _ _ _ _ _ _ hb
      have HF1 := hideP (srF_skip comp st (ctxOf rows comp st) pfx bud rb f wkd out l k hk)
      have HF2 := hideP (srF_step comp st (ctxOf rows comp st) pfx bud rb f wkd out l k hk)
      clear hrk hl5
      generalize l.getD k 0 = y at *
      generalize srF (ctxOf rows comp st) pfx bud rb f wkd out (nextL comp st (l.take k)) = o at *
      have HSk := hideP hSk
      have Hck := hideP hck
      have Hmk := hideP hmk
      obtain ⟨ao, co, hov, -, -, -, -, -⟩ := ownsRow_shape hSk.ou
      rw [hSk.len] at hov
      obtain ⟨c4, c5, c6, c7, c8, fz⟩ := hSk.cell
      have HOV := hideP hov
      rw [hov] at c8
      clear hov hSk hck hmk c4 c5 c6 fz
      by_cases hcap : bud ≤ o.length
      · have hcapi : (bud : Int) ≤ (o.length : Int) := by omega
        go_wp2_with fail
        go_quiet (fail)
        go_wp2_with fail
        refine bodyPost_ret (results_none rfl _ _ _) rfl ?_
        exact ⟨rfl, L', by rw [HNX.out, HF0.out hcap]; exact HSk.out.new ((Chg.refl _ _).drewN _), Hck.out.drewN _, Hmk.out⟩
      · have hcapi : ¬ (bud : Int) ≤ (o.length : Int) := by omega
        have HGK := hideP (HG.out.chg Hck.out (fun b hb => (HSS.out.si b (HGI.out.top b hb)).2) (fun b hb => (HSS.out.si b (HGI.out.com b hb)).2) (fun i _ b hb => (HSS.out.si b (HGI.out.row i b hb)).2))
        cases hin : inB comp st rows.length y with
        | false =>
          have HOK : Hid (okTo comp st y = false) := by rw [← inB_okTo hyl]; exact hideP hin
          go_wp2_with fail
          go_quiet (fail)
          go_wp2_with (go_at_call 27; refine (wmIn_any B.bm B.vR B.vC comp st rows.length y _ (HSk.out.new ((Chg.refl _ _).drewN _)).mb ((HGK.out.new ((Chg.refl _ _).drewN _)).com) hst hcn hcb).mono ?_; rintro e w' ⟨rfl, qd, hw'⟩; rw [hin]; have HC' : Hid (Chg (fun _ => False) wr w') := (by rw [hw']; exact hideP (((Chg.refl _ _).drewN _).drewN qd)); have HS' := hideP (HSk.out.new HC'.out); clear hw')
          have cs := chg_step Hck.out Hmk.out (HC'.out.mono (G := SMut B L') (fun _ _ h => h.elim)) (fun b hb => .inl hb)
          go_roundw
          case rel => exact ⟨k + 1, L', by omega, by go_num, by rw [HF1.out HOK.out]; exact HS'.out, cs.1, cs.2⟩
          case measure => simp [intOf]; omega
        | true =>
          have HOK : Hid (okTo comp st y = true) := by rw [← inB_okTo hyl]; exact hideP hin
          have hy0 : 0 ≤ y := by
            have := HOK.out
            simp only [okTo, Bool.and_eq_true, decide_eq_true_eq] at this
            omega
          obtain ⟨yn, rfl⟩ := Int.eq_ofNat_of_zero_le hy0
          have hyn : yn < rows.length := by omega
          by_cases hys : (yn : Int) = (st : Int)
          · have hyb : ((yn : Int) == (st : Int)) = true := by simp [hys]
            have HYS := hideP hys
            clear hys
            go_wp2_with fail
            go_quiet (fail)
            go_wp2_with (go_at_call 27; refine (wmIn_any B.bm B.vR B.vC comp st rows.length yn _ (HSk.out.new ((Chg.refl _ _).drewN _)).mb ((HGK.out.new ((Chg.refl _ _).drewN _)).com) hst hcn hcb).mono ?_; rintro e w' ⟨rfl, qd, hw'⟩; rw [hin]; have HC' : Hid (Chg (fun _ => False) wr w') := (by rw [hw']; exact hideP (((Chg.refl _ _).drewN _).drewN qd)); have HS' := hideP (HSk.out.new HC'.out); have c2 := HS'.out.mb.c2; clear hw')
            obtain ⟨gw, cw, hwv, hcw⟩ := HSk.out.wk.atc (List.length_pos_of_mem hx)
            obtain ⟨ap, cp, hpv, -, -, -, -, -⟩ := HSk.out.pf.shape
            have c5 := HS'.out.cell.2.1
            have c6 := HS'.out.cell.2.2.1
            rw [hwv] at c5
            rw [hpv] at c6
            have HWV := hideP hwv
            have HPV := hideP hpv
            clear hwv hpv
            obtain ⟨i0, hi, hz0, hz1, hz2⟩ := info_parts Try.info3
            obtain ⟨w3, hrun, r1, r2⟩ := run_make_own (P := Try.prog) w'.drew 0 23 3 i0 (.int .i64 0) 1 Try.underlying23 hi hz0 hz1 .i64 .i64 (pfx.length + wkd.length + 1) (by rw [hz2]; omega) (by unfold maxLen; omega) (Nat.zero_le _)
            have hwlp : 0 < wkd.length := List.length_pos_of_mem hx
            have e1 : ((pfx.length + wkd.length + 1 : Nat) : Int) = (pfx.length : Int) + (wkd.length : Int) + 1 := by omega
            rw [e1] at hrun
            go_region
            have hr1 : OI w3 (.slice (some ⟨w'.heap.size, 0, none⟩) 0 (pfx.length + wkd.length + 1)) [] := r1
            have hsz' := HC'.out.size
            have HC3 := hideP (HC'.out.drew.grown r2 (fun k _ e => by cases e))
            have HS3 := hideP (HSk.out.new HC3.out)
            have hpf3 := HS3.out.pf
            rw [HPV.out] at hpf3
            have hwk3 := HS3.out.wk
            rw [HWV.out] at hwk3
            have c63 := HS3.out.cell.2.2.1
            rw [HPV.out] at c63
            clear c5 c6 hrun r1 r2 hi hz0 hz1 hz2
            go_wp2_with (first
              | (at_builtin; refine wpList_append_row rfl _ _ rfl (.slice (some ⟨w'.heap.size, 0, none⟩) 0 (pfx.length + wkd.length + 1)) (.slice ap pfx.length cp) [] pfx rfl hr1 rfl hpf3 (by simp; omega) ?_; intro v4 w4 hoi4 hgr4 hb4; have HC4 := hideP (HC3.out.grown hgr4 (fun i hi e => by simp [Value.ownBlock] at e; omega)); have HB4 := hideP (blk_step hb4 (fun b hb => by simp [Value.ownBlock] at hb; omega) HC3.out.size); clear hb4 c63; have c54 := (HSk.out.new HC4.out).cell.2.1; rw [HWV.out] at c54; have hwk4 := (HSk.out.new HC4.out).wk; rw [HWV.out] at hwk4; rw [List.nil_append] at hoi4)
              | (at_builtin; refine wpList_append_row rfl _ _ rfl v4 (.slice (some ⟨gw, 0, none⟩) wkd.length cw) pfx wkd rfl hoi4 rfl hwk4 (by omega) ?_; intro v5 w5 hoi5 hgr5 hb5; have HC5 := hideP (HC4.out.grown hgr5 (fun i hi e => by have := HB4.out i e; omega)); have HB5 := hideP (blk_step hb5 HB4.out HC4.out.size); clear hb5 c54; have c25 := (HSk.out.new HC5.out).mb.c2)
              | (at_builtin; refine wpList_append_oi rfl _ _ rfl v5 (pfx ++ wkd) rfl (hoi5.same (fun b hb => Below.heap_alloc _ _ _ (hoi5.lt b hb))) w5.heap.size st 1 rfl (heap_alloc_new _ _) (by simp; omega) ?_; intro g6 cap6 w6 hoi6 hgr6 hl6; have HC6 := hideP ((HC5.out.alloc _).grown hgr6 (fun i hi e => by have := HB5.out i e; omega)); have HB6 := hideP (blk_step2 hl6 HB5.out (by have := HC5.out.size; simp; omega)); clear hl6; have c86 := (HSk.out.new HC6.out).cell.2.2.2.2.1; rw [HOV.out] at c86; rw [List.length_append] at hoi6)
              | (at_builtin; refine wpList_append_ov rfl _ _ rfl L'.ov L'.ors (by rw [HOV.out]; rfl) (HSk.out.ou.chg (HC6.out.alloc (.cells #[.slice (some ⟨g6, 0, none⟩) (pfx.length + wkd.length + 1) cap6] 23)) (fun _ _ h => h)) w6.heap.size (.slice (some ⟨g6, 0, none⟩) (pfx.length + wkd.length + 1) cap6) rfl 1 rfl (heap_alloc_new _ _) (by rw [HSk.out.len]; omega) ?_; intro g8 cp8 w8 hov8 hg8 hl8; obtain ⟨⟨d8, dz⟩, hS9, hc9, hm9⟩ := HSk.out.add3 HC6.out HB6.out hoi6 hov8 hg8 hl8; have dz8 := dz 8; clear dz hov8 hg8 hl8))
            have cs := chg_step Hck.out Hmk.out hc9 hm9
            go_roundw
            case rel =>
              refine ⟨k + 1, _, by omega, by go_num, ?_, cs.1, cs.2⟩
              have e : Pl.srchStep (ctxOf rows comp st) pfx bud rb (Pl.srch (ctxOf rows comp st) pfx bud rb f) wkd o (yn : Int) = o ++ [pfx ++ wkd ++ [(st : Int)]] := by
                have h2 : (yn : Int) = (ctxOf rows comp st).start := HYS.out
                simp only [Pl.srchStep, if_neg hcap, if_pos h2]
                rfl
              rw [HF2.out HOK.out, e]; exact hS9
            case measure => simp [intOf]; omega
          · have hyb : ((yn : Int) == (st : Int)) = false := by simpa using hys
            have HYS := hideP hys
            clear hys
            cases hal : hasI wkd (yn : Int) with
            | true =>
              go_wp2_with fail
              go_quiet (fail)
              go_wp2_with (go_at_call 27; refine (wmIn_any B.bm B.vR B.vC comp st rows.length yn _ (HSk.out.new ((Chg.refl _ _).drewN _)).mb ((HGK.out.new ((Chg.refl _ _).drewN _)).com) hst hcn hcb).mono ?_; rintro e w' ⟨rfl, qd, hw'⟩; rw [hin]; have HC' : Hid (Chg (fun _ => False) wr w') := (by rw [hw']; exact hideP (((Chg.refl _ _).drewN _).drewN qd)); have HS' := hideP (HSk.out.new HC'.out); have c2 := HS'.out.mb.c2; have c4 := HS'.out.cell.1; have hca := HS'.out.ob.cell yn hyn; rw [hal] at hca; clear hw')
              have cs := chg_step Hck.out Hmk.out (HC'.out.mono (G := SMut B L') (fun _ _ h => h.elim)) (fun b hb => .inl hb)
              go_roundw
              case rel =>
                refine ⟨k + 1, L', by omega, by go_num, ?_, cs.1, cs.2⟩
                have e : Pl.srchStep (ctxOf rows comp st) pfx bud rb (Pl.srch (ctxOf rows comp st) pfx bud rb f) wkd o (yn : Int) = o := by
                  have h1 : wkd.contains (yn : Int) = true := hal
                  have h2 : ¬ (yn : Int) = (ctxOf rows comp st).start := HYS.out
                  simp only [Pl.srchStep, if_neg hcap, if_neg h2, h1, if_true]
                rw [HF2.out HOK.out, e]; exact HS'.out
              case measure => simp [intOf]; omega
            | false =>
              cases hr : rb wkd (yn : Int) with
              | false =>
                go_wp2_with fail
                go_quiet (fail)
                go_wp2_with (first
                  | (go_at_call 27; refine (wmIn_any B.bm B.vR B.vC comp st rows.length yn _ (HSk.out.new ((Chg.refl _ _).drewN _)).mb ((HGK.out.new ((Chg.refl _ _).drewN _)).com) hst hcn hcb).mono ?_; rintro e w' ⟨rfl, qd, hw'⟩; rw [hin]; have HC' : Hid (Chg (fun _ => False) wr w') := (by rw [hw']; exact hideP (((Chg.refl _ _).drewN _).drewN qd)); have HS' := hideP (HSk.out.new HC'.out); have c2 := HS'.out.mb.c2; have c4 := HS'.out.cell.1; have hca := HS'.out.ob.cell yn hyn; rw [hal] at hca; clear hw')
                  | (go_at_call 15; refine (wmReaches_any B.bm B.vR B.vC rv rows comp st HD.out rb HRB.out yn B.ga wkd _ HS'.out.mb (HGK.out.new HC'.out) HS'.out.ob hyn).mono ?_; rintro e w2 ⟨rfl, hc2⟩; rw [hr]; have HC2 := hideP (HC'.out.trans hc2 (fun _ _ h => h)); clear hc2 c2 c4 hca))
                have cs := chg_step Hck.out Hmk.out (HC2.out.mono (G := SMut B L') (fun _ _ h => h.elim)) (fun b hb => .inl hb)
                go_roundw
                case rel =>
                  refine ⟨k + 1, L', by omega, by go_num, ?_, cs.1, cs.2⟩
                  have e : Pl.srchStep (ctxOf rows comp st) pfx bud rb (Pl.srch (ctxOf rows comp st) pfx bud rb f) wkd o (yn : Int) = o := by
                    have h1 : wkd.contains (yn : Int) = false := hal
                    have h2 : ¬ (yn : Int) = (ctxOf rows comp st).start := HYS.out
                    simp only [Pl.srchStep, if_neg hcap, if_neg h2, h1, hr, Bool.false_eq_true, if_false]
                  rw [HF2.out HOK.out, e]; exact HSk.out.new HC2.out
                case measure => simp [intOf]; omega
              | true =>
                go_wp2_with fail
                go_quiet (fail)
                go_wp2_with (first
                  | (go_at_call 27; refine (wmIn_any B.bm B.vR B.vC comp st rows.length yn _ (HSk.out.new ((Chg.refl _ _).drewN _)).mb ((HGK.out.new ((Chg.refl _ _).drewN _)).com) hst hcn hcb).mono ?_; rintro e w' ⟨rfl, qd, hw'⟩; rw [hin]; have HC' : Hid (Chg (fun _ => False) wr w') := (by rw [hw']; exact hideP (((Chg.refl _ _).drewN _).drewN qd)); have HS' := hideP (HSk.out.new HC'.out); have c2 := HS'.out.mb.c2; have c4 := HS'.out.cell.1; have hca := HS'.out.ob.cell yn hyn; rw [hal] at hca; clear hw')
                  | (go_at_call 15; refine (wmReaches_any B.bm B.vR B.vC rv rows comp st HD.out rb HRB.out yn B.ga wkd _ HS'.out.mb (HGK.out.new HC'.out) HS'.out.ob hyn).mono ?_; rintro e w2 ⟨rfl, hc2⟩; rw [hr]; have HC2 := hideP (HC'.out.trans hc2 (fun _ _ h => h)); clear hc2 c2 c4 hca; have HS2 := hideP (HSk.out.new HC2.out); have c4 := HS2.out.cell.1; have c5 : (w2.setCell ⟨B.ga, yn, none⟩ (.bool true)).cell? ⟨B.bm, 5, none⟩ = some L'.wv := (World.cell?_of_block (Below.heap_setCell _ _ _ _ (Ne.symm (HS2.out.ob.ne_cells HS2.out.box (by decide))))).trans HS2.out.cell.2.1; have hca := HS2.out.ob.cell yn hyn; have hfa := HS2.out.ob.fz yn)
                  | (at_builtin; refine wpList_append_oi rfl _ _ rfl L'.wv wkd rfl (HS2.out.wk.same (fun b hb => (Below.heap_alloc _ _ _ (by simpa using HS2.out.wk.lt b hb)).trans (Below.heap_setCell _ _ _ _ (fun e => HS2.out.wk.ne_ob HS2.out.ob (by rw [hb, e]))))) w2.heap.size yn 1 rfl (by have := heap_alloc_new (w2.setCell ⟨B.ga, yn, none⟩ (.bool true)) (.cells #[.int .i64 (yn : Int)] 3); simpa using this) (by omega) ?_; intro g3 cap3 w3 hoi3 hgr3 hlies3; obtain ⟨⟨d5, dz⟩, hS3, hc3, hm3⟩ := HS2.out.push hoi3 hgr3 hlies3; have dz5 := dz 5; clear dz c4 c5 hca hfa))
                have HG3 := hideP (HGK.out.chg ((HC2.out.mono (G := SMut B L') (fun _ _ h => h.elim)).trans hc3 (fun b hb h => h)) (fun b hb => (HSk.out.si b (HGI.out.top b hb)).2) (fun b hb => (HSk.out.si b (HGI.out.com b hb)).2) (fun i _ b hb => (HSk.out.si b (HGI.out.row i b hb)).2))
                have hyw : (yn : Int) ∉ wkd := hasI_false hal
                refine (IH.out I B _ rv pfx (wkd ++ [(yn : Int)]) o yn _ hS3 HG3.out HGI.out (by
                    rw [List.nodup_append]
                    exact ⟨HND.out, by simp, fun a ha b hb => by simp at hb; subst hb; intro e; subst e; exact hyw ha⟩) (fun z hz => by
                    rcases List.mem_append.1 hz with hz | hz
                    · exact HRG.out z hz
                    · simp at hz; subst hz; exact ⟨hy0, hyl⟩) (by simp) (by simp; omega) hpl hbud (by omega)).mono ?_
                rintro e w4 ⟨rfl, L4, hS4, hc4, hm4⟩
                have HE : Hid (Pl.srchStep (ctxOf rows comp st) pfx bud rb (Pl.srch (ctxOf rows comp st) pfx bud rb f) wkd o (yn : Int) = Pl.srch (ctxOf rows comp st) pfx bud rb f (wkd ++ [(yn : Int)]) o yn) := by
                  have h1 : wkd.contains (yn : Int) = false := hal
                  have h2 : ¬ (yn : Int) = (ctxOf rows comp st).start := HYS.out
                  show _ = _
                  simp only [Pl.srchStep, if_neg hcap, if_neg h2, h1, hr, Bool.false_eq_true, if_false, if_true]
                generalize Pl.srch (ctxOf rows comp st) pfx bud rb f (wkd ++ [(yn : Int)]) o yn = o4 at *
                obtain ⟨gw, cw, hwv, hcw⟩ := hS4.wk.atc (by simp)
                have HWV4 := hideP hwv
                have e5 := hS4.cell.2.1
                have ez := hS4.cell.2.2.2.2.2 5
                rw [hwv] at e5
                simp only [List.length_append, List.length_singleton] at e5 hcw
                have hpi0 : (0 : Int) ≤ (wkd.length : Int) := by omega
                have hpi : (wkd.length : Int) ≤ (cw : Int) := by omega
                have hwb : wkd.length ≤ 256 := by omega
                have cs1 := chg_step Hck.out Hmk.out (HC2.out.mono (G := SMut B L') (fun _ _ h => h.elim)) (fun b hb => .inl hb)
                have cs2 := chg_step cs1.1 cs1.2 hc3 hm3
                have cs3 := hideP (chg_step cs2.1 cs2.2 hc4 hm4)
                have HS4 := hideP hS4
                clear hwv hS4 cs1 cs2 hc3 hm3 hc4 hm4 hS3 d5 dz5 hoi3 hgr3 hlies3
                go_wp2_with fail
                go_region
                obtain ⟨⟨f4, fc, fzz⟩, hS5, hc5, hm5⟩ := HS4.out.pop hyw HWV4.out (w1 := w4.drew) ((Chg.refl _ _).drew)
                obtain ⟨u, hu⟩ := fc yn hyn
                have hz := fzz yn
                have f4a : (w4.setCell ⟨B.bm, 5, none⟩ (.slice (some ⟨gw, 0, none⟩) wkd.length cw)).cell? ⟨B.bm, 4, none⟩ = some (.slice (some ⟨B.ga, 0, none⟩) rows.length rows.length) := f4
                have hua : (w4.setCell ⟨B.bm, 5, none⟩ (.slice (some ⟨gw, 0, none⟩) wkd.length cw)).cell? ⟨B.ga, yn, none⟩ = some u := hu
                have hza : (w4.setCell ⟨B.bm, 5, none⟩ (.slice (some ⟨gw, 0, none⟩) wkd.length cw)).frozen? ⟨B.ga, yn, none⟩ = false := hz
                clear fc fzz f4 hu hz e5 ez
                go_wp2_with fail
                have cs := chg_step cs3.out.1 cs3.out.2 hc5 hm5
                go_roundw
                case rel => exact ⟨k + 1, _, by omega, by go_num, by rw [HF2.out HOK.out, HE.out]; exact hS5, cs.1, cs.2⟩
                case measure => simp [intOf]; omega
    · go_wp2_with fail
      go_end0
      obtain rfl : k = l.length := by omega
      rw [List.take_length] at hSk
      exact ⟨rfl, L', by rw [HNX.out]; exact hSk, hck, hmk⟩

theorem srch_any (rows : List (List Int)) (comp : List Int) (st : Nat) (D : Dom rows comp st) (rb : List Int → Int → Bool) (hrb : ∀ wkd w, rb wkd w = true ↔ Pl.Reach (ctxOf rows comp st) (fun y => wkd.contains y) w) (bud f : Nat) : SrC rows comp st rb bud f := by
  induction f with
  | zero =>
    intro I B L rv pfx wkd out x w hSS hG hGI hnd hrg hx hfs
    have := Pl.nodup_bound hnd hrg
    omega
  | succ f ih => exact srch_step rows comp st D rb hrb bud f ih

end Go.Proofs.Qxb6601556a
