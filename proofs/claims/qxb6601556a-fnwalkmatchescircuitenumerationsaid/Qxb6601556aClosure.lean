import Derived.Test.Qxb6601556aReach
namespace Go.Proofs.Qxb6601556a
open Go.RowKit
set_option linter.unusedVariables false
set_option linter.unusedSimpArgs false

structure CS (rows : List (List Int)) (comp : List Int) (st : Nat) (v : Int) (w wr : World) (gs : Nat) (qv : Value) (q : List Int) (i : Nat) : Prop where
  bm : BM w wr gs rows.length q qv
  bq : Pl.BQ (ctxOf rows comp st) rows.length (fun _ => false) v q
  dn : Pl.Done (ctxOf rows comp st) (fun _ => false) q i
structure CI (rows : List (List Int)) (comp : List Int) (st : Nat) (v : Int) (w wr : World) (gs : Nat) (qv : Value) (q : List Int) (i : Nat) (x : Nat) (k : Nat) : Prop where
  rs : CS rows comp st v w wr gs qv q i
  lt : i < q.length
  eq : q.getD i 0 = (x : Int)
  tk : Pl.Took (ctxOf rows comp st) (fun _ => false) q (nextL comp st ((rows.getD x []).take k))

theorem CI.over {rows : List (List Int)} {comp : List Int} {st : Nat} {v : Int} {w wr : World} {gs : Nat} {qv : Value} {q : List Int} {i x k : Nat} (h : CI rows comp st v w wr gs qv q i x k) (hk : (rows.getD x []).length ≤ k) : CS rows comp st v w wr gs qv q (i + 1) := by
  have h1 := h.tk
  rw [List.take_of_length_le hk, ← nx_eq] at h1
  rw [← h.eq] at h1
  exact ⟨h.rs.bm, h.rs.bq, Pl.Took.done h.rs.dn h.lt h1⟩
theorem CI.skip {rows : List (List Int)} {comp : List Int} {st : Nat} {v : Int} {w wr wr' : World} {gs : Nat} {qv : Value} {q : List Int} {i x k : Nat} (h : CI rows comp st v w wr gs qv q i x k) (hb : BM w wr' gs rows.length q qv) (hk : k < (rows.getD x []).length) (hn : okTo comp st ((rows.getD x []).getD k 0) = false) : CI rows comp st v w wr' gs qv q i x (k + 1) := by
  have e : (rows.getD x []).getD k 0 = (rows.getD x [])[k] := getD_at hk
  have e2 : nextL comp st ((rows.getD x []).take (k + 1)) = nextL comp st ((rows.getD x []).take k) := by
    rw [nextL_take_succ _ _ _ _ hk, ← e, hn]; rfl
  exact ⟨⟨hb, h.rs.bq, h.rs.dn⟩, h.lt, h.eq, by rw [e2]; exact h.tk⟩
theorem CI.known {rows : List (List Int)} {comp : List Int} {st : Nat} {v : Int} {w wr wr' : World} {gs : Nat} {qv : Value} {q : List Int} {i x k : Nat} (h : CI rows comp st v w wr gs qv q i x k) (hb : BM w wr' gs rows.length q qv) (hk : k < (rows.getD x []).length) (hn : okTo comp st ((rows.getD x []).getD k 0) = true)
    (hm : (rows.getD x []).getD k 0 = (st : Int) ∨ hasI q ((rows.getD x []).getD k 0) = true) : CI rows comp st v w wr' gs qv q i x (k + 1) := by
  have e : (rows.getD x []).getD k 0 = (rows.getD x [])[k] := getD_at hk
  have e2 : nextL comp st ((rows.getD x []).take (k + 1)) = nextL comp st ((rows.getD x []).take k) ++ [(rows.getD x []).getD k 0] := by
    rw [nextL_take_succ _ _ _ _ hk, ← e, hn]; rfl
  exact ⟨⟨hb, h.rs.bq, h.rs.dn⟩, h.lt, h.eq, by rw [e2]; exact h.tk.step (hm.elim .inl (fun h => .inr (.inr (hasI_true h))))⟩
theorem CI.fresh {rows : List (List Int)} {comp : List Int} {st : Nat} (D : Dom rows comp st) {v : Int} {w wr wr' : World} {gs : Nat} {qv qv' : Value} {q : List Int} {i x k : Nat} (h : CI rows comp st v w wr gs qv q i x k) {y : Int} (hy : (rows.getD x []).getD k 0 = y) (hb : BM w wr' gs rows.length (q ++ [y]) qv') (hk : k < (rows.getD x []).length) (hn : okTo comp st y = true)
    (hs : y ≠ (st : Int)) (hq : hasI q y = false) : CI rows comp st v w wr' gs qv' (q ++ [y]) i x (k + 1) := by
  have e : (rows.getD x []).getD k 0 = (rows.getD x [])[k] := getD_at hk
  have e2 : nextL comp st ((rows.getD x []).take (k + 1)) = nextL comp st ((rows.getD x []).take k) ++ [y] := by
    rw [nextL_take_succ _ _ _ _ hk, ← e, hy, hn]; rfl
  have hmem : y ∈ (ctxOf rows comp st).nx (x : Int) := by
    rw [nx_eq]; unfold nextL
    rw [List.mem_filter]
    exact ⟨by rw [← hy, e]; exact List.getElem_mem hk, hn⟩
  have hxq : (x : Int) ∈ q := by
    rw [← h.eq]
    have : q.getD i 0 = q[i]'h.lt := by simp [h.lt]
    rw [this]; exact List.getElem_mem _
  refine ⟨⟨hb, h.rs.bq.push (ctx_ok D) hxq hmem hs rfl (hasI_false hq), h.rs.dn.push (Nat.le_of_lt h.lt) y⟩, by simp; have := h.lt; omega, ?_, by rw [e2]; exact (h.tk.push y).step (.inr (.inr (by simp)))⟩
  rw [← h.eq]
  simp [List.getD, List.getElem?_append_left h.lt]

set_option maxRecDepth 100000 in
set_option maxHeartbeats 1000000 in
theorem wmClosure_any (bm : Nat) (vR vC : Value) (rv : List Value) (rows : List (List Int)) (comp : List Int) (st : Nat) (D : Dom rows comp st)
    (x : Nat) (w : World) (M : MBox w bm vR vC st rows.length) (G : Graph w vR vC rv rows comp) (hx : x < rows.length) :
    Calls Try.prog 14 #[.pointer (some ⟨bm, 0, none⟩), .int .i64 x] w fun e w' => e = .returned (.slice (some ⟨w.heap.size, 0, none⟩) rows.length rows.length) ∧ ∃ q, OB w' w.heap.size rows.length q ∧ (∀ z, z ∈ q ↔ Pl.Clos (ctxOf rows comp st) x z) ∧ Chg (fun _ => False) w w' := by
  obtain ⟨i0, hi, hz0, hz1, hz2⟩ := info_parts Try.info4
  have hn := D.n
  have HD := hideP D
  have HM := hideP M
  have HG := hideP G
  have c3 := M.c3
  have hxi : (x : Int) < (rows.length : Int) := by omega
  clear G M D
  go_enter Try.func14, Try.ntmps14
  go_wp2_with (at_make; refine wpList_make_full _ rfl _ _ 28 rfl 0 4 i0 (.bool false) 1 Try.underlying28 hi hz0 hz1 _ _ _ _ rows.length rfl rfl (by simp) (by simp) (by rw [hz2]; omega) (by unfold maxLen; omega) (Nat.zero_le _) ?_; intro w1 hown hgrow; have hob : OB w1 w.heap.size rows.length [] := (by rw [seenL_nil] at hown; exact hown); have hcx := hob.cell x hx; have hfx := hob.fz x; clear hown)
  have hch1 : Chg (fun _ => False) w w1 := (Chg.refl _ w).grown hgrow (fun k _ e => by cases e)
  have HS := hideP (BM.start (x := x) hob hch1)
  clear hob hcx hfx hgrow hi hz0 hz1 hz2 c3
  generalize hgs : w.heap.size = gs at *
  go_loopw [6, 7] (fun qv iv wr => ∃ i : Nat, ∃ q : List Int, i ≤ q.length ∧ iv = .int .i64 i ∧ CS rows comp st x w wr gs qv q i) (fun _ iv _ => rows.length - (intOf iv).toNat)
  case atStart =>
    exact ⟨0, _, Nat.zero_le _, rfl, HS.out, Pl.BQ.start _ _ ⟨by omega, hxi⟩, fun z hz => by simp at hz⟩
  case round =>
    clear HS hch1
    obtain ⟨i, q, hiq, rfl, HR⟩ := hrel
    have hql := HR.bq.len
    by_cases hlt : i < q.length
    · obtain ⟨g, cap, rfl, hg, hcq⟩ := HR.bm.oi.at i hlt
      have hci := hcq i hlt
      obtain ⟨xn, hxn, hxl⟩ : ∃ xn : Nat, q.getD i 0 = (xn : Int) ∧ xn < rows.length := by
        have := HR.bq.rg (q.getD i 0) (by rw [getD_at hlt]; exact List.getElem_mem _)
        exact ⟨(q.getD i 0).toNat, by omega, by omega⟩
      rw [hxn] at hci
      have HI : Hid (CI rows comp st x w wr gs (.slice (some ⟨g, 0, none⟩) q.length cap) q i xn 0) := ⟨HR, hlt, hxn, by simp [nextL, Pl.Took]⟩
      obtain ⟨gR, cR, hvR, hgR, hcR⟩ := HG.out.top.at xn (by rw [HG.out.len]; exact hxl)
      have hlen := HG.out.len
      have c0 := HR.bm.chg.cellEq HM.out.c0 (fun h => h)
      rw [hvR] at c0
      have hcR' := HR.bm.chg.cellEq hcR (fun h => h)
      have hrow := HG.out.row xn hxl
      have hxni : (xn : Int) < (rv.length : Int) := by omega
      have hle := HD.out.e xn
      have htt := HD.out.t xn
      generalize hrvv : rv.getD xn (.slice none 0 0) = rvv at *
      obtain ⟨al', cl, rfl, hl1, hl2, hl3, hl4, hl5⟩ := hrow.shape
      generalize hlq : rows.getD xn [] = l at *
      have HLQ := hideP hlq
      have HL5 := hideP hl5
      have HTT := hideP htt
      clear hrvv hlq hrow hl3 hl4 hl5 hcq hxn HR hcR hg hgR hlen hvR htt
      have hii : (i : Int) < (q.length : Int) := by omega
      go_wp2_with fail
      clear hci c0 hcR'
      go_loopw [6, 39, 10] (fun qv kv _ wq => ∃ k : Nat, ∃ q : List Int, k ≤ l.length ∧ kv = .int .i64 k ∧ CI rows comp st x w wq gs qv q i xn k) (fun _ kv _ _ => l.length - (intOf kv).toNat)
      case atStart => exact ⟨0, q, Nat.zero_le _, rfl, HI.out⟩
      case round =>
        clear HI
        obtain ⟨k, q', hkl, rfl, HI⟩ := hrel
        by_cases hk : k < l.length
        · obtain ⟨b, off, rfl, hcell⟩ := HL5.out k hk
          have hcell' := HI.rs.bm.chg.cellEq hcell (fun h => h)
          have hyl : l.getD k 0 < (rows.length : Int) := HTT.out _ (by rw [getD_at hk]; exact List.getElem_mem _)
          clear hcell
          have HI := hideP HI
          generalize hyk : l.getD k 0 = y at *
          have HYK := hideP hyk
          clear hyk
          have hst := HD.out.s
          have hcn := HD.out.cn
          have hcb := HD.out.c
          have HMq := hideP (HM.out.new HI.out.rs.bm.chg)
          have HCq := hideP (HG.out.com.chg HI.out.rs.bm.chg (fun _ _ h => h))
          have hky : k < (rows.getD xn []).length := by rw [HLQ.out]; exact hk
          have HKY := hideP hky
          clear hky
          cases hin : inB comp st rows.length y with
          | false =>
            go_wp2_with (go_at_call 27; refine (wmIn_any bm vR vC comp st rows.length y _ HMq.out HCq.out hst hcn hcb).mono ?_; rintro e w' ⟨rfl, qd, hw'⟩; rw [hin]; have HB' : Hid (BM w w' gs rows.length q' _) := (by rw [hw']; exact hideP (HI.out.rs.bm.drewN qd)); clear hw')
            go_roundw
            case rel => exact ⟨k + 1, q', by omega, by go_num, HI.out.skip HB'.out HKY.out (by rw [HLQ.out, HYK.out, ← inB_okTo hyl]; exact hin)⟩
            case measure => simp [intOf]; omega
          | true =>
            have hok : okTo comp st y = true := by rw [← inB_okTo hyl]; exact hin
            have HOK := hideP hok
            clear hok
            by_cases hys : y = (st : Int)
            · have hyb : (y == (st : Int)) = true := by simp [hys]
              have HYS := hideP hys
              clear hys
              go_wp2_with (go_at_call 27; refine (wmIn_any bm vR vC comp st rows.length y _ HMq.out HCq.out hst hcn hcb).mono ?_; rintro e w' ⟨rfl, qd, hw'⟩; rw [hin]; have HB' : Hid (BM w w' gs rows.length q' _) := (by rw [hw']; exact hideP (HI.out.rs.bm.drewN qd)); have c2 := HB'.out.chg.cellEq HM.out.c2 (fun h => h); clear hw')
              go_roundw
              case rel => exact ⟨k + 1, q', by omega, by go_num, HI.out.known HB'.out HKY.out (by rw [HLQ.out, HYK.out]; exact HOK.out) (.inl (by rw [HLQ.out, HYK.out]; exact HYS.out))⟩
              case measure => simp [intOf]; omega
            · have hyb : (y == (st : Int)) = false := by simp [hys]
              have HYS := hideP hys
              clear hys
              have hy0 : 0 ≤ y := by
                have := HOK.out
                simp only [okTo, Bool.and_eq_true, decide_eq_true_eq] at this
                omega
              obtain ⟨yn, rfl⟩ := Int.eq_ofNat_of_zero_le hy0
              have hyn : yn < rows.length := by omega
              cases hsq : hasI q' (yn : Int) with
              | true =>
                go_wp2_with (go_at_call 27; refine (wmIn_any bm vR vC comp st rows.length yn _ HMq.out HCq.out hst hcn hcb).mono ?_; rintro e w' ⟨rfl, qd, hw'⟩; rw [hin]; have HB' : Hid (BM w w' gs rows.length q' _) := (by rw [hw']; exact hideP (HI.out.rs.bm.drewN qd)); have c2 := HB'.out.chg.cellEq HM.out.c2 (fun h => h); have hcs := HB'.out.ob.cell yn hyn; rw [hsq] at hcs; clear hw')
                go_roundw
                case rel => exact ⟨k + 1, q', by omega, by go_num, HI.out.known HB'.out HKY.out (by rw [HLQ.out, HYK.out]; exact HOK.out) (.inr (by rw [HLQ.out, HYK.out]; exact hsq))⟩
                case measure => simp [intOf]; omega
              | false =>
                have hq'l := HI.out.rs.bq.len
                go_wp2_with (first
                  | (go_at_call 27; refine (wmIn_any bm vR vC comp st rows.length yn _ HMq.out HCq.out hst hcn hcb).mono ?_; rintro e w' ⟨rfl, qd, hw'⟩; rw [hin]; have HB' : Hid (BM w w' gs rows.length q' _) := (by rw [hw']; exact hideP (HI.out.rs.bm.drewN qd)); have c2 := HB'.out.chg.cellEq HM.out.c2 (fun h => h); have hcs := HB'.out.ob.cell yn hyn; rw [hsq] at hcs; have hfs := HB'.out.ob.fz yn; clear hw')
                  | (at_builtin; refine wpList_append_oi rfl _ _ rfl _ _ rfl (HB'.out.mid yn) w'.heap.size yn 1 rfl (by have := heap_alloc_new (w'.setCell ⟨gs, yn, none⟩ (.bool true)) (.cells #[.int .i64 (yn : Int)] 3); simpa using this) (by omega) ?_; intro g2 cap2 w2 hoi2 hgr2 hlies2))
                go_roundw
                case rel => exact ⟨k + 1, q' ++ [(yn : Int)], by omega, by go_num, HI.out.fresh HD.out (by rw [HLQ.out, HYK.out]) (HB'.out.push hoi2 hgr2 hlies2) HKY.out HOK.out HYS.out hsq⟩
                case measure => simp [intOf]; omega
        · go_wp2_with fail
          go_roundw
          case rel => exact ⟨i + 1, q', by have := HI.lt; omega, by go_num, HI.over (by rw [HLQ.out]; omega)⟩
          case measure =>
            have := HI.lt
            have := HI.rs.bq.len
            simp [intOf]; omega
    · obtain ⟨aq, cq, rfl, -, -, -, -, -⟩ := HR.bm.oi.shape
      go_wp2_with fail
      go_ret
      obtain rfl : i = q.length := by omega
      subst hgs
      exact ⟨rfl, q, HR.bm.ob, fun z => Pl.clos_iff HR.bq HR.dn z, HR.bm.chg⟩

end Go.Proofs.Qxb6601556a
