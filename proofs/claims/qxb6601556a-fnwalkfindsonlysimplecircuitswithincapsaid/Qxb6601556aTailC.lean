import Derived.Test.Qxb6601556aSuf
import Derived.Deep.DeepCutAuto
namespace Go.Proofs.Qxb6601556a
open Go.RowKit
set_option linter.unusedVariables false
set_option linter.unusedSimpArgs false

set_option maxRecDepth 1000000 in
set_option maxHeartbeats 16000000 in
theorem law4_tail42 (u6 u7 u8 u9 u10 u11 u12 u15 u16 u17 u19 u20 u21 u23 u24 u25 u26 u28 u29 u30 u31 u32 u33 u34 u35 u36 u37 u38 u39 u40 u41 u42 u43 u44 u45 u46 u47 u48 u49 u50 u51 u52 u53 u54 u55 u56 u57 u58 u59 u60 u61 u62 u63 u64 u65 u66 u67 u68 u69 u70 u71 u72 u73 u74 u75 u76 u77 u78 u79 u80 u81 u82 u83 u84 u85 u86 u87 u88 u89 u90 u91 u92 u93 u94 u95 u96 u97 u98 u99 u100 u101 u102 u103 u104 u105 u106 u107 u108 u109 u110 u111 u112 u113 u114 u115 u116 u117 u118 u119 u120 u121 u122 u123 u124 u125 u126 u127 u128 u129 u130 u131 u132 u133 u134 u135 u136 u137 u138 u139 u140 u141 u142 u143 u144 u145 u146 u147 u148 u149 u150 u151 u152 u153 u154 u155 u156 u157 u158 u159 u160 u161 u162 u163 u164 u165 u166 u167 u168 u169 u170 u171 u172 u173 u174 u175 u176 u177 u178 u179 u180 u181 u182 u183 u184 u185 u186 u187 u188 u189 u190 u191 u192 u193 u194 u195 u196 u197 u198 u199 u200 u201 u202 u203 u204 u205 u206 u207 u208 u209 u210 u211 u212 u213 u214 u215 u216 u217 u218 u219 u220 u221 u222 u223 u224 u225 u226 u227 u228 u229 u230 u231 u232 u233 u234 u235 u236 u237 u238 u239 u240 u241 u242 u243 u244 u245 u246 u247 u248 u249 u250 u251 u252 u253 u254 u255 u256 u257 u258 u259 u260 u261 u262 u263 u264 u265 u266 u267 u268 : Value) (R C circ : List (List Int)) (comp path : List Int) (v : Int) (stn bm : Nat) (aR aC aK aP aO ap : Option Addr) (cR cC cK cP cOc cp : Nat) (rv kv ro : List Value) (w w8 w9 : World)
    (d1 : R.length ≤ 256) (d2 : comp.length ≤ 4096) (d3 : C.length ≤ 4096) (d4 : path.length ≤ 4096) (d7 : 0 ≤ (stn : Int) ∧ (stn : Int) < (R.length : Int)) (d8 : 0 ≤ v ∧ v < (R.length : Int)) (d9 : R.length ≤ comp.length)
    (f1 : C.length ≤ circ.length) (f2 : circ.length ≤ max 64 C.length) (fd : Bool) (HFC : Hid (Facts R comp stn C path v fd circ)) (HDD : Hid (Dom R comp stn))
    (HRD : Hid (Ready w8 0 (.slice aR R.length cR) (.slice aC comp.length cC) (.slice aK C.length cK) (.slice aP path.length cP) rv kv R comp C path bm stn (.slice aO circ.length cOc) (.slice ap path.length cp) ro circ))
    (hb8 : Below w.heap.size w w8) (hdr : Drawn w8 w9) (rf : Bool) (HDUP : Hid (rf = true → ∀ i j, C.length ≤ i → i < j → j < circ.length → circ.getD i [] ≠ circ.getD j [])) :
    Code.wp Try.prog ((Try.f4.body.bind (suffix 42)).getD .skip) (bodyPost Try.prog Try.f4 fun e w' => e = .returned (.bool true) ∧ Below w.heap.size w w') ⟨#[.slice aR R.length cR, .slice aC comp.length cC, .slice aK C.length cK, .int .i64 stn, .slice aP path.length cP, .int .i64 v, u6, u7, u8, u9, u10, u11, u12, .int .i64 R.length, .pointer (some ⟨bm, 0, none⟩), u15, u16, u17, .slice aO circ.length cOc, u19, u20, u21, .bool rf, u23, u24, u25, u26, .int .i64 path.length, u28, u29, u30, u31, u32, u33, u34, u35, u36, u37, u38, u39, u40, u41, u42, u43, u44, u45, u46, u47, u48, u49, u50, u51, u52, u53, u54, u55, u56, u57, u58, u59, u60, u61, u62, u63, u64, u65, u66, u67, u68, u69, u70, u71, u72, u73, u74, u75, u76, u77, u78, u79, u80, u81, u82, u83, u84, u85, u86, u87, u88, u89, u90, u91, u92, u93, u94, u95, u96, u97, u98, u99, u100, u101, u102, u103, u104, u105, u106, u107, u108, u109, u110, u111, u112, u113, u114, u115, u116, u117, u118, u119, u120, u121, u122, u123, u124, u125, u126, u127, u128, u129, u130, u131, u132, u133, u134, u135, u136, u137, u138, u139, u140, u141, u142, u143, u144, u145, u146, u147, u148, u149, u150, u151, u152, u153, u154, u155, u156, u157, u158, u159, u160, u161, u162, u163, u164, u165, u166, u167, u168, u169, u170, u171, u172, u173, u174, u175, u176, u177, u178, u179, u180, u181, u182, u183, u184, u185, u186, u187, u188, u189, u190, u191, u192, u193, u194, u195, u196, u197, u198, u199, u200, u201, u202, u203, u204, u205, u206, u207, u208, u209, u210, u211, u212, u213, u214, u215, u216, u217, u218, u219, u220, u221, u222, u223, u224, u225, u226, u227, u228, u229, u230, u231, u232, u233, u234, u235, u236, u237, u238, u239, u240, u241, u242, u243, u244, u245, u246, u247, u248, u249, u250, u251, u252, u253, u254, u255, u256, u257, u258, u259, u260, u261, u262, u263, u264, u265, u266, u267, u268], []⟩ w9 := by
  conv => arg 2; whnf
  go_wp2_with fail
  have hdn := d1
  go_loopw [28] (fun i wr => ∃ k : Nat, C.length ≤ k ∧ k ≤ circ.length ∧ i = .int .i64 k ∧ Chg (fun _ => False) w8 wr) (fun i _ => circ.length - (intOf i).toNat)
  case atStart => exact ⟨C.length, Nat.le_refl _, f1, rfl, hdr.chg⟩
  case round =>
    clear hdr
    obtain ⟨k5, hk50, hk5, rfl, hch⟩ := hrel
    by_cases hlt5 : k5 < circ.length
    · obtain ⟨t, CF⟩ := circle_form HDD.out d8 (HFC.out.form k5 hk50 hlt5)
      obtain ⟨gO, A1, C1, rfl, hc1, -, ho8⟩ := HRD.out.outTab.at k5 hlt5
      replace hc1 := hch.cellEq hc1 (fun h => h)
      have ho1 := ho8.chg hch (fun _ _ h => h)
      have hgs8 := hch.size
      have hcl := CF.len
      have htl := CF.tl
      have htp := CF.pos
      obtain ⟨gc, rfl, hC1, hv0, hvl, hrp, hcells⟩ := circle_cells CF ho1
      rw [hcl] at hc1
      have HCF := hideP CF
      have HCE := hideP hcells
      have HO8 := hideP ho8
      clear CF hcells hcl ho1 ho8
      obtain ⟨aP9, cP9, hpe, -, -, -, -, hrp2⟩ := (HRD.out.p.chg hch (fun _ _ h => h)).shape
      cases hpe
      have i1 : (0 : Int) ≤ (path.length : Int) := by omega
      have i2 : (path.length : Int) ≤ (C1 : Int) := by omega
      have i3 : (path.length : Int) < ((path.length + t.length + 1 : Nat) : Int) := by omega
      have hvv : (v != v) = false := by simp
      have hss : ((stn : Int) != (stn : Int)) = false := by simp
      obtain ⟨i0, hi, hz0, hz1, hz2⟩ := info_parts Try.info4
      go_wp2_with (first
        | (go_at_call 13; refine (sameInts_eq (some ⟨gc, 0, none⟩) aP path.length C1 cP path _ rfl hrp hrp2 (by omega)).mono ?_; rintro e w9 ⟨rfl, q, hw9⟩; rw [hw9]; clear hw9)
        | (at_make; refine wpList_make_full _ rfl _ _ 28 rfl 0 4 i0 (.bool false) 1 Try.underlying28 hi hz0 hz1 _ _ _ _ R.length rfl rfl (by simp) (by simp) (by rw [hz2]; omega) (by unfold maxLen; omega) (Nat.zero_le _) ?_; intro w10 hown hgrow))
      have hob : OB w10 wr.heap.size R.length [] := by
        rw [seenL_nil] at hown
        exact hown
      have hch10 : Chg (fun _ => False) w8 w10 := (hch.drewN q).grown hgrow (fun k _ e => by cases e)
      clear hown hgrow hrp hrp2 hv0 hvl hc1 hch HCE
      generalize wr.heap.size = gs at *
      go_loopw [31, 32] (fun j _ wx => ∃ jj : Nat, jj ≤ t.length ∧ j = .int .i64 ((path.length + jj : Nat) : Int) ∧ OB wx gs R.length (t.take jj) ∧ Chg (fun _ => False) w8 wx) (fun j _ _ => path.length + t.length - (intOf j).toNat)
      case atStart => exact ⟨0, Nat.zero_le _, by simp, by simpa using hob, hch10⟩
      case round =>
        clear hob hch10
        obtain ⟨jj, hjj, rfl, hob, hchx⟩ := hrel
        obtain ⟨gc', hgc, -, -, -, -, hcx⟩ := circle_cells HCF.out (HO8.out.chg hchx (fun _ _ h => h))
        cases hgc
        by_cases hlt6 : jj < t.length
        · obtain ⟨hx1, hx2⟩ := hcx jj hlt6
          have hxr := HCF.out.rg jj hlt6
          have hxe := HCF.out.ed jj hlt6
          have hxf := HCF.out.fresh jj hlt6
          have hxn := HCF.out.ns jj
          have HTT : Hid (t.take (jj + 1) = t.take jj ++ [t.getD jj 0]) := by
            show t.take (jj + 1) = _
            rw [List.take_succ_eq_append_getElem hlt6]; simp [hlt6]
          clear hcx
          generalize (t ++ [(stn : Int)]).getD (jj + 1) 0 = y at *
          generalize t.getD jj 0 = x at *
          obtain ⟨xn, rfl⟩ := Int.eq_ofNat_of_zero_le hxr.1
          rw [Int.toNat_natCast] at hxe
          have hsx := hob.cell xn (by omega)
          have hsf := hob.fz xn
          rw [hxf] at hsx
          have hGx : Graph wr (.slice aR R.length cR) (.slice aC comp.length cC) rv R comp := HRD.out.g.chg hchx (fun _ _ h => h) (fun _ _ h => h) (fun _ _ _ _ h => h)
          have hMx : MBox wr bm (.slice aR R.length cR) (.slice aC comp.length cC) stn R.length := ⟨hchx.cellEq HRD.out.m.c0 (fun h => h), hchx.cellEq HRD.out.m.c1 (fun h => h), hchx.cellEq HRD.out.m.c2 (fun h => h), hchx.cellEq HRD.out.m.c3 (fun h => h)⟩
          have HGX := hideP hGx
          have HMX := hideP hMx
          have HXE := hideP hxe
          clear hGx hMx hxe hxf
          have j1 : (0 : Int) ≤ (xn : Int) := by omega
          have j2 : (xn : Int) < (R.length : Int) := by omega
          have hstn : stn < R.length := by omega
          have hxs : 0 < jj → ((xn : Int) == (stn : Int)) = false := fun h => by
            have := hxn h hlt6
            simpa using this
          clear hxn
          by_cases hj0 : 0 < jj
          all_goals
            first | replace hxs := hxs hj0 | clear hxs
            go_wp2_with (go_at_call 16; refine (wmEdge_any bm (.slice aR R.length cR) (.slice aC comp.length cC) rv R comp stn xn y _ HMX.out HGX.out hstn (by omega) (by omega) (by omega) (HDD.out.e xn)).mono ?_; rintro e w9 ⟨rfl, q2, hw9⟩; rw [hw9, HXE.out]; clear hw9)
            go_roundw
            case rel =>
              refine ⟨jj + 1, by omega, by go_num, ?_, (hchx.drewN q2).setCell (fun h => by simp at h; omega) _⟩
              rw [HTT.out]
              exact (hob.drewN q2).set xn
            case measure => simp [intOf]; omega
        · obtain rfl : jj = t.length := by omega
          clear hcx hob
          cases rf
          · go_wp2_with fail
            go_roundw
            case rel => exact ⟨k5 + 1, by omega, by omega, by go_num, hchx⟩
            case measure => simp [intOf]; omega
          · go_wp2_with fail
            go_loopw [33] (fun j wy => ∃ jx : Nat, C.length ≤ jx ∧ jx ≤ k5 ∧ j = .int .i64 jx ∧ Chg (fun _ => False) w8 wy) (fun j _ => k5 - (intOf j).toNat)
            case atStart => exact ⟨C.length, Nat.le_refl _, hk50, rfl, hchx⟩
            case round =>
              clear hchx
              obtain ⟨jx, hjx0, hjx1, rfl, hchy⟩ := hrel
              by_cases hlt7 : jx < k5
              · obtain ⟨tx, CFx⟩ := circle_form HDD.out d8 (HFC.out.form jx hjx0 (by omega))
                have hclx := CFx.len
                have htlx := CFx.tl
                obtain ⟨gO', A2, C2, hgo, hc2, hr2, -⟩ := HRD.out.outTab.at jx (by omega)
                cases hgo
                replace hc2 := hchy.cellEq hc2 (fun h => h)
                replace hr2 := hr2.chg hchy (fun _ _ h => h)
                obtain ⟨aqq, cqq, hqq, -, -, -, -, hr1⟩ := (HO8.out.chg hchy (fun _ _ h => h)).shape
                cases hqq
                have hne : sameI (circ.getD jx []) (circ.getD k5 []) = false := by
                  simp only [sameI]
                  exact decide_eq_false (HDUP.out (by first | rfl | trivial) jx k5 hjx0 hlt7 hlt5)
                have HNE := hideP hne
                have hclk := HCF.out.len
                have HCK := hideP hclk
                have HC2 : Hid ((circ.getD jx []).length ≤ 1000000) := by show _ ≤ _; omega
                clear hne CFx hclx htlx hclk
                generalize circ.getD jx [] = cx at *
                have hj7 : (jx : Int) < (circ.length : Int) := by omega
                go_wp2_with (go_at_call 13; refine (sameInts_any A2 (some ⟨gc, 0, none⟩) cx.length (path.length + t.length + 1) C2 C1 cx (circ.getD k5 []) _ rfl HCK.out hr2 hr1 (by have := HC2.out; omega) (by omega)).mono ?_; rintro e w9 ⟨rfl, q3, hw9⟩; rw [hw9, HNE.out]; clear hw9)
                go_roundw
                case rel => exact ⟨jx + 1, by omega, by omega, by go_num, hchy.drewN q3⟩
                case measure => simp [intOf]; omega
              · go_wp2_with fail
                go_roundw
                case rel => exact ⟨k5 + 1, by omega, by omega, by go_num, hchy⟩
                case measure => simp [intOf]; omega
    · go_wp2_with fail
      go_ret
      exact ⟨rfl, hb8.trans (hch.below hb8.size (fun _ h => h.elim))⟩

end Go.Proofs.Qxb6601556a
