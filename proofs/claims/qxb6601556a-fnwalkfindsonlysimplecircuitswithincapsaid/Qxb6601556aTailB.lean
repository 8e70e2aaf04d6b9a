import Derived.Test.Qxb6601556aTailC
import Derived.Deep.DeepCutAuto
namespace Go.Proofs.Qxb6601556a
open Go.RowKit
set_option linter.unusedVariables false
set_option linter.unusedSimpArgs false

set_option maxRecDepth 1000000 in
set_option maxHeartbeats 16000000 in
theorem law4_tail23 (u6 u7 u8 u9 u10 u11 u12 u15 u16 u17 u19 u20 u21 u22 u23 u24 u25 u26 u27 u28 u29 u30 u31 u32 u33 u34 u35 u36 u37 u38 u39 u40 u41 u42 u43 u44 u45 u46 u47 u48 u49 u50 u51 u52 u53 u54 u55 u56 u57 u58 u59 u60 u61 u62 u63 u64 u65 u66 u67 u68 u69 u70 u71 u72 u73 u74 u75 u76 u77 u78 u79 u80 u81 u82 u83 u84 u85 u86 u87 u88 u89 u90 u91 u92 u93 u94 u95 u96 u97 u98 u99 u100 u101 u102 u103 u104 u105 u106 u107 u108 u109 u110 u111 u112 u113 u114 u115 u116 u117 u118 u119 u120 u121 u122 u123 u124 u125 u126 u127 u128 u129 u130 u131 u132 u133 u134 u135 u136 u137 u138 u139 u140 u141 u142 u143 u144 u145 u146 u147 u148 u149 u150 u151 u152 u153 u154 u155 u156 u157 u158 u159 u160 u161 u162 u163 u164 u165 u166 u167 u168 u169 u170 u171 u172 u173 u174 u175 u176 u177 u178 u179 u180 u181 u182 u183 u184 u185 u186 u187 u188 u189 u190 u191 u192 u193 u194 u195 u196 u197 u198 u199 u200 u201 u202 u203 u204 u205 u206 u207 u208 u209 u210 u211 u212 u213 u214 u215 u216 u217 u218 u219 u220 u221 u222 u223 u224 u225 u226 u227 u228 u229 u230 u231 u232 u233 u234 u235 u236 u237 u238 u239 u240 u241 u242 u243 u244 u245 u246 u247 u248 u249 u250 u251 u252 u253 u254 u255 u256 u257 u258 u259 u260 u261 u262 u263 u264 u265 u266 u267 u268 : Value) (R C circ : List (List Int)) (comp path : List Int) (v : Int) (stn bm : Nat) (aR aC aK aP aO ap : Option Addr) (cR cC cK cP cOc cp : Nat) (rv kv ro : List Value) (w w8 w9 : World)
    (d1 : R.length ≤ 256) (d2 : comp.length ≤ 4096) (d3 : C.length ≤ 4096) (d4 : path.length ≤ 4096) (d7 : 0 ≤ (stn : Int) ∧ (stn : Int) < (R.length : Int)) (d8 : 0 ≤ v ∧ v < (R.length : Int)) (d9 : R.length ≤ comp.length)
    (f1 : C.length ≤ circ.length) (f2 : circ.length ≤ max 64 C.length) (fd : Bool) (HFC : Hid (Facts R comp stn C path v fd circ)) (HDD : Hid (Dom R comp stn))
    (HRD : Hid (Ready w8 0 (.slice aR R.length cR) (.slice aC comp.length cC) (.slice aK C.length cK) (.slice aP path.length cP) rv kv R comp C path bm stn (.slice aO circ.length cOc) (.slice ap path.length cp) ro circ))
    (hb8 : Below w.heap.size w w8) (hdr : Drawn w8 w9) (HD5 : Hid (∀ i, i < R.length → (R.getD i []).length ≤ 1024)) (HD6 : Hid (∀ i, i < C.length → (C.getD i []).length ≤ 131072)) :
    Code.wp Try.prog ((Try.f4.body.bind (suffix 23)).getD .skip) (bodyPost Try.prog Try.f4 fun e w' => e = .returned (.bool true) ∧ Below w.heap.size w w') ⟨#[.slice aR R.length cR, .slice aC comp.length cC, .slice aK C.length cK, .int .i64 stn, .slice aP path.length cP, .int .i64 v, u6, u7, u8, u9, u10, u11, u12, .int .i64 R.length, .pointer (some ⟨bm, 0, none⟩), u15, u16, u17, .slice aO circ.length cOc, u19, u20, u21, u22, u23, u24, u25, u26, u27, u28, u29, u30, u31, u32, u33, u34, u35, u36, u37, u38, u39, u40, u41, u42, u43, u44, u45, u46, u47, u48, u49, u50, u51, u52, u53, u54, u55, u56, u57, u58, u59, u60, u61, u62, u63, u64, u65, u66, u67, u68, u69, u70, u71, u72, u73, u74, u75, u76, u77, u78, u79, u80, u81, u82, u83, u84, u85, u86, u87, u88, u89, u90, u91, u92, u93, u94, u95, u96, u97, u98, u99, u100, u101, u102, u103, u104, u105, u106, u107, u108, u109, u110, u111, u112, u113, u114, u115, u116, u117, u118, u119, u120, u121, u122, u123, u124, u125, u126, u127, u128, u129, u130, u131, u132, u133, u134, u135, u136, u137, u138, u139, u140, u141, u142, u143, u144, u145, u146, u147, u148, u149, u150, u151, u152, u153, u154, u155, u156, u157, u158, u159, u160, u161, u162, u163, u164, u165, u166, u167, u168, u169, u170, u171, u172, u173, u174, u175, u176, u177, u178, u179, u180, u181, u182, u183, u184, u185, u186, u187, u188, u189, u190, u191, u192, u193, u194, u195, u196, u197, u198, u199, u200, u201, u202, u203, u204, u205, u206, u207, u208, u209, u210, u211, u212, u213, u214, u215, u216, u217, u218, u219, u220, u221, u222, u223, u224, u225, u226, u227, u228, u229, u230, u231, u232, u233, u234, u235, u236, u237, u238, u239, u240, u241, u242, u243, u244, u245, u246, u247, u248, u249, u250, u251, u252, u253, u254, u255, u256, u257, u258, u259, u260, u261, u262, u263, u264, u265, u266, u267, u268], []⟩ w9 := by
  conv => arg 2; whnf
  go_wp2_with fail
  go_loopw [21] (fun i wr => ∃ k : Nat, k ≤ C.length ∧ i = .int .i64 k ∧ Drawn w8 wr) (fun i _ => C.length - (intOf i).toNat)
  case atStart => exact ⟨0, Nat.zero_le _, rfl, hdr⟩
  case round =>
    obtain ⟨k, hk, rfl, hdr⟩ := hrel
    by_cases hlt : k < C.length
    · obtain ⟨gO, A1, C1, rfl, hc1, hr1, -⟩ := HRD.out.outTab.at k (by omega)
      obtain ⟨gK, A2, C2, rfl, hc2, hr2, -⟩ := HRD.out.k.at k hlt
      rw [HFC.out.old k hlt] at hc1 hr1
      have hcl := HD6.out k hlt
      generalize C.getD k [] = cl at *
      replace hc1 := hdr.cell hc1
      replace hc2 := hdr.cell hc2
      replace hr1 := hdr.row hr1
      replace hr2 := hdr.row hr2
      have hti : (k : Int) < (circ.length : Int) := by omega
      have hti' : (k : Int) < (C.length : Int) := by omega
      go_wp2_with fail
      go_quiet ((go_at_call 13; exact Calls.quiet_of (sameInts_eq A1 A2 cl.length C1 C2 cl _ rfl (fun i hi => hr1 i hi) (fun i hi => hr2 i hi) (by omega))))
      go_wp2_with fail
      go_roundw
      case rel => exact ⟨k + 1, by omega, by go_num, hdr.more _⟩
      case measure => simp [intOf]; omega
    · go_wp2_with fail
      go_loopw [22, 23] (fun f x wr => ∃ k : Nat, ∃ rf : Bool, k ≤ R.length ∧ x = .int .i64 k ∧ f = .bool rf ∧ Drawn w8 wr ∧ Hid (rf = true → ∀ j, j < k → (R.getD j []).Nodup)) (fun _ x _ => R.length - (intOf x).toNat)
      case atStart => exact ⟨0, true, Nat.zero_le _, rfl, rfl, hdr, fun _ j hj => by omega⟩
      case round =>
        clear hdr
        obtain ⟨k2, rf, hk2, rfl, rfl, hdr, HN⟩ := hrel
        by_cases hlt2 : k2 < R.length
        · obtain ⟨gR, A1, C1, rfl, hc1, hr1, -⟩ := HRD.out.g.tab.at k2 hlt2
          have hll := HD5.out k2 hlt2
          generalize hlq : R.getD k2 [] = l at *
          have HLQ := hideP hlq
          clear hlq
          replace hc1 := hdr.cell hc1
          go_wp2_with fail
          go_loopw [22, 25] (fun f x wr => ∃ k : Nat, ∃ rf' : Bool, k ≤ l.length ∧ x = .int .i64 k ∧ f = .bool rf' ∧ Drawn w8 wr ∧ Hid (rf' = true → rf = true ∧ ∀ a b, a < k → a < b → b < l.length → l.getD a 0 ≠ l.getD b 0)) (fun _ x _ => l.length - (intOf x).toNat)
          case atStart => exact ⟨0, rf, Nat.zero_le _, rfl, rfl, hdr, fun h => ⟨h, fun a b ha => by omega⟩⟩
          case round =>
            clear hdr hc1
            obtain ⟨k3, rf3, hk3, rfl, rfl, hdr, HN3⟩ := hrel
            by_cases hlt3 : k3 < l.length
            · obtain ⟨b3, o3, hA1, hc3⟩ := hr1 k3 hlt3
              subst hA1
              generalize hxq : l.getD k3 0 = x3 at *
              have HXQ := hideP hxq
              clear hxq
              go_wp2_with fail
              go_loopw [22, 26] (fun f x wr => ∃ k : Nat, ∃ rf' : Bool, k3 + 1 ≤ k ∧ k ≤ l.length ∧ x = .int .i64 k ∧ f = .bool rf' ∧ Drawn w8 wr ∧ Hid (rf' = true → rf3 = true ∧ ∀ b, k3 < b → b < k → x3 ≠ l.getD b 0)) (fun _ x _ => l.length - (intOf x).toNat)
              case atStart => exact ⟨k3 + 1, rf3, Nat.le_refl _, hlt3, by go_num, rfl, hdr, fun h => ⟨h, fun b h1 h2 => by omega⟩⟩
              case round =>
                clear hdr
                obtain ⟨k4, rf4, hk40, hk4, rfl, rfl, hdr, HN4⟩ := hrel
                by_cases hlt4 : k4 < l.length
                · obtain ⟨b4, o4, hA4, hc4⟩ := hr1 k4 hlt4
                  cases hA4
                  generalize hyq : l.getD k4 0 = y4 at *
                  have HYQ := hideP hyq
                  clear hyq
                  have hc3' := hdr.cell hc3
                  have hc4' := hdr.cell hc4
                  have i3 : (k3 : Int) < (l.length : Int) := by omega
                  have i4 : (k4 : Int) < (l.length : Int) := by omega
                  cases hxy : (x3 == y4)
                  · go_wp2_with fail
                    go_quiet (fail)
                    go_wp2_with fail
                    go_roundw
                    case rel =>
                      refine ⟨k4 + 1, rf4, by omega, by omega, by go_num, rfl, hdr.more _, fun h => ⟨(HN4.out h).1, fun b h1 h2 => ?_⟩⟩
                      by_cases e : b = k4
                      · subst e; rw [HYQ.out]; simpa using hxy
                      · exact (HN4.out h).2 b h1 (by omega)
                    case measure => simp [intOf]; omega
                  · go_wp2_with fail
                    go_quiet (fail)
                    go_wp2_with fail
                    go_roundw
                    case rel => exact ⟨k4 + 1, false, by omega, by omega, by go_num, rfl, hdr.more _, fun h => by cases h⟩
                    case measure => simp [intOf]; omega
                · go_wp2_with fail
                  go_roundw
                  case rel =>
                    refine ⟨k3 + 1, rf4, by omega, by go_num, rfl, hdr, fun h => ⟨(HN3.out (HN4.out h).1).1, fun a b h1 h2 h3 => ?_⟩⟩
                    by_cases e : a = k3
                    · subst e; rw [HXQ.out]; exact (HN4.out h).2 b h2 (by omega)
                    · exact (HN3.out (HN4.out h).1).2 a b (by omega) h2 h3
                  case measure => simp [intOf]; omega
            · go_wp2_with fail
              go_roundw
              case rel =>
                refine ⟨k2 + 1, rf3, by omega, by go_num, rfl, hdr, fun h j hj => ?_⟩
                by_cases e : j = k2
                · subst e
                  rw [HLQ.out]
                  exact nodup_pairs fun a b h1 h2 => (HN3.out h).2 a b (by omega) h1 h2
                · exact HN.out (HN3.out h).1 j (by omega)
              case measure => simp [intOf]; omega
        · obtain rfl : k2 = R.length := by omega
          have HDUP : Hid (rf = true → ∀ i j, C.length ≤ i → i < j → j < circ.length → circ.getD i [] ≠ circ.getD j []) := fun h => HFC.out.dup (nodup_next (HN.out h))
          clear HN
          go_upto_region 41 with fail
          go_cut [27] (fun l wc => wc = wr ∧ l = .int .i64 path.length)
          case first =>
            go_wp2_with fail
            go_meet
            case rel => exact ⟨rfl, rfl⟩
          case rest =>
            obtain ⟨rfl, rfl⟩ := hcut
            rename_i K hK
            refine hK _ _ ?_
            exact law4_tail42 _ _ _ _ _ _ _ _ _ _ _ _ _ _ _ _ _ _ _ _ _ _ _ _ _ _ _ _ _ _ _ _ _ _ _ _ _ _ _ _ _ _ _ _ _ _ _ _ _ _ _ _ _ _ _ _ _ _ _ _ _ _ _ _ _ _ _ _ _ _ _ _ _ _ _ _ _ _ _ _ _ _ _ _ _ _ _ _ _ _ _ _ _ _ _ _ _ _ _ _ _ _ _ _ _ _ _ _ _ _ _ _ _ _ _ _ _ _ _ _ _ _ _ _ _ _ _ _ _ _ _ _ _ _ _ _ _ _ _ _ _ _ _ _ _ _ _ _ _ _ _ _ _ _ _ _ _ _ _ _ _ _ _ _ _ _ _ _ _ _ _ _ _ _ _ _ _ _ _ _ _ _ _ _ _ _ _ _ _ _ _ _ _ _ _ _ _ _ _ _ _ _ _ _ _ _ _ _ _ _ _ _ _ _ _ _ _ _ _ _ _ _ _ _ _ _ _ _ _ _ _ _ _ _ _ _ _ _ _ _ _ _ _ _ _ _ _ _ _ _ _ _ _ _ _ _ _ _ R C circ comp path v stn bm aR aC aK aP aO ap cR cC cK cP cOc cp rv kv ro w w8 _ d1 d2 d3 d4 d7 d8 d9 f1 f2 fd HFC HDD HRD hb8 hdr rf HDUP

end Go.Proofs.Qxb6601556a
