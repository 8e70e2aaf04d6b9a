import Derived.Test.Qxb6601556aTail3a
import Derived.Deep.DeepCutAuto
namespace Go.Proofs.Qxb6601556a
open Go.RowKit
set_option linter.unusedVariables false
set_option linter.unusedSimpArgs false

structure E3p (w : World) (R : List (List Int)) (comp : List Int) (stn : Nat) (vR vC : Value) (rv : List Value) (bm mb mB : Nat) (s : Pl.S) (lists : List (Int × Value)) (bud : Int) (ao : Option Addr) (co : Nat) (out : List (List Int)) : Prop where
  m : MBox w bm vR vC stn R.length
  c7 : w.cell? ⟨bm, 7, none⟩ = some (.int .i64 bud)
  c8 : w.cell? ⟨bm, 8, none⟩ = some (.slice ao out.length co)
  g : Graph w vR vC rv R comp
  hb : VMap w mb (blV s.bl)
  hB : VMap w mB lists
  ks : Pl.keys lists = Pl.keys s.by_
  ls : ∀ k, OI w ((Pl.get lists k).getD (.slice none 0 0)) (Pl.wl s k)
theorem E3p.new {w w' : World} {R : List (List Int)} {comp : List Int} {stn : Nat} {vR vC : Value} {rv : List Value} {bm mb mB : Nat} {s : Pl.S} {lists : List (Int × Value)} {bud : Int} {ao : Option Addr} {co : Nat} {out : List (List Int)}
    (h : E3p w R comp stn vR vC rv bm mb mB s lists bud ao co out) (hc : Chg (fun _ => False) w w') : E3p w' R comp stn vR vC rv bm mb mB s lists bud ao co out :=
  ⟨h.m.new hc, hc.cellEq h.c7 (fun h => h), hc.cellEq h.c8 (fun h => h), h.g.new hc, h.hb.of_block (hc.block _ h.hb.lt (fun h => h)), h.hB.of_block (hc.block _ h.hB.lt (fun h => h)), h.ks, fun k => (h.ls k).chg hc (fun _ _ h => h)⟩
theorem E3p.toE {w : World} {R : List (List Int)} {comp : List Int} {stn : Nat} {vR vC : Value} {rv : List Value} {bm mb mB : Nat} {s : Pl.S} {lists : List (Int × Value)} {bud : Int} {ao : Option Addr} {co : Nat} {out : List (List Int)}
    (h : E3p w R comp stn vR vC rv bm mb mB s lists bud ao co out) {gq : Nat} {q : List Int} (hq : OB w gq R.length q) : E3 w R comp stn vR vC rv bm mb mB gq q s lists bud ao co out :=
  ⟨h.m, h.c7, h.c8, h.g, h.hb, h.hB, h.ks, h.ls, hq⟩

set_option maxRecDepth 1000000 in
set_option maxHeartbeats 16000000 in
theorem law3_tail36 (u6 u7 u8 u9 u10 u11 u12 u20 u21 u22 u23 u24 u25 u26 u27 u28 u29 u30 u31 u32 u33 u34 u35 u36 u37 u38 u39 u40 u41 u42 u43 u44 u45 u46 u47 u48 u49 u50 u51 u52 u53 u54 u55 u56 u57 u58 u59 u60 u61 u62 u63 u64 u65 u66 u67 u68 u69 u70 u71 u72 u73 u74 u75 u76 u77 u78 u79 u80 u81 u82 u83 u84 u85 u86 u87 u88 u89 u90 u91 u92 u93 u94 u95 u96 u97 u98 u99 u100 u101 u102 u103 u104 u105 u106 u107 u108 u109 u110 u111 u112 u113 u114 u115 u116 u117 u118 u119 u120 u121 u122 u123 u124 u125 u126 u127 u128 u129 u130 u131 u132 u133 u134 u135 u136 u137 u138 u139 u140 u141 u142 u143 u144 u145 u146 u147 u148 u149 u150 u151 u152 u153 u154 u155 u156 u157 u158 u159 u160 u161 u162 u163 u164 u165 u166 u167 u168 u169 u170 u171 u172 u173 u174 u175 u176 u177 u178 u179 u180 u181 u182 u183 u184 u185 u186 u187 u188 u189 u190 u191 u192 u193 u194 u195 u196 u197 u198 u199 u200 u201 u202 u203 u204 u205 u206 u207 u208 u209 u210 u211 u212 u213 u214 u215 u216 u217 u218 u219 u220 u221 u222 u223 u224 u225 u226 u227 u228 u229 u230 u231 u232 u233 u234 u235 u236 u237 u238 u239 u240 u241 u242 u243 u244 u245 u246 u247 u248 u249 u250 u251 u252 u253 u254 u255 u256 u257 u258 u259 u260 u261 u262 u263 u264 u265 u266 u267 u268 u269 u270 u271 u272 u273 u274 u275 u276 u277 u278 u279 u280 u281 u282 u283 u284 u285 u286 u287 u288 u289 u290 u291 u292 u293 u294 u295 u296 u297 u298 u299 u300 u301 u302 u303 u304 u305 u306 u307 u308 u309 u310 u311 u312 u313 u314 u315 u316 u317 u318 u319 u320 u321 u322 u323 u324 u325 u326 u327 u328 u329 u330 u331 u332 u333 u334 u335 u336 u337 u338 u339 u340 u341 u342 u343 u344 u345 u346 u347 u348 u349 u350 u351 u352 u353 u354 u355 u356 u357 u358 u359 u360 u361 u362 u363 u364 u365 u366 u367 u368 u369 u370 u371 u372 u373 u374 u375 u376 u377 u378 u379 u380 u381 u382 u383 u384 : Value) (R C out : List (List Int)) (comp path : List Int) (vn stn bm mb mB : Nat) (aR aC aK aP ao : Option Addr) (cR cC cK cP co : Nat) (vO vQ : Value) (fd : Bool) (rv : List Value) (s : Pl.S) (lists : List (Int × Value)) (bud : Int) (w w8 w9 : World)
    (d1 : R.length ≤ 256) (hvn : vn < R.length) (HD : Hid (Dom R comp stn)) (HF : Hid (Pl.Fin (ctxOf R comp stn) R.length path C vn out (fd, s))) (hbud : bud = 64 - (C.length : Int))
    (HE : Hid (E3p w8 R comp stn (.slice aR R.length cR) (.slice aC comp.length cC) rv bm mb mB s lists bud ao co out)) (hb8 : Below w.heap.size w w8) (hc9 : Chg (fun _ => False) w8 w9) :
    Code.wp Try.prog ((Try.f3.body.bind (suffix 36)).getD .skip) (bodyPost Try.prog Try.f3 fun e w' => e = .returned (.bool true) ∧ Below w.heap.size w w') ⟨#[.slice aR R.length cR, .slice aC comp.length cC, .slice aK C.length cK, .int .i64 stn, .slice aP path.length cP, .int .i64 vn, u6, u7, u8, u9, u10, u11, u12, .int .i64 R.length, .pointer (some ⟨bm, 0, none⟩), .map (some mb), .map (some mB), .bool fd, vO, vQ, u20, u21, u22, u23, u24, u25, u26, u27, u28, u29, u30, u31, u32, u33, u34, u35, u36, u37, u38, u39, u40, u41, u42, u43, u44, u45, u46, u47, u48, u49, u50, u51, u52, u53, u54, u55, u56, u57, u58, u59, u60, u61, u62, u63, u64, u65, u66, u67, u68, u69, u70, u71, u72, u73, u74, u75, u76, u77, u78, u79, u80, u81, u82, u83, u84, u85, u86, u87, u88, u89, u90, u91, u92, u93, u94, u95, u96, u97, u98, u99, u100, u101, u102, u103, u104, u105, u106, u107, u108, u109, u110, u111, u112, u113, u114, u115, u116, u117, u118, u119, u120, u121, u122, u123, u124, u125, u126, u127, u128, u129, u130, u131, u132, u133, u134, u135, u136, u137, u138, u139, u140, u141, u142, u143, u144, u145, u146, u147, u148, u149, u150, u151, u152, u153, u154, u155, u156, u157, u158, u159, u160, u161, u162, u163, u164, u165, u166, u167, u168, u169, u170, u171, u172, u173, u174, u175, u176, u177, u178, u179, u180, u181, u182, u183, u184, u185, u186, u187, u188, u189, u190, u191, u192, u193, u194, u195, u196, u197, u198, u199, u200, u201, u202, u203, u204, u205, u206, u207, u208, u209, u210, u211, u212, u213, u214, u215, u216, u217, u218, u219, u220, u221, u222, u223, u224, u225, u226, u227, u228, u229, u230, u231, u232, u233, u234, u235, u236, u237, u238, u239, u240, u241, u242, u243, u244, u245, u246, u247, u248, u249, u250, u251, u252, u253, u254, u255, u256, u257, u258, u259, u260, u261, u262, u263, u264, u265, u266, u267, u268, u269, u270, u271, u272, u273, u274, u275, u276, u277, u278, u279, u280, u281, u282, u283, u284, u285, u286, u287, u288, u289, u290, u291, u292, u293, u294, u295, u296, u297, u298, u299, u300, u301, u302, u303, u304, u305, u306, u307, u308, u309, u310, u311, u312, u313, u314, u315, u316, u317, u318, u319, u320, u321, u322, u323, u324, u325, u326, u327, u328, u329, u330, u331, u332, u333, u334, u335, u336, u337, u338, u339, u340, u341, u342, u343, u344, u345, u346, u347, u348, u349, u350, u351, u352, u353, u354, u355, u356, u357, u358, u359, u360, u361, u362, u363, u364, u365, u366, u367, u368, u369, u370, u371, u372, u373, u374, u375, u376, u377, u378, u379, u380, u381, u382, u383, u384], []⟩ w9 := by
  conv => arg 2; whnf
  have HEn := hideP (HE.out.new hc9)
  have c7 := HEn.out.c7
  have hvi : (vn : Int) < (R.length : Int) := by omega
  obtain ⟨i0, hi, hz0, hz1, hz2⟩ := info_parts Try.info4
  have HC9 := hideP hc9
  clear hc9
  go_upto_if 188 with fail
  go_cut [22] (fun vv wc => ∃ gq : Nat, ∃ q : List Int, vv = .slice (some ⟨gq, 0, none⟩) R.length R.length ∧ OB wc gq R.length q ∧ (∀ z, z ∈ q ↔ Pl.VisP (ctxOf R comp stn) vn C.length z) ∧ Chg (fun _ => False) w8 wc)
  case first =>
    by_cases hbp : (0 : Int) < bud
    · have hcl : C.length < 64 := by omega
      have HVP : Hid (∀ z, Pl.VisP (ctxOf R comp stn) vn C.length z ↔ Pl.Clos (ctxOf R comp stn) vn z) := fun z => by unfold Pl.VisP; rw [if_pos hcl]
      have HBD := hideP hbud
      clear hbud
      go_wp2_with (go_at_call 14; refine (wmClosure_any bm (.slice aR R.length cR) (.slice aC comp.length cC) rv R comp stn HD.out vn _ HEn.out.m HEn.out.g hvn).mono ?_; rintro e w2 ⟨rfl, q, hob, hq, hc2⟩; have HQ := hideP hq; have HC2 := hideP hc2; have HOB := hideP hob; clear hq hc2 hob)
      go_meet
      case rel => exact ⟨_, q, rfl, HOB.out, fun z => (HQ.out z).trans (HVP.out z).symm, HC9.out.trans HC2.out (fun _ _ h => h)⟩
    · have hcl : ¬ C.length < 64 := by omega
      have HVP : Hid (∀ z, Pl.VisP (ctxOf R comp stn) vn C.length z ↔ z = (vn : Int)) := fun z => by unfold Pl.VisP; rw [if_neg hcl]
      have HBD := hideP hbud
      clear hbud
      go_wp2_with (at_make; refine wpList_make_full _ rfl _ _ 28 rfl 0 4 i0 (.bool false) 1 Try.underlying28 hi hz0 hz1 _ _ _ _ R.length rfl rfl (by simp) (by simp) (by rw [hz2]; omega) (by unfold maxLen; omega) (Nat.zero_le _) ?_; intro w10 hown hgrow; have hob : OB w10 w9.heap.size R.length [] := (by rw [seenL_nil] at hown; exact hown); have hcx := hob.cell vn hvn; have hfx := hob.fz vn; clear hown)
      have HO10 := hideP (hob.set vn)
      have HC10 := hideP (HC9.out.grown hgrow (fun k _ e => by cases e))
      have s9 := HC9.out.size
      go_meet
      case rel => exact ⟨_, [(vn : Int)], rfl, HO10.out, fun z => by rw [HVP.out z]; simp, HC10.out.setCell (fun h => by simp at h; omega) _⟩
  case rest =>
    obtain ⟨gq, q, rfl, hob, hq, hcc⟩ := hcut
    have HE' := hideP ((HE.out.new hcc).toE hob)
    have HP' : Hid (P3 R comp stn path C vn out fd s q) := ⟨HF.out, hq⟩
    have hb' := hb8.trans (hcc.below hb8.size (fun _ h => h.elim))
    rename_i K hK
    refine hK _ _ ?_
    exact law3_tail40 _ _ _ _ _ _ _ _ _ _ _ _ _ _ _ _ _ _ _ _ _ _ _ _ _ _ _ _ _ _ _ _ _ _ _ _ _ _ _ _ _ _ _ _ _ _ _ _ _ _ _ _ _ _ _ _ _ _ _ _ _ _ _ _ _ _ _ _ _ _ _ _ _ _ _ _ _ _ _ _ _ _ _ _ _ _ _ _ _ _ _ _ _ _ _ _ _ _ _ _ _ _ _ _ _ _ _ _ _ _ _ _ _ _ _ _ _ _ _ _ _ _ _ _ _ _ _ _ _ _ _ _ _ _ _ _ _ _ _ _ _ _ _ _ _ _ _ _ _ _ _ _ _ _ _ _ _ _ _ _ _ _ _ _ _ _ _ _ _ _ _ _ _ _ _ _ _ _ _ _ _ _ _ _ _ _ _ _ _ _ _ _ _ _ _ _ _ _ _ _ _ _ _ _ _ _ _ _ _ _ _ _ _ _ _ _ _ _ _ _ _ _ _ _ _ _ _ _ _ _ _ _ _ _ _ _ _ _ _ _ _ _ _ _ _ _ _ _ _ _ _ _ _ _ _ _ _ _ _ _ _ _ _ _ _ _ _ _ _ _ _ _ _ _ _ _ _ _ _ _ _ _ _ _ _ _ _ _ _ _ _ _ _ _ _ _ _ _ _ _ _ _ _ _ _ _ _ _ _ _ _ _ _ _ _ _ _ _ _ _ _ _ _ _ _ _ _ _ _ _ _ _ _ _ _ _ _ _ _ _ _ _ _ _ _ _ _ _ _ _ _ _ _ _ _ _ _ _ _ _ _ _ _ _ _ _ _ _ _ _ _ R C out comp path vn stn bm mb mB gq aR aC aK aP ao cR cC cK cP co vO vQ fd rv q s lists bud w _ _ d1 hvn HD HP' hbud HE' hb' (Chg.refl _ _)

end Go.Proofs.Qxb6601556a
