/-
  Function 3 from 'if m.budget > 0' on.
-/
import Derived.Test.Qxb6601556aInit3
import Derived.Deep.DeepCutAuto
namespace Go.Proofs.Qxb6601556a
open Go.RowKit
set_option linter.unusedVariables false
set_option linter.unusedSimpArgs false

/-- What lies in memory behind the box's set-up. -/
structure T14 (w6 : World) (R : List (List Int)) (comp : List Int) (stn vn : Nat) (vR vC : Value) (rv : List Value) (C : List (List Int)) (path : List Int) (bm ga gw : Nat) (bud : Int) (vK vP : Value) (kv : List Value) : Prop where
  g : Graph w6 vR vC rv R comp
  gi : GraphI (fun b => b < bm) vR vC rv
  k : Tab w6 vK kv C
  kt : ∀ b, vK.ownBlock = some b → b < bm
  kr : ∀ i b, (kv.getD i (.slice none 0 0)).ownBlock = some b → b < bm
  p : OI w6 vP path
  pt : ∀ b, vP.ownBlock = some b → b < bm
  box : w6.heap[bm]? = some (.cells #[vR, vC, .int .i64 stn, .int .i64 R.length, .slice (some ⟨ga, 0, none⟩) R.length R.length, .slice (some ⟨gw, 0, none⟩) 1 1, vP, .int .i64 bud, .slice none 0 0] 30 (0, 0))
  ob : OB w6 ga R.length [(vn : Int)]
  wk : OI w6 (.slice (some ⟨gw, 0, none⟩) 1 1) [(vn : Int)]
  lga : bm < ga
  lgw : bm < gw

theorem T14.ss {w6 : World} {R : List (List Int)} {comp : List Int} {stn vn : Nat} {vR vC : Value} {rv : List Value} {C : List (List Int)} {path : List Int} {bm ga gw : Nat} {bud : Nat} {vK vP : Value} {kv : List Value}
    (h : T14 w6 R comp stn vn vR vC rv C path bm ga gw bud vK vP kv) : SS (fun b => b < bm) w6 ⟨bm, ga, vR, vC, vP⟩ ⟨.slice (some ⟨gw, 0, none⟩) 1 1, .slice none 0 0, []⟩ stn R.length path bud [(vn : Int)] [] := by
  have hl := h.ob.lt
  have h1 := h.lga
  have h2 := h.lgw
  have hn : ∀ b, SMut ⟨bm, ga, vR, vC, vP⟩ ⟨.slice (some ⟨gw, 0, none⟩) 1 1, .slice none 0 0, []⟩ b → bm ≤ b := by
    rintro b (e | e | e | e)
    · have e' : b = bm := e
      omega
    · have e' : b = ga := e
      omega
    · have e' : some gw = some b := e
      cases e'; omega
    · cases e
  exact ⟨h.box, h.ob, h.wk, h.p, OV.nil _, rfl, fun i hi => absurd hi (Nat.not_lt_zero _), fun b hb => ⟨by omega, fun hs => by have := hn b hs; omega⟩, fun u hu => absurd hu (List.not_mem_nil), h.pt⟩

theorem T14.h3 {w6 : World} {R : List (List Int)} {comp : List Int} {stn vn : Nat} {vR vC : Value} {rv : List Value} {C : List (List Int)} {path : List Int} {bm ga gw : Nat} {bud : Int} {vK vP : Value} {kv : List Value}
    (h : T14 w6 R comp stn vn vR vC rv C path bm ga gw bud vK vP kv) : H3 w6 R comp stn vR vC rv C path [] bm bud vK vP none 0 kv [] :=
  ⟨h.g, h.k, ⟨OV.nil _, rfl, fun i hi => absurd hi (Nat.not_lt_zero _)⟩, h.p, ⟨by simp [World.cell?, h.box], by simp [World.cell?, h.box], by simp [World.cell?, h.box], by simp [World.cell?, h.box]⟩, by simp [World.cell?, h.box], by simp [World.cell?, h.box]⟩

theorem T14.after {w6 w7 : World} {R : List (List Int)} {comp : List Int} {stn vn : Nat} {vR vC : Value} {rv : List Value} {C : List (List Int)} {path : List Int} {bm ga gw : Nat} {bud : Nat} {vK vP : Value} {kv : List Value} {out : List (List Int)} {L : SL}
    (h : T14 w6 R comp stn vn vR vC rv C path bm ga gw bud vK vP kv) (S : SS (fun b => b < bm) w7 ⟨bm, ga, vR, vC, vP⟩ L stn R.length path bud [(vn : Int)] out) (hc : Chg (fun b => bm ≤ b) w6 w7) :
    ∃ ao co, H3 w7 R comp stn vR vC rv C path out bm bud vK vP ao co kv L.ors := by
  obtain ⟨ao, co, hov, -, -, -, -, -⟩ := ownsRow_shape S.ou
  rw [S.len] at hov
  refine ⟨ao, co, h.g.chg hc (fun b hb => by have := h.gi.top b hb; omega) (fun b hb => by have := h.gi.com b hb; omega) (fun i _ b hb => by have := h.gi.row i b hb; omega),
    h.k.below (B := 0) hc (fun b hb => by have := h.kt b hb; omega) (fun i b hb => by have := h.kr i b hb; omega), ⟨by rw [← hov]; exact S.ou, S.len, fun i hi => S.row i (by rw [S.len]; exact hi)⟩, S.pf, S.mb, S.cell.2.2.2.1, by rw [← hov]; exact S.cell.2.2.2.2.1⟩

set_option maxRecDepth 1000000 in
set_option maxHeartbeats 16000000 in
theorem law3_tail14 (u6 u7 u8 u9 u10 u11 u12 u15 u16 u17 u18 u19 u20 u21 u22 u23 u24 u25 u26 u27 u28 u29 u30 u31 u32 u33 u34 u35 u36 u37 u38 u39 u40 u41 u42 u43 u44 u45 u46 u47 u48 u49 u50 u51 u52 u53 u54 u55 u56 u57 u58 u59 u60 u61 u62 u63 u64 u65 u66 u67 u68 u69 u70 u71 u72 u73 u74 u75 u76 u77 u78 u79 u80 u81 u82 u83 u84 u85 u86 u87 u88 u89 u90 u91 u92 u93 u94 u95 u96 u97 u98 u99 u100 u101 u102 u103 u104 u105 u106 u107 u108 u109 u110 u111 u112 u113 u114 u115 u116 u117 u118 u119 u120 u121 u122 u123 u124 u125 u126 u127 u128 u129 u130 u131 u132 u133 u134 u135 u136 u137 u138 u139 u140 u141 u142 u143 u144 u145 u146 u147 u148 u149 u150 u151 u152 u153 u154 u155 u156 u157 u158 u159 u160 u161 u162 u163 u164 u165 u166 u167 u168 u169 u170 u171 u172 u173 u174 u175 u176 u177 u178 u179 u180 u181 u182 u183 u184 u185 u186 u187 u188 u189 u190 u191 u192 u193 u194 u195 u196 u197 u198 u199 u200 u201 u202 u203 u204 u205 u206 u207 u208 u209 u210 u211 u212 u213 u214 u215 u216 u217 u218 u219 u220 u221 u222 u223 u224 u225 u226 u227 u228 u229 u230 u231 u232 u233 u234 u235 u236 u237 u238 u239 u240 u241 u242 u243 u244 u245 u246 u247 u248 u249 u250 u251 u252 u253 u254 u255 u256 u257 u258 u259 u260 u261 u262 u263 u264 u265 u266 u267 u268 u269 u270 u271 u272 u273 u274 u275 u276 u277 u278 u279 u280 u281 u282 u283 u284 u285 u286 u287 u288 u289 u290 u291 u292 u293 u294 u295 u296 u297 u298 u299 u300 u301 u302 u303 u304 u305 u306 u307 u308 u309 u310 u311 u312 u313 u314 u315 u316 u317 u318 u319 u320 u321 u322 u323 u324 u325 u326 u327 u328 u329 u330 u331 u332 u333 u334 u335 u336 u337 u338 u339 u340 u341 u342 u343 u344 u345 u346 u347 u348 u349 u350 u351 u352 u353 u354 u355 u356 u357 u358 u359 u360 u361 u362 u363 u364 u365 u366 u367 u368 u369 u370 u371 u372 u373 u374 u375 u376 u377 u378 u379 u380 u381 u382 u383 u384 : Value) (R C : List (List Int)) (comp path : List Int) (vn stn bm ga gw : Nat) (aR aC aK aP : Option Addr) (cR cC cK cP : Nat) (rv kv : List Value) (w w6 : World)
    (d1 : R.length ≤ 256) (d3 : C.length ≤ 4096) (d4 : path.length ≤ 4096) (hvn : vn < R.length) (HD : Hid (Dom R comp stn)) (HD6 : Hid (∀ i, i < C.length → (C.getD i []).length ≤ 131072))
    (zK : aK = none → C.length = 0) (zP : aP = none → path.length = 0) (hbm : w.heap.size ≤ bm)
    (HT : Hid (T14 w6 R comp stn vn (.slice aR R.length cR) (.slice aC comp.length cC) rv C path bm ga gw (64 - (C.length : Int)) (.slice aK C.length cK) (.slice aP path.length cP) kv)) (hb6 : Below w.heap.size w w6) :
    Code.wp Try.prog ((Try.f3.body.bind (suffix 14)).getD .skip) (bodyPost Try.prog Try.f3 fun e w' => e = .returned (.bool true) ∧ Below w.heap.size w w') ⟨#[.slice aR R.length cR, .slice aC comp.length cC, .slice aK C.length cK, .int .i64 stn, .slice aP path.length cP, .int .i64 vn, u6, u7, u8, u9, u10, u11, u12, .int .i64 R.length, .pointer (some ⟨bm, 0, none⟩), u15, u16, u17, u18, u19, u20, u21, u22, u23, u24, u25, u26, u27, u28, u29, u30, u31, u32, u33, u34, u35, u36, u37, u38, u39, u40, u41, u42, u43, u44, u45, u46, u47, u48, u49, u50, u51, u52, u53, u54, u55, u56, u57, u58, u59, u60, u61, u62, u63, u64, u65, u66, u67, u68, u69, u70, u71, u72, u73, u74, u75, u76, u77, u78, u79, u80, u81, u82, u83, u84, u85, u86, u87, u88, u89, u90, u91, u92, u93, u94, u95, u96, u97, u98, u99, u100, u101, u102, u103, u104, u105, u106, u107, u108, u109, u110, u111, u112, u113, u114, u115, u116, u117, u118, u119, u120, u121, u122, u123, u124, u125, u126, u127, u128, u129, u130, u131, u132, u133, u134, u135, u136, u137, u138, u139, u140, u141, u142, u143, u144, u145, u146, u147, u148, u149, u150, u151, u152, u153, u154, u155, u156, u157, u158, u159, u160, u161, u162, u163, u164, u165, u166, u167, u168, u169, u170, u171, u172, u173, u174, u175, u176, u177, u178, u179, u180, u181, u182, u183, u184, u185, u186, u187, u188, u189, u190, u191, u192, u193, u194, u195, u196, u197, u198, u199, u200, u201, u202, u203, u204, u205, u206, u207, u208, u209, u210, u211, u212, u213, u214, u215, u216, u217, u218, u219, u220, u221, u222, u223, u224, u225, u226, u227, u228, u229, u230, u231, u232, u233, u234, u235, u236, u237, u238, u239, u240, u241, u242, u243, u244, u245, u246, u247, u248, u249, u250, u251, u252, u253, u254, u255, u256, u257, u258, u259, u260, u261, u262, u263, u264, u265, u266, u267, u268, u269, u270, u271, u272, u273, u274, u275, u276, u277, u278, u279, u280, u281, u282, u283, u284, u285, u286, u287, u288, u289, u290, u291, u292, u293, u294, u295, u296, u297, u298, u299, u300, u301, u302, u303, u304, u305, u306, u307, u308, u309, u310, u311, u312, u313, u314, u315, u316, u317, u318, u319, u320, u321, u322, u323, u324, u325, u326, u327, u328, u329, u330, u331, u332, u333, u334, u335, u336, u337, u338, u339, u340, u341, u342, u343, u344, u345, u346, u347, u348, u349, u350, u351, u352, u353, u354, u355, u356, u357, u358, u359, u360, u361, u362, u363, u364, u365, u366, u367, u368, u369, u370, u371, u372, u373, u374, u375, u376, u377, u378, u379, u380, u381, u382, u383, u384], []⟩ w6 := by
  conv => arg 2; whnf
  have c7 : w6.cell? ⟨bm, 7, none⟩ = some (.int .i64 (64 - (C.length : Int))) := by simp [World.cell?, HT.out.box]
  obtain ⟨rb, hrb⟩ : ∃ rb : List Int → Int → Bool, ∀ wkd w, rb wkd w = true ↔ Pl.Reach (ctxOf R comp stn) (fun y => wkd.contains y) w := by
    classical
    exact ⟨fun wkd w => decide (Pl.Reach (ctxOf R comp stn) (fun y => wkd.contains y) w), fun wkd w => by simp⟩
  have HRB := hideP hrb
  clear hrb
  by_cases hC : C.length < 64
  · have hg : (64 - (C.length : Int)) > 0 := by omega
    obtain ⟨bn, hbn⟩ : ∃ bn : Nat, bn = 64 - C.length := ⟨_, rfl⟩
    have hbi : (64 - (C.length : Int)) = (bn : Int) := by omega
    have HT' := HT
    rw [hbi] at HT'
    have hS := HT'.out.ss
    have hcall := srch_any R comp stn HD.out rb HRB.out bn R.length _ _ _ rv path _ _ (vn : Int) w6 hS HT'.out.g HT'.out.gi (by simp) (by simp; omega) (by simp) (by simp) (by omega) (by omega) (by simp)
    simp only at hcall
    go_upto_if 99 with fail
    go_step
    go_wp2_with fail
    refine hcall.mono ?_
    rintro e w7 ⟨rfl, L', hS7, hc7, -⟩
    have hcb : Chg (fun b => bm ≤ b) w6 w7 := hc7.mono (fun i _ h => by
      have h1 := HT.out.lga
      have h2 := HT.out.lgw
      rcases h with e | e | e | e
      · have e' : i = bm := e
        omega
      · have e' : i = ga := e
        omega
      · have e' : some gw = some i := e
        cases e'; omega
      · cases e)
    obtain ⟨ao, co, hh3⟩ := HT'.out.after hS7 hcb
    have HOUT : Hid (Pl.srch (ctxOf R comp stn) path bn rb R.length [(vn : Int)] [] vn = if C.length < 64 then Pl.srch (ctxOf R comp stn) path (64 - C.length) rb R.length [(vn : Int)] [] vn else []) := by
      rw [if_pos hC, hbn]; rfl
    generalize Pl.srch (ctxOf R comp stn) path bn rb R.length [(vn : Int)] [] vn = out at *
    rw [← hbi] at hh3
    have HH := hideP hh3
    have hb7 : Below w.heap.size w w7 := hb6.trans (hcb.below hb6.size (fun _ h => Nat.le_trans hbm h))
    clear hcall hS hS7 hc7 hcb hh3 HT' hbi hbn hg
    simp only []
    go_step
    go_step
    go_step
    go_step
    exact law3_tail16 _ _ _ _ _ _ _ _ _ _ _ _ _ _ _ _ _ _ _ _ _ _ _ _ _ _ _ _ _ _ _ _ _ _ _ _ _ _ _ _ _ _ _ _ _ _ _ _ _ _ _ _ _ _ _ _ _ _ _ _ _ _ _ _ _ _ _ _ _ _ _ _ _ _ _ _ _ _ _ _ _ _ _ _ _ _ _ _ _ _ _ _ _ _ _ _ _ _ _ _ _ _ _ _ _ _ _ _ _ _ _ _ _ _ _ _ _ _ _ _ _ _ _ _ _ _ _ _ _ _ _ _ _ _ _ _ _ _ _ _ _ _ _ _ _ _ _ _ _ _ _ _ _ _ _ _ _ _ _ _ _ _ _ _ _ _ _ _ _ _ _ _ _ _ _ _ _ _ _ _ _ _ _ _ _ _ _ _ _ _ _ _ _ _ _ _ _ _ _ _ _ _ _ _ _ _ _ _ _ _ _ _ _ _ _ _ _ _ _ _ _ _ _ _ _ _ _ _ _ _ _ _ _ _ _ _ _ _ _ _ _ _ _ _ _ _ _ _ _ _ _ _ _ _ _ _ _ _ _ _ _ _ _ _ _ _ _ _ _ _ _ _ _ _ _ _ _ _ _ _ _ _ _ _ _ _ _ _ _ _ _ _ _ _ _ _ _ _ _ _ _ _ _ _ _ _ _ _ _ _ _ _ _ _ _ _ _ _ _ _ _ _ _ _ _ _ _ _ _ _ _ _ _ _ _ _ _ _ _ _ _ _ _ _ _ _ _ _ _ _ _ _ _ _ _ _ _ _ _ _ _ _ _ _ _ _ _ _ _ _ _ _ _ _ _ _ _ R C out comp path vn stn bm aR aC aK aP ao cR cC cK cP co rv kv L'.ors (64 - (C.length : Int)) w w7 d1 d3 d4 hvn HD HD6 rfl zK zP HH hb7 rb HRB HOUT
  · have hg : ¬ ((64 - (C.length : Int)) > 0) := by omega
    have HH := hideP HT.out.h3
    have HOUT : Hid (([] : List (List Int)) = if C.length < 64 then Pl.srch (ctxOf R comp stn) path (64 - C.length) rb R.length [(vn : Int)] [] vn else []) := by
      rw [if_neg hC]; rfl
    go_upto_if 99 with fail
    go_step
    go_step
    go_step
    go_step
    exact law3_tail16 _ _ _ _ _ _ _ _ _ _ _ _ _ _ _ _ _ _ _ _ _ _ _ _ _ _ _ _ _ _ _ _ _ _ _ _ _ _ _ _ _ _ _ _ _ _ _ _ _ _ _ _ _ _ _ _ _ _ _ _ _ _ _ _ _ _ _ _ _ _ _ _ _ _ _ _ _ _ _ _ _ _ _ _ _ _ _ _ _ _ _ _ _ _ _ _ _ _ _ _ _ _ _ _ _ _ _ _ _ _ _ _ _ _ _ _ _ _ _ _ _ _ _ _ _ _ _ _ _ _ _ _ _ _ _ _ _ _ _ _ _ _ _ _ _ _ _ _ _ _ _ _ _ _ _ _ _ _ _ _ _ _ _ _ _ _ _ _ _ _ _ _ _ _ _ _ _ _ _ _ _ _ _ _ _ _ _ _ _ _ _ _ _ _ _ _ _ _ _ _ _ _ _ _ _ _ _ _ _ _ _ _ _ _ _ _ _ _ _ _ _ _ _ _ _ _ _ _ _ _ _ _ _ _ _ _ _ _ _ _ _ _ _ _ _ _ _ _ _ _ _ _ _ _ _ _ _ _ _ _ _ _ _ _ _ _ _ _ _ _ _ _ _ _ _ _ _ _ _ _ _ _ _ _ _ _ _ _ _ _ _ _ _ _ _ _ _ _ _ _ _ _ _ _ _ _ _ _ _ _ _ _ _ _ _ _ _ _ _ _ _ _ _ _ _ _ _ _ _ _ _ _ _ _ _ _ _ _ _ _ _ _ _ _ _ _ _ _ _ _ _ _ _ _ _ _ _ _ _ _ _ _ _ _ _ _ _ _ _ _ _ _ _ _ _ _ _ R C [] comp path vn stn bm aR aC aK aP none cR cC cK cP 0 rv kv [] (64 - (C.length : Int)) w w6 d1 d3 d4 hvn HD HD6 rfl zK zP HH hb6 rb HRB HOUT

end Go.Proofs.Qxb6601556a
