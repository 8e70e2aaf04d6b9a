import Derived.Test.Qxb6601556aM4
import Derived.Deep.DeepCutAuto
namespace Go.Proofs.Qxb6601556a
open Go.RowKit
set_option linter.unusedVariables false
set_option linter.unusedSimpArgs false

set_option maxRecDepth 1000000 in
set_option maxHeartbeats 16000000 in
theorem law3_tail16 (u6 u7 u8 u9 u10 u11 u12 u15 u16 u17 u18 u19 u20 u21 u22 u23 u24 u25 u26 u27 u28 u29 u30 u31 u32 u33 u34 u35 u36 u37 u38 u39 u40 u41 u42 u43 u44 u45 u46 u47 u48 u49 u50 u51 u52 u53 u54 u55 u56 u57 u58 u59 u60 u61 u62 u63 u64 u65 u66 u67 u68 u69 u70 u71 u72 u73 u74 u75 u76 u77 u78 u79 u80 u81 u82 u83 u84 u85 u86 u87 u88 u89 u90 u91 u92 u93 u94 u95 u96 u97 u98 u99 u100 u101 u102 u103 u104 u105 u106 u107 u108 u109 u110 u111 u112 u113 u114 u115 u116 u117 u118 u119 u120 u121 u122 u123 u124 u125 u126 u127 u128 u129 u130 u131 u132 u133 u134 u135 u136 u137 u138 u139 u140 u141 u142 u143 u144 u145 u146 u147 u148 u149 u150 u151 u152 u153 u154 u155 u156 u157 u158 u159 u160 u161 u162 u163 u164 u165 u166 u167 u168 u169 u170 u171 u172 u173 u174 u175 u176 u177 u178 u179 u180 u181 u182 u183 u184 u185 u186 u187 u188 u189 u190 u191 u192 u193 u194 u195 u196 u197 u198 u199 u200 u201 u202 u203 u204 u205 u206 u207 u208 u209 u210 u211 u212 u213 u214 u215 u216 u217 u218 u219 u220 u221 u222 u223 u224 u225 u226 u227 u228 u229 u230 u231 u232 u233 u234 u235 u236 u237 u238 u239 u240 u241 u242 u243 u244 u245 u246 u247 u248 u249 u250 u251 u252 u253 u254 u255 u256 u257 u258 u259 u260 u261 u262 u263 u264 u265 u266 u267 u268 u269 u270 u271 u272 u273 u274 u275 u276 u277 u278 u279 u280 u281 u282 u283 u284 u285 u286 u287 u288 u289 u290 u291 u292 u293 u294 u295 u296 u297 u298 u299 u300 u301 u302 u303 u304 u305 u306 u307 u308 u309 u310 u311 u312 u313 u314 u315 u316 u317 u318 u319 u320 u321 u322 u323 u324 u325 u326 u327 u328 u329 u330 u331 u332 u333 u334 u335 u336 u337 u338 u339 u340 u341 u342 u343 u344 u345 u346 u347 u348 u349 u350 u351 u352 u353 u354 u355 u356 u357 u358 u359 u360 u361 u362 u363 u364 u365 u366 u367 u368 u369 u370 u371 u372 u373 u374 u375 u376 u377 u378 u379 u380 u381 u382 u383 u384 : Value) (R C out : List (List Int)) (comp path : List Int) (vn stn bm : Nat) (aR aC aK aP ao : Option Addr) (cR cC cK cP co : Nat) (rv kv ors : List Value) (bud : Int) (w w5 : World)
    (d1 : R.length ≤ 256) (d3 : C.length ≤ 4096) (d4 : path.length ≤ 4096) (hvn : vn < R.length) (HD : Hid (Dom R comp stn)) (HD6 : Hid (∀ i, i < C.length → (C.getD i []).length ≤ 131072)) (hbud : bud = 64 - (C.length : Int))
    (zK : aK = none → C.length = 0) (zP : aP = none → path.length = 0)
    (HH : Hid (H3 w5 R comp stn (.slice aR R.length cR) (.slice aC comp.length cC) rv C path out bm bud (.slice aK C.length cK) (.slice aP path.length cP) ao co kv ors)) (hb5 : Below w.heap.size w w5)
    (rb : List Int → Int → Bool) (HRB : Hid (∀ wkd w, rb wkd w = true ↔ Pl.Reach (ctxOf R comp stn) (fun y => wkd.contains y) w)) (HOUT : Hid (out = if C.length < 64 then Pl.srch (ctxOf R comp stn) path (64 - C.length) rb R.length [(vn : Int)] [] vn else [])) :
    Code.wp Try.prog ((Try.f3.body.bind (suffix 16)).getD .skip) (bodyPost Try.prog Try.f3 fun e w' => e = .returned (.bool true) ∧ Below w.heap.size w w') ⟨#[.slice aR R.length cR, .slice aC comp.length cC, .slice aK C.length cK, .int .i64 stn, .slice aP path.length cP, .int .i64 vn, u6, u7, u8, u9, u10, u11, u12, .int .i64 R.length, .pointer (some ⟨bm, 0, none⟩), u15, u16, u17, u18, u19, u20, u21, u22, u23, u24, u25, u26, u27, u28, u29, u30, u31, u32, u33, u34, u35, u36, u37, u38, u39, u40, u41, u42, u43, u44, u45, u46, u47, u48, u49, u50, u51, u52, u53, u54, u55, u56, u57, u58, u59, u60, u61, u62, u63, u64, u65, u66, u67, u68, u69, u70, u71, u72, u73, u74, u75, u76, u77, u78, u79, u80, u81, u82, u83, u84, u85, u86, u87, u88, u89, u90, u91, u92, u93, u94, u95, u96, u97, u98, u99, u100, u101, u102, u103, u104, u105, u106, u107, u108, u109, u110, u111, u112, u113, u114, u115, u116, u117, u118, u119, u120, u121, u122, u123, u124, u125, u126, u127, u128, u129, u130, u131, u132, u133, u134, u135, u136, u137, u138, u139, u140, u141, u142, u143, u144, u145, u146, u147, u148, u149, u150, u151, u152, u153, u154, u155, u156, u157, u158, u159, u160, u161, u162, u163, u164, u165, u166, u167, u168, u169, u170, u171, u172, u173, u174, u175, u176, u177, u178, u179, u180, u181, u182, u183, u184, u185, u186, u187, u188, u189, u190, u191, u192, u193, u194, u195, u196, u197, u198, u199, u200, u201, u202, u203, u204, u205, u206, u207, u208, u209, u210, u211, u212, u213, u214, u215, u216, u217, u218, u219, u220, u221, u222, u223, u224, u225, u226, u227, u228, u229, u230, u231, u232, u233, u234, u235, u236, u237, u238, u239, u240, u241, u242, u243, u244, u245, u246, u247, u248, u249, u250, u251, u252, u253, u254, u255, u256, u257, u258, u259, u260, u261, u262, u263, u264, u265, u266, u267, u268, u269, u270, u271, u272, u273, u274, u275, u276, u277, u278, u279, u280, u281, u282, u283, u284, u285, u286, u287, u288, u289, u290, u291, u292, u293, u294, u295, u296, u297, u298, u299, u300, u301, u302, u303, u304, u305, u306, u307, u308, u309, u310, u311, u312, u313, u314, u315, u316, u317, u318, u319, u320, u321, u322, u323, u324, u325, u326, u327, u328, u329, u330, u331, u332, u333, u334, u335, u336, u337, u338, u339, u340, u341, u342, u343, u344, u345, u346, u347, u348, u349, u350, u351, u352, u353, u354, u355, u356, u357, u358, u359, u360, u361, u362, u363, u364, u365, u366, u367, u368, u369, u370, u371, u372, u373, u374, u375, u376, u377, u378, u379, u380, u381, u382, u383, u384], []⟩ w5 := by
  conv => arg 2; whnf
  have hmm := @run_makeMap Try.prog
  go_wp2_with fail
  obtain ⟨c56, hmb6, hmB6, sz6⟩ := maps2 w5
  generalize (w5.alloc (.map #[] 0)).alloc (.map #[] 0) = w6 at *
  clear hmm
  refine (cloneIntss_any aK C.length cK C w6 rfl (HH.out.k.new c56).rowsV zK (by omega) (fun i hi => by have := HD6.out i hi; omega)).mono ?_
  rintro e w6b ⟨vc, rfl, kv', cpc⟩
  go_wp2_with fail
  have hrP := (HH.out.p.chg (c56.trans cpc.chg (fun _ _ h => h)) (fun _ _ h => h))
  obtain ⟨aPx, cPx, hpe, -, -, -, -, rowP⟩ := hrP.shape
  cases hpe
  refine (cloneInts_any aP path.length cP path w6b rfl rowP zP (by omega)).mono ?_
  rintro e w7 ⟨vp, rfl, op7, ch7, fr7⟩
  have tc7 := cpc.tab.new ch7
  have c67 : Chg (fun _ => False) w6 w7 := cpc.chg.trans ch7 (fun _ _ h => h)
  have c57 : Chg (fun _ => False) w5 w7 := c56.trans c67 (fun _ _ h => h)
  have s6 := cpc.chg.size
  have s7 := ch7.size
  have lK := cpc.tab.lt
  have H7 := HH.out.kept (c57.mono (fun _ _ h => h.elim))
  have lR := HH.out.g.tab.lt
  have GI7 : GraphI (fun b => b < w5.heap.size) (.slice aR R.length cR) (.slice aC comp.length cC) rv := ⟨fun b hb => lR.1 b hb, fun b hb => HH.out.g.com.lt b hb, fun i b hb => lR.2 i b hb⟩
  have hcvb : ∀ b, vc.ownBlock = some b → w5.heap.size + 2 ≤ b := fun b hb => by have := cpc.tb b hb; omega
  have hpvb : ∀ b, vp.ownBlock = some b → w5.heap.size + 2 ≤ b := fun b hb => by have := fr7 b hb; omega
  have hZ : ∀ b, ZF w5.heap.size (w5.heap.size + 1) vp vc b → w5.heap.size ≤ b := by
    rintro b (h | h | h | h)
    · omega
    · omega
    · have := hpvb b h; omega
    · have := hcvb b h; omega
  have hI7 : ∀ b, b < w5.heap.size → b < w7.heap.size ∧ ¬ ZF w5.heap.size (w5.heap.size + 1) vp vc b := fun b hb => ⟨by omega, fun h => by have := hZ b h; omega⟩
  have hsr7 : ∀ u ∈ kv', ∀ b, u.ownBlock = some b → vp.ownBlock ≠ some b := fun u hu b hb hp => by
    obtain ⟨i, hi, rfl⟩ := List.mem_iff_getElem.1 hu
    have h1 := lK.2 i b (by simpa [List.getD, hi] using hb)
    have h2 := fr7 b hp
    omega
  have hvi : 0 ≤ (vn : Int) ∧ (vn : Int) < (R.length : Int) := by omega
  go_wp2_with fail
  refine (zzwalk_any R comp stn HD.out (fun b => b < w5.heap.size) (.slice aR R.length cR) (.slice aC comp.length cC) rv vc vp kv' C path w5.heap.size (w5.heap.size + 1) vn w7 H7.g GI7 tc7.top tc7.len (fun i hi => tc7.row i (by rw [← tc7.len]; exact hi)) op7
    (hmb6.of_block (c67.block _ hmb6.lt (fun h => h))) (hmB6.of_block (c67.block _ hmB6.lt (fun h => h))) (by omega) hI7 hsr7 hvi (by omega) (by omega)).mono ?_
  rintro e w8 ⟨L, rfl, hst8, ch8⟩
  have hk8 : Chg (fun b => w5.heap.size ≤ b) w5 w8 := (c57.mono (fun _ _ h => h.elim)).trans ch8 (fun i hi h => hZ i h)
  have H8 := HH.out.kept hk8
  have hb8 : Below w.heap.size w w8 := hb5.trans (hk8.below hb5.size (fun _ h => Nat.le_trans hb5.size h))
  have F := Pl.fin_of (ctx_ok HD.out) path C vn hvi rb HRB.out (s0 C) rfl rfl rfl out HOUT.out
  have FC := result_facts HD.out C path vn hvi
  generalize Pl.wk (ctxOf R comp stn) R.length path (s0 C) vn = r at *
  obtain ⟨fd, s⟩ := r
  have hce : s.circ = C ++ out := F.circ
  have HE : Hid (E3p w8 R comp stn (.slice aR R.length cR) (.slice aC comp.length cC) rv bm w5.heap.size (w5.heap.size + 1) s L.lists bud ao co out) := ⟨H8.m, H8.c7, H8.c8, H8.g, hst8.hmb, hst8.hmB, hst8.keys, hst8.lst⟩
  have hlen : s.circ.length = C.length + out.length := by rw [hce]; simp
  have f2 := FC.hi
  have HOL : Hid (OL C path out s.circ) := ⟨hce, d3, by simp only at f2; omega, d4, HD6.out, fun i hi => by
    have h1 := FC.form (C.length + i) (by omega) (by simp only; omega)
    obtain ⟨t, CF⟩ := circle_form HD.out hvi h1
    have h2 := CF.len
    have h3 := CF.tl
    have h4 : s.circ.getD (C.length + i) [] = out.getD i [] := by
      rw [hce]; simp only [List.getD]; rw [List.getElem?_append_right (Nat.le_add_right _ _), Nat.add_sub_cancel_left]
    simp only at h2
    rw [h4] at h2
    omega⟩
  have hfd : fd = !out.isEmpty := F.fd
  have HF := hideP F
  obtain ⟨aO, cO, hcv, -, -, -, -, -⟩ := ownsRow_shape hst8.crc
  rw [hst8.rln] at hcv
  obtain ⟨ap, cp, hpv8, -, -, -, -, rowO⟩ := hst8.pth.shape
  have HO : Hid (O3 w8 C path out s.circ aK aP aO ap ao cK cP cO cp co kv L.rows ors) := ⟨H8.k, ⟨by rw [← hcv]; exact hst8.crc, hst8.rln, fun i hi => hst8.row i (by rw [hst8.rln]; exact hi)⟩, H8.u, H8.p, by rw [← hpv8]; exact hst8.pth⟩
  have hfe : (fd == decide (0 < out.length)) = true := by
    rw [hfd]
    cases out with
    | nil => rfl
    | cons a l => simp
  obtain ⟨aPy, cPy, hpe2, -, -, -, -, rowP8⟩ := H8.p.shape
  cases hpe2
  have c8 := H8.c8
  rw [hcv, hpv8]
  have HB5 := hb5.size
  have ho64 := HOL.out.o
  have HLEN := hideP hlen
  have hneq : (((s.circ.length : Nat) : Int) != (C.length : Int) + (out.length : Int)) = false := by rw [hlen]; simp
  clear hcv hpv8 hst8 ch8 hk8 H8 H7 hI7 hsr7 hZ hcvb hpvb GI7 lR lK c57 c67 tc7 cpc op7 ch7 fr7 hmb6 hmB6 c56 sz6 s6 s7 hrP rowP hce F FC f2 hfd hlen
  generalize L.rows = ro at *
  generalize L.lists = lists at *
  generalize w5.heap.size = mb at *
  simp only
  go_upto_if 142 with (go_at_call 13; refine (sameInts_eq ap aP path.length cp cP path _ rfl rowO rowP8 (by omega)).mono ?_; rintro e w9 ⟨rfl, q9, hw9⟩; have hc9 : Chg (fun _ => False) w8 w9 := (by rw [hw9]; exact (Chg.refl _ _).drewN q9); have c89 := hc9.cellEq c8 (fun h => h); clear hw9)
  go_step
  go_step
  go_step
  go_step
  exact law3_tail25 _ _ _ _ _ _ _ _ _ _ _ _ _ _ _ _ _ _ _ _ _ _ _ _ _ _ _ _ _ _ _ _ _ _ _ _ _ _ _ _ _ _ _ _ _ _ _ _ _ _ _ _ _ _ _ _ _ _ _ _ _ _ _ _ _ _ _ _ _ _ _ _ _ _ _ _ _ _ _ _ _ _ _ _ _ _ _ _ _ _ _ _ _ _ _ _ _ _ _ _ _ _ _ _ _ _ _ _ _ _ _ _ _ _ _ _ _ _ _ _ _ _ _ _ _ _ _ _ _ _ _ _ _ _ _ _ _ _ _ _ _ _ _ _ _ _ _ _ _ _ _ _ _ _ _ _ _ _ _ _ _ _ _ _ _ _ _ _ _ _ _ _ _ _ _ _ _ _ _ _ _ _ _ _ _ _ _ _ _ _ _ _ _ _ _ _ _ _ _ _ _ _ _ _ _ _ _ _ _ _ _ _ _ _ _ _ _ _ _ _ _ _ _ _ _ _ _ _ _ _ _ _ _ _ _ _ _ _ _ _ _ _ _ _ _ _ _ _ _ _ _ _ _ _ _ _ _ _ _ _ _ _ _ _ _ _ _ _ _ _ _ _ _ _ _ _ _ _ _ _ _ _ _ _ _ _ _ _ _ _ _ _ _ _ _ _ _ _ _ _ _ _ _ _ _ _ _ _ _ _ _ _ _ _ _ _ _ _ _ _ _ _ _ _ _ _ _ _ _ _ _ _ _ _ _ _ _ _ _ _ _ _ _ _ _ _ _ _ _ _ _ _ _ _ _ _ _ _ _ _ _ _ _ _ _ _ _ _ _ _ _ _ R C out comp path vn stn bm mb (mb + 1) aR aC aK aP ao cR cC cK cP co aO ap cO cp s.circ kv ro ors fd rv s lists bud w w8 _ d1 hvn HD HF hbud HE hb8 HO HOL hc9

end Go.Proofs.Qxb6601556a
