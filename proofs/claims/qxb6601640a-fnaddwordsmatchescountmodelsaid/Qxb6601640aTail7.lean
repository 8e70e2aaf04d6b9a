/-
  FnAddWordsMatchesCountModel from 'want := 0' on.
-/
import Derived.Test.Qxb6601640aSuf
import Derived.Deep.DeepCutAuto
namespace Go.Proofs.Qxb6601640a
open Go.RowKit
set_option linter.unusedVariables false
set_option linter.unusedSimpArgs false

section
variable {w7 : World} {a1 a2 a3 a4 : Option Addr} {lc lo L : List Nat} {cfull cb cp ofull ob op i : Nat} {d : Int} {W p Wo po N H M ST FI t0 t1 ts bc : Nat}
theorem T7.p0 (T : T7 w7 a1 a2 a3 a4 lc lo L cfull cb cp ofull ob op i d W p Wo po N H M ST FI t0 t1 ts bc) : 0 < p := Nat.pos_of_ne_zero (fun e => by have := T.wp; rw [e] at this; simp at this)
theorem T7.po0 (T : T7 w7 a1 a2 a3 a4 lc lo L cfull cb cp ofull ob op i d W p Wo po N H M ST FI t0 t1 ts bc) : 0 < po := Nat.pos_of_ne_zero (fun e => by have := T.wpo; rw [e] at this; simp at this)
/-- countAt at c0 .. -/
theorem T7.c3 (T : T7 w7 a1 a2 a3 a4 lc lo L cfull cb cp ofull ob op i d W p Wo po N H M ST FI t0 t1 ts bc) (hn : lc.length ≤ 65536) (m : Int) (h0 : 0 ≤ m) (h1 : m < (N : Int)) :
    Calls Try.prog 15 #[.slice a3 lc.length lc.length, .int .u8 cb, .int .i64 m] w7 fun r w' => r = .returned (.int .u64 (cnt W lc m.toNat : Nat)) ∧ w' = w7 :=
  countAt_int a3 lc.length lc cb W m w7 T.r3 T.wc h0 (in_word T.wp T.p0 (by rw [T.hN]; omega)) (by omega) T.x
/-- .. at the words behind the call .. -/
theorem T7.cL (T : T7 w7 a1 a2 a3 a4 lc lo L cfull cb cp ofull ob op i d W p Wo po N H M ST FI t0 t1 ts bc) (hn : lc.length ≤ 65536) (m : Int) (h0 : 0 ≤ m) (h1 : m < (N : Int)) (w8 : World) (hw : ∃ q, w8 = w7.drewN q) :
    Calls Try.prog 15 #[.slice a1 lc.length lc.length, .int .u8 cb, .int .i64 m] w8 fun r w' => r = .returned (.int .u64 (cnt W L m.toNat : Nat)) ∧ w' = w8 := by
  obtain ⟨q, rfl⟩ := hw
  have := countAt_int a1 lc.length L cb W m (w7.drewN q) T.rL T.wc h0 (by rw [T.r.len]; exact in_word T.wp T.p0 (by rw [T.hN]; omega)) (by rw [T.r.len]; omega) T.r.wb
  rw [T.r.len] at this
  exact this
/-- .. at o0. -/
theorem T7.c4 (T : T7 w7 a1 a2 a3 a4 lc lo L cfull cb cp ofull ob op i d W p Wo po N H M ST FI t0 t1 ts bc) (hm : lo.length ≤ 65536) (m : Int) (h0 : 0 ≤ m) (h1 : m < (M : Int)) :
    Calls Try.prog 15 #[.slice a4 lo.length lo.length, .int .u8 ob, .int .i64 m] w7 fun r w' => r = .returned (.int .u64 (cnt Wo lo m.toNat : Nat)) ∧ w' = w7 :=
  countAt_int a4 lo.length lo ob Wo m w7 T.r4 T.wo h0 (in_word T.wpo T.po0 (by rw [T.hM]; omega)) (by omega) T.xo
theorem T7.drew (T : T7 w7 a1 a2 a3 a4 lc lo L cfull cb cp ofull ob op i d W p Wo po N H M ST FI t0 t1 ts bc) (q : Nat) : T7 (w7.drewN q) a1 a2 a3 a4 lc lo L cfull cb cp ofull ob op i d W p Wo po N H M ST FI t0 t1 ts bc :=
  ⟨T.r, T.boc, T.boo, T.r3, T.r4, T.r2, T.rL, T.x, T.xo, T.wc, T.wo, T.full, T.wp, T.wpo, T.le, T.i0, T.hH, T.hN, T.hM, T.hST⟩
end

set_option maxRecDepth 1000000 in
set_option maxHeartbeats 4000000 in
theorem law7_tail31 (u11 u12 u13 u14 u15 u16 u17 u18 u19 u20 u21 u22 u33 u34 u35 u36 u37 u38 u39 u40 u41 u42 u43 u44 u45 u46 u47 u48 u49 u50 u51 u52 u53 u54 u55 u56 u57 u58 u59 u60 u61 u62 u63 u64 u65 u66 u67 u68 u69 u70 u71 u72 u73 u74 u75 u76 u77 u78 u79 u80 u81 u82 u83 u84 u85 u86 u87 u88 u89 u90 u91 u92 u93 u94 u95 u96 u97 u98 u99 u100 u101 u102 u103 u104 u105 u106 u107 u108 u109 u110 u111 u112 u113 u114 u115 u116 u117 u118 u119 u120 u121 u122 u123 u124 u125 u126 u127 u128 u129 u130 u131 u132 u133 u134 u135 u136 u137 u138 u139 u140 u141 u142 u143 u144 u145 u146 u147 u148 u149 u150 u151 u152 u153 u154 u155 u156 u157 u158 u159 u160 u161 u162 u163 u164 u165 u166 u167 u168 u169 u170 u171 u172 u173 u174 u175 u176 u177 u178 u179 u180 u181 u182 u183 u184 u185 u186 u187 u188 u189 u190 u191 u192 u193 u194 u195 u196 u197 u198 u199 u200 u201 u202 u203 u204 u205 u206 u207 u208 u209 u210 u211 u212 u213 u214 u215 u216 u217 u218 u219 u220 u221 u222 u223 u224 u225 u226 u227 u228 u229 u230 u231 u232 u233 u234 u235 u236 u237 u238 u239 u240 u241 u242 u243 u244 u245 u246 u247 u248 u249 u250 u251 u252 u253 u254 u255 u256 u257 u258 u259 u260 u261 : Value) (a1 a2 a3 a4 : Option Addr) (lc lo L : List Nat) (cfull cb cp ofull ob op i e : Nat) (d : Int) (W p Wo po N H M ST FI t0 t1 ts bc : Nat) (w w7 : World)
    (HT : Hid (T7 w7 a1 a2 a3 a4 lc lo L cfull cb cp ofull ob op i d W p Wo po N H M ST FI t0 t1 ts bc)) (hn : lc.length ≤ 65536) (hm : lo.length ≤ 65536) (h1 : cfull < 18446744073709551616) (hNb : N ≤ 524288) (hSTN : ST ≤ H) (hHN : H ≤ N) (hiST : i ≤ ST) (hid : 0 ≤ (i : Int) + d) (hHM : (H : Int) + d ≤ (M : Int)) (hd1 : -16777216 ≤ d) (hd2 : d ≤ 16777216) (hb7 : Below w.heap.size w w7) :
    Code.wp Try.prog ((Try.f7.body.bind (suffix 31)).getD .skip) (bodyPost Try.prog Try.f7 fun r w' => r = .returned (.bool true) ∧ Below w.heap.size w w') ⟨#[.slice a1 lc.length lc.length, .int .u64 cfull, .int .u8 cb, .int .u8 cp, .slice a2 lo.length lo.length, .int .u64 ofull, .int .u8 ob, .int .u8 op, .int .i64 i, .int .i64 e, .int .i64 d, u11, u12, u13, u14, u15, u16, u17, u18, u19, u20, u21, u22, .slice a3 lc.length lc.length, .slice a4 lo.length lo.length, .pointer (some ⟨bc, 0, none⟩), .pointer (some ⟨bc + 1, 0, none⟩), .int .i64 ST, .int .i64 FI, .int .i64 p, .int .i64 N, .int .i64 H, .int .i64 ST, u33, u34, u35, u36, u37, u38, u39, u40, u41, u42, u43, u44, u45, u46, u47, u48, u49, u50, u51, u52, u53, u54, u55, u56, u57, u58, u59, u60, u61, u62, u63, u64, u65, u66, u67, u68, u69, u70, u71, u72, u73, u74, u75, u76, u77, u78, u79, u80, u81, u82, u83, u84, u85, u86, u87, u88, u89, u90, u91, u92, u93, u94, u95, u96, u97, u98, u99, u100, u101, u102, u103, u104, u105, u106, u107, u108, u109, u110, u111, u112, u113, u114, u115, u116, u117, u118, u119, u120, u121, u122, u123, u124, u125, u126, u127, u128, u129, u130, u131, u132, u133, u134, u135, u136, u137, u138, u139, u140, u141, u142, u143, u144, u145, u146, u147, u148, u149, u150, u151, u152, u153, u154, u155, u156, u157, u158, u159, u160, u161, u162, u163, u164, u165, u166, u167, u168, u169, u170, u171, u172, u173, u174, u175, u176, u177, u178, u179, u180, u181, u182, u183, u184, u185, u186, u187, u188, u189, u190, u191, u192, u193, u194, u195, u196, u197, u198, u199, u200, u201, u202, u203, u204, u205, u206, u207, u208, u209, u210, u211, u212, u213, u214, u215, u216, u217, u218, u219, u220, u221, u222, u223, u224, u225, u226, u227, u228, u229, u230, u231, u232, u233, u234, u235, u236, u237, u238, u239, u240, u241, u242, u243, u244, u245, u246, u247, u248, u249, u250, u251, u252, u253, u254, u255, u256, u257, u258, u259, u260, u261], []⟩ w7 := by
  conv => arg 2; whnf
  go_wp2_with fail
  go_loop [36, 37] (fun wv mv => ∃ k mn : Nat, mv = .int .i64 mn ∧ i ≤ mn ∧ mn ≤ ST ∧ Hid (mn = i + k) ∧ wv = .int .i64 ((marks (isNew W lc (ocOf Wo lo d) i) k : Nat) : Int)) (fun _ mv => ST - (intOf mv).toNat)
  case atStart => exact ⟨0, i, rfl, Nat.le_refl _, hiST, rfl, rfl⟩
  case round =>
    obtain ⟨k, mn, rfl, hm1, hm2, HMN, rfl⟩ := hrel
    by_cases hlt : mn < ST
    · have hli : (mn : Int) < (ST : Int) := by omega
      have k1 := HT.out.c3 hn (mn : Int) (by omega) (by omega)
      have k2 := HT.out.c4 hm ((mn : Int) + d) (by omega) (by omega)
      have hmk : marks (isNew W lc (ocOf Wo lo d) i) (k + 1) = marks (isNew W lc (ocOf Wo lo d) i) k + if isNew W lc (ocOf Wo lo d) i k = true then 1 else 0 := rfl
      have hin : isNew W lc (ocOf Wo lo d) i k = decide (cnt W lc mn = 0 ∧ cnt Wo lo ((mn : Int) + d).toNat ≠ 0) := by
        unfold isNew ocOf
        rw [← HMN.out]
      rw [hin] at hmk
      have hmb := marks_le (isNew W lc (ocOf Wo lo d) i) k
      have hkb : k ≤ 524288 := by have := HMN.out; omega
      rw [Int.toNat_natCast] at k1
      generalize cnt W lc mn = x at *
      generalize cnt Wo lo ((mn : Int) + d).toNat = yv at *
      generalize hmk1 : marks (isNew W lc (ocOf Wo lo d) i) k = mk at *
      have HMK := hideP hmk
      clear hmk hin hmk1
      have hnext : mn + 1 = i + (k + 1) := by have := HMN.out; omega
      have HNX := hideP hnext
      clear hnext
      by_cases hx : x = 0
      · subst hx
        by_cases hy : yv = 0
        · subst hy
          go_wp2_with fail
          refine k1.mono ?_
          rintro r w' ⟨rfl, hw'⟩
          rw [hw']
          clear hw'
          go_wp2_with fail
          refine k2.mono ?_
          rintro r w' ⟨rfl, hw'⟩
          rw [hw']
          clear hw'
          go_wp2_with fail
          go_round
          case rel => exact ⟨k + 1, mn + 1, by go_num, by omega, by omega, HNX.out, by rw [HMK.out]; simp⟩
          case measure => simp [intOf]; omega
        · have hyb : ((yv : Int) != 0) = true := by rw [bne_iff_ne]; omega
          go_wp2_with fail
          refine k1.mono ?_
          rintro r w' ⟨rfl, hw'⟩
          rw [hw']
          clear hw'
          go_wp2_with fail
          refine k2.mono ?_
          rintro r w' ⟨rfl, hw'⟩
          rw [hw']
          clear hw'
          go_wp2_with fail
          go_round
          case rel => exact ⟨k + 1, mn + 1, by go_num, by omega, by omega, HNX.out, by rw [HMK.out]; simp [hy]⟩
          case measure => simp [intOf]; omega
      · have hxb : ((x : Int) == 0) = false := by rw [beq_eq_false_iff_ne]; omega
        go_wp2_with fail
        refine k1.mono ?_
        rintro r w' ⟨rfl, hw'⟩
        rw [hw']
        clear hw'
        go_wp2_with fail
        go_round
        case rel => exact ⟨k + 1, mn + 1, by go_num, by omega, by omega, HNX.out, by rw [HMK.out]; simp [hx]⟩
        case measure => simp [intOf]; omega
    · obtain rfl : mn = ST := by omega
      have hkk : k = (ts - t0) * p := by
        have h1 := HMN.out
        have h2 := HT.out.hST
        have h3 := HT.out.i0
        rw [Nat.sub_mul, h2, h3]
        omega
      have hfi := HT.out.r.fi
      rw [HT.out.i0, ← hkk] at hfi
      rw [← hfi]
      clear hfi hkk
      have hbc := HT.out.boc
      have hne1 : ((mn : Int) != (mn : Int)) = false := by simp
      have hne2 : ((FI : Int) != (FI : Int)) = false := by simp
      go_wp2_with fail
      refine (ZZFields_any _ _ _ _ _ w7 hbc).mono ?_
      rintro r w8 ⟨rfl, q8, hw8⟩
      have HT8 : Hid (T7 w8 a1 a2 a3 a4 lc lo L cfull cb cp ofull ob op i d W p Wo po N H M mn FI t0 t1 ts bc) := by rw [hw8]; exact HT.out.drew q8
      have hb8 : Below w.heap.size w w8 := by rw [hw8]; exact ((Chg.refl (fun _ => False) w7).drewN q8).below (Nat.le_refl _) (fun _ h => h.elim) |> fun h => hb7.trans ⟨h.os, h.tape, h.output, h.size, fun k hk => h.block k (Nat.lt_of_lt_of_le hk hb7.size)⟩
      clear hw8 HT hbc hb7
      go_wp2_with fail
      go_loop [42, 43] (fun mv _ => ∃ m : Nat, m ≤ N ∧ mv = .int .i64 m) (fun mv _ => N - (intOf mv).toNat)
      case atStart => exact ⟨0, Nat.zero_le _, rfl⟩
      case round =>
        obtain ⟨m, hm2, rfl⟩ := hrel
        by_cases hlt : m < N
        · have hli : (m : Int) < (N : Int) := by omega
          have k1 := HT8.out.c3 hn (m : Int) (by omega) (by omega)
          have k3 := HT8.out.cL hn (m : Int) (by omega) (by omega) w8 ⟨0, rfl⟩
          have hcn := HT8.out.r.cn m (by rw [HT8.out.hN]; exact hlt)
          rw [HT8.out.i0, HT8.out.hST] at hcn
          rw [Int.toNat_natCast] at k1 k3
          by_cases hin : i ≤ m ∧ m < mn
          · have k2 := HT8.out.c4 hm ((m : Int) + d) (by omega) (by omega)
            rw [if_pos hin] at hcn
            unfold ocOf at hcn
            have hlt64 : cnt W lc m + cnt Wo lo ((m : Int) + d).toNat < 18446744073709551616 := by
              rw [← hcn]
              exact Nat.lt_of_lt_of_le (cnt_lt _ _ _) (by have := HT8.out.wp; have h2 := HT8.out.p0; show 2 ^ W ≤ 2 ^ 64; exact Nat.pow_le_pow_right (by decide) (by rw [← this]; exact Nat.le_mul_of_pos_right _ h2))
            rw [hcn] at k3
            have g1 : (i : Int) ≤ (m : Int) := by omega
            have g2 : (m : Int) < (mn : Int) := by omega
            clear hcn hin
            generalize cnt W lc m = x at *
            generalize cnt Wo lo ((m : Int) + d).toNat = yv at *
            go_wp2_with fail
            refine k1.mono ?_
            rintro r w' ⟨rfl, hw'⟩
            rw [hw']
            clear hw'
            go_wp2_with fail
            refine k2.mono ?_
            rintro r w' ⟨rfl, hw'⟩
            rw [hw']
            clear hw'
            go_wp2_with fail
            refine k3.mono ?_
            rintro r w' ⟨rfl, hw'⟩
            rw [hw']
            clear hw'
            go_wp2_with fail
            go_round
            case rel => exact ⟨m + 1, by omega, by go_num⟩
            case measure => simp [intOf]; omega
          · rw [if_neg hin] at hcn
            rw [hcn] at k3
            clear hcn
            generalize cnt W lc m = x at *
            by_cases hge : i ≤ m
            · have g1 : (i : Int) ≤ (m : Int) := by omega
              have g2 : ¬ ((m : Int) < (mn : Int)) := by omega
              clear hin
              go_wp2_with fail
              refine k1.mono ?_
              rintro r w' ⟨rfl, hw'⟩
              rw [hw']
              clear hw'
              go_wp2_with fail
              refine k3.mono ?_
              rintro r w' ⟨rfl, hw'⟩
              rw [hw']
              clear hw'
              go_wp2_with fail
              go_round
              case rel => exact ⟨m + 1, by omega, by go_num⟩
              case measure => simp [intOf]; omega
            · have g1 : ¬ ((i : Int) ≤ (m : Int)) := by omega
              clear hin
              go_wp2_with fail
              refine k1.mono ?_
              rintro r w' ⟨rfl, hw'⟩
              rw [hw']
              clear hw'
              go_wp2_with fail
              refine k3.mono ?_
              rintro r w' ⟨rfl, hw'⟩
              rw [hw']
              clear hw'
              go_wp2_with fail
              go_round
              case rel => exact ⟨m + 1, by omega, by go_num⟩
              case measure => simp [intOf]; omega
        · have hli : ¬ ((m : Int) < (N : Int)) := by omega
          have hbo := HT8.out.boo
          go_wp2_with fail
          refine (ZZFields_any _ _ _ _ _ w8 hbo).mono ?_
          rintro r w9 ⟨rfl, q9, hw9⟩
          have HT9 : Hid (T7 w9 a1 a2 a3 a4 lc lo L cfull cb cp ofull ob op i d W p Wo po N H M mn FI t0 t1 ts bc) := by rw [hw9]; exact HT8.out.drew q9
          have c9 : Chg (fun _ => False) w8 w9 := by rw [hw9]; exact (Chg.refl _ w8).drewN q9
          clear hw9 hbo
          go_wp2_with fail
          refine (sameWords_any a2 a4 lo.length lo.length lo lo w9 HT9.out.r2 HT9.out.r4 (by omega) (by omega)).mono ?_
          rintro r w10 ⟨rfl, q10, hw10⟩
          have c10 : Chg (fun _ => False) w8 w10 := by rw [hw10]; exact c9.drewN q10
          rw [show sameI lo lo = true by simp [sameI]]
          clear hw10
          go_wp2_with fail
          go_ret
          exact ⟨rfl, hb8.trans (c10.below hb8.size (fun _ h => h.elim))⟩

end Go.Proofs.Qxb6601640a
