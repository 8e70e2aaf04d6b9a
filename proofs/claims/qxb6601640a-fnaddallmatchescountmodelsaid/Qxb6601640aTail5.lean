/-
  FnAddAllMatchesCountModel from 'var top uint64' on.
-/
import Derived.Test.Qxb6601640aPrem5
import Derived.Test.Qxb6601640aLaw6
import Derived.Deep.DeepCutAuto
namespace Go.Proofs.Qxb6601640a
open Go.RowKit
set_option linter.unusedVariables false
set_option linter.unusedSimpArgs false

/-- What c holds behind addAll, plainly. -/
structure R5 (C OC : Nat → Nat) (N j n b0 b W p : Nat) (l : List Nat) (FI : Nat) : Prop where
  wid : Wid b W
  wp : W * p = 64
  len : l.length * p = N
  wb : WB l
  ge : b0 ≤ b
  least : Least C OC j n b0 b
  cn : ∀ m, m < N → cnt W l m = if j ≤ m ∧ m < j + n then C m + OC m else C m
  fi : FI = marks (isN C OC j) n

theorem marks_zero_lt {f : Nat → Bool} {n : Nat} (h : ∀ x, x < n → f x = false) : marks f n = 0 := by
  rw [marks_congr (g := fun _ => false) h]
  exact marks_zero (fun _ => rfl) n

theorem marks_seg {C OC : Nat → Nat} {i0 j n i hi : Nat} (h0 : i0 ≤ j) (h1 : j + n ≤ i) (h2 : i ≤ hi) (hz : ∀ m, i0 ≤ m → m < hi → ¬ (j ≤ m ∧ m < j + n) → OC m = 0) : marks (isN C OC i0) (i - i0) = marks (isN C OC j) n := by
  have e : i - i0 = (j - i0) + n + (i - (j + n)) := by omega
  rw [e, marks_add, marks_add]
  have z1 : marks (isN C OC i0) (j - i0) = 0 := marks_zero_lt (fun x hx => by
    unfold isN
    rw [decide_eq_false_iff_not]
    exact fun h => h.2 (hz _ (by omega) (by omega) (by omega)))
  have z2 : marks (fun k => isN C OC i0 (j - i0 + n + k)) (i - (j + n)) = 0 := marks_zero_lt (fun x hx => by
    unfold isN
    rw [decide_eq_false_iff_not]
    exact fun h => h.2 (hz _ (by omega) (by omega) (by omega)))
  rw [z1, z2, Nat.zero_add, Nat.add_zero]
  apply marks_congr
  intro x hx
  unfold isN
  rw [show i0 + (j - i0 + x) = j + x by omega]

/-- What function 5 holds behind the call. -/
structure T5 (w4 : World) (a1 a2 a3 a4 aL : Option Addr) (lc lo L : List Nat) (cfull cb ofull ob op j n : Nat) (d : Int) (Wc pc Wo po N M FI bs bc b2 W2 p2 : Nat) : Prop where
  r : R5 (cnt Wc lc) (ocOf Wo lo d) N j n bs b2 W2 p2 L FI
  boc : Box w4 bc (.slice aL L.length L.length) (2 ^ W2 - 1) b2 (6 - b2)
  boo : Box w4 (bc + 1) (.slice a2 lo.length lo.length) ofull ob op
  r3 : RowW w4 a3 lc
  r4 : RowW w4 a4 lo
  r2 : RowW w4 a2 lo
  rL : RowW w4 aL L
  x : WB lc
  xo : WB lo
  wc : Wid cb Wc
  wo : Wid ob Wo
  wp : Wc * pc = 64
  wpo : Wo * po = 64
  hN : lc.length * pc = N
  hM : lo.length * po = M
  sum : ∀ m, j ≤ m → m < j + n → cnt Wc lc m + ocOf Wo lo d m < 18446744073709551616
theorem T5.drew {w4 : World} {a1 a2 a3 a4 aL : Option Addr} {lc lo L : List Nat} {cfull cb ofull ob op j n : Nat} {d : Int} {Wc pc Wo po N M FI bs bc b2 W2 p2 : Nat} (T : T5 w4 a1 a2 a3 a4 aL lc lo L cfull cb ofull ob op j n d Wc pc Wo po N M FI bs bc b2 W2 p2) (q : Nat) : T5 (w4.drewN q) a1 a2 a3 a4 aL lc lo L cfull cb ofull ob op j n d Wc pc Wo po N M FI bs bc b2 W2 p2 :=
  ⟨T.r, T.boc, T.boo, T.r3, T.r4, T.r2, T.rL, T.x, T.xo, T.wc, T.wo, T.wp, T.wpo, T.hN, T.hM, T.sum⟩

set_option maxRecDepth 1000000 in
set_option maxHeartbeats 8000000 in
theorem law5_tail21 (u11 u12 u13 u14 u15 u16 u17 u18 u19 u20 u21 u22 u31 u32 u33 u34 u35 u36 u37 u38 u39 u40 u41 u42 u43 u44 u45 u46 u47 u48 u49 u50 u51 u52 u53 u54 u55 u56 u57 u58 u59 u60 u61 u62 u63 u64 u65 u66 u67 u68 u69 u70 u71 u72 u73 u74 u75 u76 u77 u78 u79 u80 u81 u82 u83 u84 u85 u86 u87 u88 u89 u90 u91 u92 u93 u94 u95 u96 u97 u98 u99 u100 u101 u102 u103 u104 u105 u106 u107 u108 u109 u110 u111 u112 u113 u114 u115 u116 u117 u118 u119 u120 u121 u122 u123 u124 u125 u126 u127 u128 u129 u130 u131 u132 u133 u134 u135 u136 u137 u138 u139 u140 u141 u142 u143 u144 u145 u146 u147 u148 u149 u150 u151 u152 u153 u154 u155 u156 u157 u158 u159 u160 u161 u162 u163 u164 u165 u166 u167 u168 u169 u170 u171 u172 u173 u174 u175 u176 u177 u178 u179 u180 u181 u182 u183 u184 u185 u186 u187 u188 u189 u190 u191 u192 u193 u194 u195 u196 u197 u198 u199 u200 u201 u202 u203 u204 u205 u206 u207 u208 u209 u210 u211 u212 u213 u214 u215 u216 u217 u218 u219 u220 u221 u222 u223 u224 u225 u226 u227 u228 u229 u230 u231 u232 u233 u234 u235 u236 u237 u238 u239 u240 u241 u242 u243 u244 u245 u246 : Value) (a1 a2 a3 a4 aL : Option Addr) (lc lo L : List Nat) (cfull cb cp ofull ob op j k n : Nat) (d : Int) (Wc pc Wo po N M FI bs bc b2 W2 p2 : Nat) (w w4 : World)
    (HT : Hid (T5 w4 a1 a2 a3 a4 aL lc lo L cfull cb ofull ob op j n d Wc pc Wo po N M FI bs bc b2 W2 p2)) (hn : lc.length ≤ 65536) (hm : lo.length ≤ 65536) (hNb : N ≤ 524288) (hMb : M ≤ 524288) (hjn : j + n ≤ N) (hjd : 0 ≤ (j : Int) + d) (hjM : (j : Int) + (n : Int) + d ≤ (M : Int)) (hbs3 : 3 ≤ bs) (hb7 : Below w.heap.size w w4) :
    Code.wp Try.prog ((Try.f5.body.bind (suffix 21)).getD .skip) (bodyPost Try.prog Try.f5 fun r w' => r = .returned (.bool true) ∧ Below w.heap.size w w') ⟨#[.slice a1 lc.length lc.length, .int .u64 cfull, .int .u8 cb, .int .u8 cp, .slice a2 lo.length lo.length, .int .u64 ofull, .int .u8 ob, .int .u8 op, .int .i64 j, .int .i64 k, .int .i64 n, u11, u12, u13, u14, u15, u16, u17, u18, u19, u20, u21, u22, .slice a3 lc.length lc.length, .slice a4 lo.length lo.length, .pointer (some ⟨bc, 0, none⟩), .pointer (some ⟨bc + 1, 0, none⟩), .int .i64 FI, .int .i64 N, .int .i64 d, .int .u8 bs, u31, u32, u33, u34, u35, u36, u37, u38, u39, u40, u41, u42, u43, u44, u45, u46, u47, u48, u49, u50, u51, u52, u53, u54, u55, u56, u57, u58, u59, u60, u61, u62, u63, u64, u65, u66, u67, u68, u69, u70, u71, u72, u73, u74, u75, u76, u77, u78, u79, u80, u81, u82, u83, u84, u85, u86, u87, u88, u89, u90, u91, u92, u93, u94, u95, u96, u97, u98, u99, u100, u101, u102, u103, u104, u105, u106, u107, u108, u109, u110, u111, u112, u113, u114, u115, u116, u117, u118, u119, u120, u121, u122, u123, u124, u125, u126, u127, u128, u129, u130, u131, u132, u133, u134, u135, u136, u137, u138, u139, u140, u141, u142, u143, u144, u145, u146, u147, u148, u149, u150, u151, u152, u153, u154, u155, u156, u157, u158, u159, u160, u161, u162, u163, u164, u165, u166, u167, u168, u169, u170, u171, u172, u173, u174, u175, u176, u177, u178, u179, u180, u181, u182, u183, u184, u185, u186, u187, u188, u189, u190, u191, u192, u193, u194, u195, u196, u197, u198, u199, u200, u201, u202, u203, u204, u205, u206, u207, u208, u209, u210, u211, u212, u213, u214, u215, u216, u217, u218, u219, u220, u221, u222, u223, u224, u225, u226, u227, u228, u229, u230, u231, u232, u233, u234, u235, u236, u237, u238, u239, u240, u241, u242, u243, u244, u245, u246], []⟩ w4 := by
  conv => arg 2; whnf
  have T := HT.out
  obtain ⟨hper2, hbb3, hbb6, hW264, hp20⟩ := wid_per T.r.wid T.r.wp
  have hper2' : (64 : Int) / 2 ^ b2 = (p2 : Int) := by rw [← hper2, Nat.min_eq_left (by omega)]
  have hL2N : (L.length : Int) * (p2 : Int) = (N : Int) := by
    have := T.r.len
    rw [← this]; simp
  have hL2b : L.length ≤ 524288 := by
    have := T.r.len
    have h7 : L.length * 1 ≤ L.length * p2 := Nat.mul_le_mul_left _ hp20
    omega
  have hpc0 : 0 < pc := Nat.pos_of_ne_zero (fun e => by have := T.wp; rw [e] at this; simp at this)
  have hpo0 : 0 < po := Nat.pos_of_ne_zero (fun e => by have := T.wpo; rw [e] at this; simp at this)
  obtain ⟨e, he⟩ : ∃ e, j + n = e := ⟨_, rfl⟩
  have hei : (j : Int) + (n : Int) = (e : Int) := by omega
  have HE := hideP he
  have hsub : (6 : Int) - (b2 : Int) = ((6 - b2 : Nat) : Int) := by omega
  clear T he
  go_wp2_with fail
  go_loop [31, 32, 33, 34, 35] (fun tv wv mv _ _ => ∃ m mx q wn : Nat, mv = .int .i64 m ∧ tv = .int .u64 mx ∧ wv = .int .i64 wn ∧ j ≤ m ∧ m ≤ e ∧ mx < 18446744073709551616 ∧ wn ≤ 524288 ∧ Hid (m = j + q) ∧ Hid (wn = marks (isN (cnt Wc lc) (ocOf Wo lo d) j) q) ∧ Hid (∀ m', j ≤ m' → m' < m → cnt Wc lc m' + ocOf Wo lo d m' ≤ mx) ∧ Hid (mx = 0 ∨ ∃ m', j ≤ m' ∧ m' < e ∧ mx = cnt Wc lc m' + ocOf Wo lo d m')) (fun _ _ mv _ _ => e - (intOf mv).toNat)
  case atStart => exact ⟨j, 0, 0, 0, rfl, rfl, rfl, Nat.le_refl _, by have := HE.out; omega, by decide, Nat.zero_le _, rfl, rfl, fun m' h7 h8 => absurd h8 (by omega), .inl rfl⟩
  case round =>
    obtain ⟨m, mx, q, wn, rfl, rfl, rfl, hm1, hm2, hmx, hwn, HQ, HW, HM1, HM2⟩ := hrel
    have hE := HE.out
    by_cases hlt : m < e
    · have hli : (m : Int) < (e : Int) := by omega
      have k1 := countAt_any a3 lc.length lc cb m Wc w4 HT.out.r3 HT.out.wc (in_word HT.out.wp hpc0 (by rw [HT.out.hN]; omega)) (by omega) HT.out.x
      have k2 := countAt_int a4 lo.length lo ob Wo ((m : Int) + d) w4 HT.out.r4 HT.out.wo (by omega) (in_word HT.out.wpo hpo0 (by rw [HT.out.hM]; omega)) (by omega) HT.out.xo
      have hoc : cnt Wo lo ((m : Int) + d).toNat = ocOf Wo lo d m := rfl
      rw [hoc] at k2
      have hs := HT.out.sum m hm1 (by omega)
      have HN1 : Hid (mx < cnt Wc lc m + ocOf Wo lo d m → ∀ m', j ≤ m' → m' < m + 1 → cnt Wc lc m' + ocOf Wo lo d m' ≤ cnt Wc lc m + ocOf Wo lo d m) := fun h7 m' h8 h9 => by
        by_cases h10 : m' = m
        · rw [h10]; exact Nat.le_refl _
        · have := HM1.out m' h8 (by omega); omega
      have HN2 : Hid (¬ (mx < cnt Wc lc m + ocOf Wo lo d m) → ∀ m', j ≤ m' → m' < m + 1 → cnt Wc lc m' + ocOf Wo lo d m' ≤ mx) := fun h7 m' h8 h9 => by
        by_cases h10 : m' = m
        · rw [h10]; omega
        · exact HM1.out m' h8 (by omega)
      have HN3 : Hid (∃ m', j ≤ m' ∧ m' < e ∧ cnt Wc lc m + ocOf Wo lo d m = cnt Wc lc m' + ocOf Wo lo d m') := ⟨m, hm1, hlt, rfl⟩
      have hnw : marks (isN (cnt Wc lc) (ocOf Wo lo d) j) (q + 1) = wn + if (cnt Wc lc m = 0 ∧ ocOf Wo lo d m ≠ 0) then 1 else 0 := by
        show marks (isN (cnt Wc lc) (ocOf Wo lo d) j) q + (if isN (cnt Wc lc) (ocOf Wo lo d) j q = true then 1 else 0) = _
        rw [← HW.out]
        unfold isN
        rw [← HQ.out]
        simp
      have hwb := marks_le (isN (cnt Wc lc) (ocOf Wo lo d) j) (q + 1)
      have hnx : m + 1 = j + (q + 1) := by have := HQ.out; omega
      have HNX := hideP hnx
      generalize hxx : cnt Wc lc m = x at *
      generalize hyy : ocOf Wo lo d m = yv at *
      rw [hnw] at hwb
      have HNW := hideP hnw
      have hqe : q + 1 ≤ 524288 := by have := HQ.out; omega
      have hwq := marks_le (isN (cnt Wc lc) (ocOf Wo lo d) j) q
      have hwq' : wn ≤ q := by rw [HW.out]; exact hwq
      clear hoc hnw hnx hxx hyy hwq hwb
      by_cases hgt : mx < x + yv
      · have g2 : (x : Int) + (yv : Int) > (mx : Int) := by omega
        have g2' : decide ((mx : Int) < (x : Int) + (yv : Int)) = true := by rw [decide_eq_true_iff]; omega
        have H1 := hideP (HN1.out hgt)
        clear HN1 HN2
        by_cases hx : x = 0
        · subst hx
          have hyb : ((yv : Int) != 0) = true := by rw [bne_iff_ne]; omega
          have hy0 : yv ≠ 0 := by omega
          have HW2 : Hid (wn + 1 = marks (isN (cnt Wc lc) (ocOf Wo lo d) j) (q + 1)) := by
            rw [HNW.out, if_pos ⟨rfl, hy0⟩]; rfl
          clear HNW hy0
          go_wp2_with fail
          refine k1.mono ?_
          rintro r w' ⟨rfl, hw'⟩
          rw [hw']
          clear hw'
          go_wp2_with fail
          refine k2.mono ?_
          rintro r w' ⟨rfl, hw'⟩
          rw [hw']
          clear hw'
          go_wp2_with fail
          go_round
          case rel => exact ⟨m + 1, 0 + yv, q + 1, wn + 1, by go_num, by go_num, by go_num, by omega, by omega, by omega, by omega, HNX.out, HW2.out, H1.out, .inr HN3.out⟩
          case measure => simp [intOf]; omega
        · have hxb : ((x : Int) == 0) = false := by rw [beq_eq_false_iff_ne]; omega
          have HW2 : Hid (wn = marks (isN (cnt Wc lc) (ocOf Wo lo d) j) (q + 1)) := by
            rw [HNW.out, if_neg (fun h => hx h.1)]; rfl
          clear HNW
          go_wp2_with fail
          refine k1.mono ?_
          rintro r w' ⟨rfl, hw'⟩
          rw [hw']
          clear hw'
          go_wp2_with fail
          refine k2.mono ?_
          rintro r w' ⟨rfl, hw'⟩
          rw [hw']
          clear hw'
          go_wp2_with fail
          go_round
          case rel => exact ⟨m + 1, x + yv, q + 1, wn, by go_num, by go_num, by go_num, by omega, by omega, by omega, by omega, HNX.out, HW2.out, H1.out, .inr HN3.out⟩
          case measure => simp [intOf]; omega
      · have g2 : ¬ ((x : Int) + (yv : Int) > (mx : Int)) := by omega
        have H1 := hideP (HN2.out hgt)
        clear HN1 HN2
        by_cases hx : x = 0
        · subst hx
          by_cases hy : yv = 0
          · subst hy
            have HW2 : Hid (wn = marks (isN (cnt Wc lc) (ocOf Wo lo d) j) (q + 1)) := by
              rw [HNW.out, if_neg (fun h => h.2 rfl)]; rfl
            clear HNW
            go_wp2_with fail
            refine k1.mono ?_
            rintro r w' ⟨rfl, hw'⟩
            rw [hw']
            clear hw'
            go_wp2_with fail
            refine k2.mono ?_
            rintro r w' ⟨rfl, hw'⟩
            rw [hw']
            clear hw'
            go_wp2_with fail
            go_round
            case rel => exact ⟨m + 1, mx, q + 1, wn, by go_num, by go_num, by go_num, by omega, by omega, by omega, by omega, HNX.out, HW2.out, H1.out, HM2.out⟩
            case measure => simp [intOf]; omega
          · have hyb : ((yv : Int) != 0) = true := by rw [bne_iff_ne]; omega
            have HW2 : Hid (wn + 1 = marks (isN (cnt Wc lc) (ocOf Wo lo d) j) (q + 1)) := by
              rw [HNW.out, if_pos ⟨rfl, hy⟩]; rfl
            clear HNW
            go_wp2_with fail
            refine k1.mono ?_
            rintro r w' ⟨rfl, hw'⟩
            rw [hw']
            clear hw'
            go_wp2_with fail
            refine k2.mono ?_
            rintro r w' ⟨rfl, hw'⟩
            rw [hw']
            clear hw'
            go_wp2_with fail
            go_round
            case rel => exact ⟨m + 1, mx, q + 1, wn + 1, by go_num, by go_num, by go_num, by omega, by omega, by omega, by omega, HNX.out, HW2.out, H1.out, HM2.out⟩
            case measure => simp [intOf]; omega
        · have hxb : ((x : Int) == 0) = false := by rw [beq_eq_false_iff_ne]; omega
          have HW2 : Hid (wn = marks (isN (cnt Wc lc) (ocOf Wo lo d) j) (q + 1)) := by
            rw [HNW.out, if_neg (fun h => hx h.1)]; rfl
          clear HNW
          go_wp2_with fail
          refine k1.mono ?_
          rintro r w' ⟨rfl, hw'⟩
          rw [hw']
          clear hw'
          go_wp2_with fail
          refine k2.mono ?_
          rintro r w' ⟨rfl, hw'⟩
          rw [hw']
          clear hw'
          go_wp2_with fail
          go_round
          case rel => exact ⟨m + 1, mx, q + 1, wn, by go_num, by go_num, by go_num, by omega, by omega, by omega, by omega, HNX.out, HW2.out, H1.out, HM2.out⟩
          case measure => simp [intOf]; omega
    · have hli : ¬ ((m : Int) < (e : Int)) := by omega
      obtain rfl : m = e := by omega
      have hwF : wn = FI := by
        rw [HW.out, HT.out.r.fi]
        congr 1
        have := HQ.out
        omega
      subst hwF
      have hv2 : mx < 2 ^ W2 := by
        rcases HM2.out with h | ⟨m', h7, h8, h9⟩
        · rw [h]; exact Nat.two_pow_pos W2
        · have := HT.out.r.cn m' (by omega)
          rw [if_pos ⟨h7, by omega⟩] at this
          rw [h9, ← this]
          exact cnt_lt _ _ _
      have hll : ∀ b' W', Wid b' W' → bs ≤ b' → b' < b2 → 2 ^ W' ≤ mx := fun b' W' h7 h8 h9 => by
        obtain ⟨m', h10, h11, h12⟩ := HT.out.r.least b' W' h7 h8 h9
        have := HM1.out m' h10 (by omega)
        omega
      have hnar := narrowest_any bs b2 W2 mx HT.out.r.wid HT.out.r.ge hbs3 hv2 hmx hll w4
      have hmask := fun w' => maskOf_any b2 W2 HT.out.r.wid w'
      have hBx := HT.out.boc
      have HNAR := hideP hnar
      have HMASK := hideP hmask
      generalize hfl : 2 ^ W2 - 1 = fl2 at *
      have hneF : ((wn : Int) != (wn : Int)) = false := by simp
      clear hnar hmask hv2 hll hE
      go_wp2_with fail
      refine HNAR.out.mono ?_
      rintro r w' ⟨rfl, hw'⟩
      rw [hw']
      clear hw'
      go_wp2_with fail
      refine (ZZFields_any _ _ _ _ _ w4 hBx).mono ?_
      rintro r w5 ⟨rfl, q5, hw5⟩
      have HT5 : Hid (T5 w5 a1 a2 a3 a4 aL lc lo L cfull cb ofull ob op j n d Wc pc Wo po N M wn bs bc b2 W2 p2) := by rw [hw5]; exact HT.out.drew q5
      have hb5 : Below w.heap.size w w5 := by
        rw [hw5]
        exact hb7.trans (((Chg.refl (fun _ => False) w4).drewN q5).below hb7.size (fun _ h => h.elim))
      clear hw5 hBx HT hb7
      go_wp2_with fail
      refine (HMASK.out _).mono ?_
      rintro r w' ⟨rfl, hw'⟩
      rw [hw']
      clear hw'
      go_wp2_with fail
      go_loop [41, 42] (fun mv _ => ∃ q : Nat, q ≤ N ∧ mv = .int .i64 q) (fun mv _ => N - (intOf mv).toNat)
      case atStart => exact ⟨0, Nat.zero_le _, rfl⟩
      case round =>
        obtain ⟨q, hq, rfl⟩ := hrel
        by_cases hlt2 : q < N
        · have hki : (q : Int) < (N : Int) := by omega
          have k1 := countAt_any a3 lc.length lc cb q Wc w5 HT5.out.r3 HT5.out.wc (in_word HT5.out.wp hpc0 (by rw [HT5.out.hN]; exact hlt2)) (by omega) HT5.out.x
          have k3 := countAt_any aL L.length L b2 q W2 w5 HT5.out.rL HT5.out.r.wid (in_word HT5.out.r.wp hp20 (by rw [HT5.out.r.len]; exact hlt2)) (by omega) HT5.out.r.wb
          have hcn := HT5.out.r.cn q hlt2
          by_cases hin : j ≤ q ∧ q < j + n
          · rw [if_pos hin] at hcn
            rw [hcn] at k3
            have hs := HT5.out.sum q hin.1 hin.2
            have k2 := countAt_int a4 lo.length lo ob Wo ((q : Int) + d) w5 HT5.out.r4 HT5.out.wo (by omega) (in_word HT5.out.wpo hpo0 (by rw [HT5.out.hM]; omega)) (by omega) HT5.out.xo
            have hoc : cnt Wo lo ((q : Int) + d).toNat = ocOf Wo lo d q := rfl
            rw [hoc] at k2
            have hE2 := HE.out
            have g2 : (j : Int) ≤ (q : Int) := by omega
            have g3 : (q : Int) < (m : Int) := by omega
            clear hcn hin hE2 hoc
            generalize cnt Wc lc q = x at *
            generalize ocOf Wo lo d q = yv at *
            go_wp2_with fail
            refine k1.mono ?_
            rintro r w' ⟨rfl, hw'⟩
            rw [hw']
            clear hw'
            go_wp2_with fail
            refine k2.mono ?_
            rintro r w' ⟨rfl, hw'⟩
            rw [hw']
            clear hw'
            go_wp2_with fail
            refine k3.mono ?_
            rintro r w' ⟨rfl, hw'⟩
            rw [hw']
            clear hw'
            go_wp2_with fail
            go_round
            case rel => exact ⟨q + 1, by omega, by go_num⟩
            case measure => simp [intOf]; omega
          · rw [if_neg hin] at hcn
            rw [hcn] at k3
            have hE2 := HE.out
            clear hcn
            generalize cnt Wc lc q = x at *
            by_cases hge : j ≤ q
            · have g2 : (j : Int) ≤ (q : Int) := by omega
              have g3 : ¬ ((q : Int) < (m : Int)) := by omega
              clear hin hE2
              go_wp2_with fail
              refine k1.mono ?_
              rintro r w' ⟨rfl, hw'⟩
              rw [hw']
              clear hw'
              go_wp2_with fail
              refine k3.mono ?_
              rintro r w' ⟨rfl, hw'⟩
              rw [hw']
              clear hw'
              go_wp2_with fail
              go_round
              case rel => exact ⟨q + 1, by omega, by go_num⟩
              case measure => simp [intOf]; omega
            · have g2 : ¬ ((j : Int) ≤ (q : Int)) := by omega
              clear hin hE2
              go_wp2_with fail
              refine k1.mono ?_
              rintro r w' ⟨rfl, hw'⟩
              rw [hw']
              clear hw'
              go_wp2_with fail
              refine k3.mono ?_
              rintro r w' ⟨rfl, hw'⟩
              rw [hw']
              clear hw'
              go_wp2_with fail
              go_round
              case rel => exact ⟨q + 1, by omega, by go_num⟩
              case measure => simp [intOf]; omega
        · have hki : ¬ ((q : Int) < (N : Int)) := by omega
          have hbo := HT5.out.boo
          go_wp2_with fail
          refine (ZZFields_any _ _ _ _ _ w5 hbo).mono ?_
          rintro r w9 ⟨rfl, q9, hw9⟩
          have HT9 : Hid (T5 w9 a1 a2 a3 a4 aL lc lo L cfull cb ofull ob op j n d Wc pc Wo po N M wn bs bc b2 W2 p2) := by rw [hw9]; exact HT5.out.drew q9
          have c9 : Chg (fun _ => False) w5 w9 := by rw [hw9]; exact (Chg.refl _ w5).drewN q9
          clear hw9 hbo
          go_wp2_with fail
          refine (sameWords_any a2 a4 lo.length lo.length lo lo w9 HT9.out.r2 HT9.out.r4 (by omega) (by omega)).mono ?_
          rintro r w10 ⟨rfl, q10, hw10⟩
          have c10 : Chg (fun _ => False) w5 w10 := by rw [hw10]; exact c9.drewN q10
          rw [show sameI lo lo = true by simp [sameI]]
          clear hw10
          go_wp2_with fail
          go_ret
          exact ⟨rfl, hb5.trans (c10.below hb5.size (fun _ h => h.elim))⟩

end Go.Proofs.Qxb6601640a
