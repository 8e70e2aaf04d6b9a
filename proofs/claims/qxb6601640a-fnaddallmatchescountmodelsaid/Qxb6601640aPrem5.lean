/-
  zzBytes 18, addAllPremise 19.
-/
import Derived.Test.Qxb6601640aTwo
import Derived.Test.Qxb6601640aPrem6
namespace Go.Proofs.Qxb6601640a
open Go.RowKit
set_option linter.unusedVariables false
set_option linter.unusedSimpArgs false

theorem zz18_any (a a' : Option Addr) (cap cap' n m cfull cb cp ofull ob op : Nat) (i e d : Int) (w : World) (hn : n ≤ 9223372036854775807) (hm : m ≤ 9223372036854775807) :
    Calls Try.prog 18 #[.slice a n cap, .int .u64 cfull, .int .u8 cb, .int .u8 cp, .slice a' m cap', .int .u64 ofull, .int .u8 ob, .int .u8 op, .int .i64 i, .int .i64 e, .int .i64 d] w fun r w' => r = .returned (.bool (decide (n ≤ 1048576 ∧ m ≤ 1048576 ∧ n + m ≤ 1048576))) ∧ w' = w := by
  by_cases h1 : n ≤ 1048576
  rotate_left
  · have g1 : (n : Int) > 1048576 := by omega
    go_enter Try.func18, Try.ntmps18
    go_wp2_with fail
    go_ret
    exact ⟨ret_bool (by first | rfl | (symm; rw [decide_eq_true_iff]; omega) | (symm; rw [decide_eq_false_iff_not]; omega) | (simp; omega)), rfl⟩
  have g1 : ¬ ((n : Int) > 1048576) := by omega
  by_cases h2 : m ≤ 1048576
  rotate_left
  · have g2 : (m : Int) > 1048576 := by omega
    go_enter Try.func18, Try.ntmps18
    go_wp2_with fail
    go_ret
    exact ⟨ret_bool (by first | rfl | (symm; rw [decide_eq_true_iff]; omega) | (symm; rw [decide_eq_false_iff_not]; omega) | (simp; omega)), rfl⟩
  have g2 : ¬ ((m : Int) > 1048576) := by omega
  by_cases h3 : n + m ≤ 1048576
  · have g3 : ¬ ((n : Int) + (m : Int) > 1048576) := by omega
    go_enter Try.func18, Try.ntmps18
    go_wp2_with fail
    go_ret
    exact ⟨ret_bool (by first | rfl | (symm; rw [decide_eq_true_iff]; omega) | (symm; rw [decide_eq_false_iff_not]; omega) | (simp; omega)), rfl⟩
  · have g3 : (n : Int) + (m : Int) > 1048576 := by omega
    go_enter Try.func18, Try.ntmps18
    go_wp2_with fail
    go_ret
    exact ⟨ret_bool (by first | rfl | (symm; rw [decide_eq_true_iff]; omega) | (symm; rw [decide_eq_false_iff_not]; omega) | (simp; omega)), rfl⟩

/-- addAll's domain, o apart from c. -/
structure PAd (lc lo : List Nat) (cfull cb cp ofull ob op j k n : Nat) (d : Int) (Wc pc Wo po bs Ws ps : Nat) : Prop where
  layc : Lay cfull cb cp Wc
  layo : Lay ofull ob op Wo
  wp : Wc * pc = 64
  wpo : Wo * po = 64
  pc8 : pc ≤ 8
  po8 : po ≤ 8
  bsd : (ob ≤ cb ∧ bs = cb ∧ Ws = Wc ∧ ps = pc) ∨ (cb < ob ∧ bs = ob ∧ Ws = Wo ∧ ps = po)
  wids : Wid bs Ws
  wps : Ws * ps = 64
  jn : j + n ≤ lc.length * pc
  kn : k + n ≤ lo.length * po
  dd : (k : Int) - (j : Int) = d
  h8 : (8 : Int) ∣ d
  hd0 : 0 ≤ ((j / ps * ps : Nat) : Int) + d
  hd1 : (((j + n + ps - 1) / ps * ps : Nat) : Int) + d ≤ ((lo.length * po : Nat) : Int)
  all : ∀ m, j / ps * ps ≤ m → m < (j + n + ps - 1) / ps * ps → ((j ≤ m ∧ m < j + n) → cnt Wc lc m + ocOf Wo lo d m < 18446744073709551616) ∧ (¬ (j ≤ m ∧ m < j + n) → ocOf Wo lo d m = 0)

def PA19 (lc lo : List Nat) (cfull cb cp ofull ob op : Nat) (jI kI nI : Int) : Prop := ∃ j k n : Nat, jI = (j : Int) ∧ kI = (k : Int) ∧ nI = (n : Int) ∧ ∃ d Wc pc Wo po bs Ws ps, PAd lc lo cfull cb cp ofull ob op j k n d Wc pc Wo po bs Ws ps

theorem room_facts {j k n ps M e lo hi : Nat} {d : Int} (hps : ps = 8 ∨ ps = 4 ∨ ps = 2 ∨ ps = 1) (hmod : j % 8 = k % 8) (hd : (k : Int) - (j : Int) = d) (he : j + n = e) (hM : ps ∣ M) (hkn : k + n ≤ M) (hlo : j / ps * ps = lo) (hhi : (e + ps - 1) / ps * ps = hi) : 0 ≤ (lo : Int) + d ∧ (hi : Int) + d ≤ (M : Int) ∧ (8 : Int) ∣ d ∧ lo ≤ j ∧ e ≤ hi ∧ lo ≤ hi := by
  obtain ⟨q, rfl⟩ := hM
  have h8 : (8 : Int) ∣ d := by omega
  rcases hps with rfl | rfl | rfl | rfl <;> refine ⟨by omega, by omega, h8, by omega, by omega, by omega⟩

set_option maxRecDepth 1000000 in
set_option maxHeartbeats 8000000 in
theorem prem19_any (a a' : Option Addr) (cap cap' : Nat) (lc lo : List Nat) (cfull cb cp ofull ob op : Nat) (jI kI nI : Int) (w : World) (hr : RowW w a lc) (hr' : RowW w a' lo) (hX : WB lc) (hXo : WB lo) (hn : lc.length ≤ 65536) (hm : lo.length ≤ 65536) (h1 : cfull < 18446744073709551616) (h2 : cb < 256) (h3 : cp < 256) (h4 : ofull < 18446744073709551616) (h5 : ob < 256) (h6 : op < 256)
    (bj : -9223372036854775808 ≤ jI ∧ jI ≤ 9223372036854775807) (bk : -9223372036854775808 ≤ kI ∧ kI ≤ 9223372036854775807) (bn : -9223372036854775808 ≤ nI ∧ nI ≤ 9223372036854775807) :
    Calls Try.prog 19 #[.slice a lc.length cap, .int .u64 cfull, .int .u8 cb, .int .u8 cp, .slice a' lo.length cap', .int .u64 ofull, .int .u8 ob, .int .u8 op, .int .i64 jI, .int .i64 kI, .int .i64 nI] w fun r w' => (r = .returned (.bool false) ∨ r = .returned (.bool true) ∧ PA19 lc lo cfull cb cp ofull ob op jI kI nI) ∧ w' = w := by
  have g1 : ¬ ((lc.length : Int) > 65536) := by omega
  have g2 : ¬ ((lo.length : Int) > 65536) := by omega
  go_enter Try.func19, Try.ntmps19
  go_wp2_with fail
  refine (validLayout_any cfull cb cp w h1 h2 h3).mono ?_
  rintro r w' ⟨hv, hw'⟩
  rw [hw']
  clear hw'
  rcases hv with rfl | ⟨rfl, Wc, hL⟩
  · go_wp2_with fail
    go_ret
    exact ⟨.inl rfl, rfl⟩
  go_wp2_with fail
  refine (validLayout_any ofull ob op w h4 h5 h6).mono ?_
  rintro r w' ⟨hv, hw'⟩
  rw [hw']
  clear hw'
  rcases hv with rfl | ⟨rfl, Wo, hLo⟩
  · go_wp2_with fail
    go_ret
    exact ⟨.inl rfl, rfl⟩
  obtain ⟨pc, hp1, hp2, hp3, hW1, hW2, hper, hpp⟩ := hL.per
  obtain ⟨po, ho1, ho2, ho3, hWo1, hWo2, hpero, hppo⟩ := hLo.per
  obtain ⟨N, hN⟩ : ∃ N, lc.length * pc = N := ⟨_, rfl⟩
  have hNi : (lc.length : Int) * (pc : Int) = (N : Int) := by rw [← hN]; simp
  have hNb : N ≤ 65536 * 8 := by rw [← hN]; exact Nat.mul_le_mul hn hp3
  obtain ⟨M, hM⟩ : ∃ M, lo.length * po = M := ⟨_, rfl⟩
  have hMi : (lo.length : Int) * (po : Int) = (M : Int) := by rw [← hM]; simp
  have hMb : M ≤ 65536 * 8 := by rw [← hM]; exact Nat.mul_le_mul hm ho3
  by_cases hj0 : 0 ≤ jI
  rotate_left
  · have k1 : jI < 0 := by omega
    go_wp2_with fail
    go_ret
    exact ⟨.inl rfl, rfl⟩
  have k1 : ¬ (jI < 0) := by omega
  by_cases hk0 : 0 ≤ kI
  rotate_left
  · have k2 : kI < 0 := by omega
    go_wp2_with fail
    go_ret
    exact ⟨.inl rfl, rfl⟩
  have k2 : ¬ (kI < 0) := by omega
  by_cases hn0 : 0 ≤ nI
  rotate_left
  · have k3 : nI < 0 := by omega
    go_wp2_with fail
    go_ret
    exact ⟨.inl rfl, rfl⟩
  have k3 : ¬ (nI < 0) := by omega
  obtain ⟨j, rfl⟩ := Int.eq_ofNat_of_zero_le hj0
  obtain ⟨k, rfl⟩ := Int.eq_ofNat_of_zero_le hk0
  obtain ⟨n, rfl⟩ := Int.eq_ofNat_of_zero_le hn0
  by_cases hjN : j ≤ N
  rotate_left
  · have k4 : (j : Int) > (N : Int) := by omega
    go_wp2_with fail
    go_ret
    exact ⟨.inl rfl, rfl⟩
  have k4 : ¬ ((j : Int) > (N : Int)) := by omega
  by_cases hnN : j + n ≤ N
  rotate_left
  · have k5 : (n : Int) > (N : Int) - (j : Int) := by omega
    go_wp2_with fail
    go_ret
    exact ⟨.inl rfl, rfl⟩
  have k5 : ¬ ((n : Int) > (N : Int) - (j : Int)) := by omega
  by_cases hkM : k ≤ M
  rotate_left
  · have k6 : (k : Int) > (M : Int) := by omega
    go_wp2_with fail
    go_ret
    exact ⟨.inl rfl, rfl⟩
  have k6 : ¬ ((k : Int) > (M : Int)) := by omega
  by_cases hnM : k + n ≤ M
  rotate_left
  · have k7 : (n : Int) > (M : Int) - (k : Int) := by omega
    go_wp2_with fail
    go_ret
    exact ⟨.inl rfl, rfl⟩
  have k7 : ¬ ((n : Int) > (M : Int) - (k : Int)) := by omega
  have tj : Int.tmod (j : Int) 8 = ((j % 8 : Nat) : Int) := by rw [Int.tmod_eq_emod_of_nonneg (by omega)]; omega
  have tk : Int.tmod (k : Int) 8 = ((k % 8 : Nat) : Int) := by rw [Int.tmod_eq_emod_of_nonneg (by omega)]; omega
  by_cases hmod : j % 8 = k % 8
  rotate_left
  · have m1 : (((j % 8 : Nat) : Int) != ((k % 8 : Nat) : Int)) = true := by rw [bne_iff_ne]; omega
    have m2 : ((j : Int) % 8 != (k : Int) % 8) = true := by rw [bne_iff_ne]; omega
    go_wp2_with fail
    go_ret
    exact ⟨.inl rfl, rfl⟩
  have m2 : ((j : Int) % 8 != (k : Int) % 8) = false := by rw [bne_eq_false_iff_eq]; omega
  have m1 : (((j % 8 : Nat) : Int) != ((k % 8 : Nat) : Int)) = false := by rw [bne_eq_false_iff_eq]; omega
  have HMOD := hideP hmod
  clear hmod
  obtain ⟨d, hd⟩ : ∃ d : Int, (k : Int) - (j : Int) = d := ⟨_, rfl⟩
  obtain ⟨e, he⟩ : ∃ e, j + n = e := ⟨_, rfl⟩
  have hei : (j : Int) + (n : Int) = (e : Int) := by omega
  have hL' := hL.wid
  have hLo' := hLo.wid
  by_cases hob : ob ≤ cb
  · have b1 : ¬ ((ob : Int) > (cb : Int)) := by omega
    have hws : Wid cb Wc := hL'
    have hwps : Wc * pc = 64 := hp1
    have hpsc : pc ∣ pc := per_dvd hL' hp1 (by omega) hws hwps
    have hpso : pc ∣ po := per_dvd hLo' ho1 (by omega) hws hwps
    have hps0 : 0 < pc := by omega
    have hps8 : pc ≤ 8 := by omega
    have hps : pc = 8 ∨ pc = 4 ∨ pc = 2 ∨ pc = 1 := by
      rcases hws with ⟨-, h⟩ | ⟨-, h⟩ | ⟨-, h⟩ | ⟨-, h⟩ <;> rw [h] at hwps <;> omega
    obtain ⟨lw, hlo⟩ : ∃ lw, j / pc * pc = lw := ⟨_, rfl⟩
    obtain ⟨jr, hjr⟩ : ∃ jr, j % pc = jr := ⟨_, rfl⟩
    have hlr : lw + jr = j := by have := Nat.div_add_mod j pc; rw [Nat.mul_comm, hlo, hjr] at this; exact this
    have e1 : Int.tmod (j : Int) (pc : Int) = (jr : Int) := by
      rw [Int.tmod_eq_emod_of_nonneg (by omega), ← hjr]; simp
    have e1' : (j : Int) % (pc : Int) = (jr : Int) := by rw [← hjr]; simp
    have e2 : (j : Int) - (jr : Int) = (lw : Int) := by omega
    have hpne : ((pc : Int) == 0) = false := by rw [beq_eq_false_iff_ne]; omega
    obtain ⟨q, hq⟩ : ∃ q, (e + pc - 1) / pc = q := ⟨_, rfl⟩
    obtain ⟨hi, hhi⟩ : ∃ hi, q * pc = hi := ⟨_, rfl⟩
    have hMd : pc ∣ M := by rw [← hM]; exact Nat.dvd_trans hpso (Nat.dvd_mul_left _ _)
    have hNd : pc ∣ N := by rw [← hN]; exact Nat.dvd_trans hpsc (Nat.dvd_mul_left _ _)
    obtain ⟨x1, x2, x3, x4, x5, x6⟩ := room_facts hps HMOD.out hd he hMd hnM hlo (by rw [hq, hhi])
    have hhN : hi ≤ N := by
      obtain ⟨z, hz⟩ := hNd
      rw [← hhi, ← hq]
      exact up_room (q := z) (by rw [hz, Nat.mul_comm]) hps0 (by omega)
    have hru := roundUp_any e pc q w hps0 (by omega) hps8 hq
    rw [hhi] at hru
    have HRU := hideP hru
    have HQ := hideP hq
    have HHI := hideP hhi
    have HLO := hideP hlo
    have HE := hideP he
    have HN := hideP hN
    have HM := hideP hM
    have HX3 := hideP x3
    clear hru hq hhi hlo he hN hM hlr hjr x3 hMd hNd hpsc hpso hps
    go_wp2_with fail
    refine HRU.out.mono ?_
    rintro r w' ⟨rfl, hw'⟩
    rw [hw']
    clear hw'
    go_wp2_with fail
    go_loop [30] (fun mv => ∃ m : Nat, mv = .int .i64 m ∧ lw ≤ m ∧ m ≤ hi ∧ Hid (∀ m', lw ≤ m' → m' < m → ((j ≤ m' ∧ m' < j + n) → cnt Wc lc m' + ocOf Wo lo d m' < 18446744073709551616) ∧ (¬ (j ≤ m' ∧ m' < j + n) → ocOf Wo lo d m' = 0))) (fun mv => hi - (intOf mv).toNat)
    case atStart => exact ⟨lw, rfl, Nat.le_refl _, x6, fun m' h1 h2 => absurd h2 (by omega)⟩
    case round =>
      obtain ⟨m, rfl, hm1, hm2, HMM⟩ := hrel
      by_cases hlt : m < hi
      · have hli : (m : Int) < (hi : Int) := by omega
        have kc := countAt_any a cap lc cb m Wc w hr hL' (in_word hp1 hp2 (by rw [HN.out]; omega)) (by omega) hX
        have ko := countAt_int a' cap' lo ob Wo ((m : Int) + d) w hr' hLo' (by omega) (in_word ho1 ho2 (by rw [HM.out]; omega)) (by omega) hXo
        have hoc : cnt Wo lo ((m : Int) + d).toNat = ocOf Wo lo d m := rfl
        rw [hoc] at ko
        have hcl : ocOf Wo lo d m < 18446744073709551616 := by
          have h7 := cnt_lt Wo lo ((m : Int) + d).toNat
          have h9 : 2 ^ Wo ≤ 2 ^ 64 := Nat.pow_le_pow_right (by decide) hWo1
          have h10 : 2 ^ Wo ≤ 18446744073709551616 := h9
          unfold ocOf
          omega
        have hccl : cnt Wc lc m < 18446744073709551616 := by
          have h7 := cnt_lt Wc lc m
          have h9 : 2 ^ Wc ≤ 2 ^ 64 := Nat.pow_le_pow_right (by decide) hW1
          have h10 : 2 ^ Wc ≤ 18446744073709551616 := h9
          omega
        have HNX1 : Hid (j ≤ m ∧ m < e → cnt Wc lc m + ocOf Wo lo d m < 18446744073709551616 → ∀ m', lw ≤ m' → m' < m + 1 → ((j ≤ m' ∧ m' < j + n) → cnt Wc lc m' + ocOf Wo lo d m' < 18446744073709551616) ∧ (¬ (j ≤ m' ∧ m' < j + n) → ocOf Wo lo d m' = 0)) := by
          intro hin hb m' h7 h8
          have hE := HE.out
          by_cases he' : m' = m
          · subst he'; exact ⟨fun _ => hb, fun h => absurd hin (by omega)⟩
          · exact HMM.out m' h7 (by omega)
        have HNX2 : Hid (¬ (j ≤ m ∧ m < e) → ocOf Wo lo d m = 0 → ∀ m', lw ≤ m' → m' < m + 1 → ((j ≤ m' ∧ m' < j + n) → cnt Wc lc m' + ocOf Wo lo d m' < 18446744073709551616) ∧ (¬ (j ≤ m' ∧ m' < j + n) → ocOf Wo lo d m' = 0)) := by
          intro hin hb m' h7 h8
          have hE := HE.out
          by_cases he' : m' = m
          · subst he'; exact ⟨fun h => absurd h (by omega), fun _ => hb⟩
          · exact HMM.out m' h7 (by omega)
        generalize cnt Wc lc m = x at *
        generalize ocOf Wo lo d m = yv at *
        clear hoc
        by_cases hin : j ≤ m ∧ m < e
        · have g3 : (j : Int) ≤ (m : Int) := by omega
          have g4 : (m : Int) < (e : Int) := by omega
          by_cases hb : x + yv < 18446744073709551616
          · have g5 : ¬ ((x : Int) > 18446744073709551615 - (yv : Int)) := by omega
            have g6 : decide ((18446744073709551615 : Int) - (yv : Int) < (x : Int)) = false := by rw [decide_eq_false_iff_not]; omega
            have H1 := hideP (HNX1.out hin hb)
            clear HNX1 HNX2 hin hb
            go_wp2_with fail
            refine kc.mono ?_
            rintro r w' ⟨rfl, hw'⟩
            rw [hw']
            clear hw'
            go_wp2_with fail
            refine ko.mono ?_
            rintro r w' ⟨rfl, hw'⟩
            rw [hw']
            clear hw'
            go_wp2_with fail
            go_round
            case rel => exact ⟨m + 1, by go_num, by omega, by omega, H1.out⟩
            case measure => simp [intOf]; omega
          · have g5 : (x : Int) > 18446744073709551615 - (yv : Int) := by omega
            clear HNX1 HNX2 hin hb
            go_wp2_with fail
            refine kc.mono ?_
            rintro r w' ⟨rfl, hw'⟩
            rw [hw']
            clear hw'
            go_wp2_with fail
            refine ko.mono ?_
            rintro r w' ⟨rfl, hw'⟩
            rw [hw']
            clear hw'
            go_wp2_with fail
            go_ret
            exact ⟨.inl rfl, rfl⟩
        · by_cases hb : yv = 0
          · have H1 := hideP (HNX2.out hin hb)
            subst hb
            clear HNX1 HNX2
            by_cases hge : j ≤ m
            · have g3 : (j : Int) ≤ (m : Int) := by omega
              have g4 : ¬ ((m : Int) < (e : Int)) := by omega
              clear hin
              go_wp2_with fail
              refine ko.mono ?_
              rintro r w' ⟨rfl, hw'⟩
              rw [hw']
              clear hw'
              go_wp2_with fail
              go_round
              case rel => exact ⟨m + 1, by go_num, by omega, by omega, H1.out⟩
              case measure => simp [intOf]; omega
            · have g3 : ¬ ((j : Int) ≤ (m : Int)) := by omega
              clear hin
              go_wp2_with fail
              refine ko.mono ?_
              rintro r w' ⟨rfl, hw'⟩
              rw [hw']
              clear hw'
              go_wp2_with fail
              go_round
              case rel => exact ⟨m + 1, by go_num, by omega, by omega, H1.out⟩
              case measure => simp [intOf]; omega
          · have g5 : ((yv : Int) != 0) = true := by rw [bne_iff_ne]; omega
            clear HNX1 HNX2
            by_cases hge : j ≤ m
            · have g3 : (j : Int) ≤ (m : Int) := by omega
              have g4 : ¬ ((m : Int) < (e : Int)) := by omega
              clear hin
              go_wp2_with fail
              refine ko.mono ?_
              rintro r w' ⟨rfl, hw'⟩
              rw [hw']
              clear hw'
              go_wp2_with fail
              go_ret
              exact ⟨.inl rfl, rfl⟩
            · have g3 : ¬ ((j : Int) ≤ (m : Int)) := by omega
              clear hin
              go_wp2_with fail
              refine ko.mono ?_
              rintro r w' ⟨rfl, hw'⟩
              rw [hw']
              clear hw'
              go_wp2_with fail
              go_ret
              exact ⟨.inl rfl, rfl⟩
      · have hli : ¬ ((m : Int) < (hi : Int)) := by omega
        obtain rfl : m = hi := by omega
        go_wp2_with fail
        go_ret
        refine ⟨.inr ⟨rfl, j, k, n, rfl, rfl, rfl, d, Wc, pc, Wo, po, cb, Wc, pc, hL, hLo, hp1, ho1, hp3, ho3, (.inl ⟨hob, rfl, rfl, rfl⟩), hws, hwps, by rw [HN.out]; exact hnN, by rw [HM.out]; exact hnM, hd, HX3.out, by rw [HLO.out]; exact x1, ?_, fun m' h7 h8 => HMM.out m' ?_ ?_⟩, rfl⟩
        · rw [HE.out, HQ.out, HHI.out, HM.out]; exact x2
        · rw [← HLO.out]; exact h7
        · rw [← HHI.out, ← HQ.out, ← HE.out]; exact h8
  · have b1 : (ob : Int) > (cb : Int) := by omega
    have hws : Wid ob Wo := hLo'
    have hwps : Wo * po = 64 := ho1
    have hpsc : po ∣ pc := per_dvd hL' hp1 (by omega) hws hwps
    have hpso : po ∣ po := per_dvd hLo' ho1 (by omega) hws hwps
    have hps0 : 0 < po := by omega
    have hps8 : po ≤ 8 := by omega
    have hps : po = 8 ∨ po = 4 ∨ po = 2 ∨ po = 1 := by
      rcases hws with ⟨-, h⟩ | ⟨-, h⟩ | ⟨-, h⟩ | ⟨-, h⟩ <;> rw [h] at hwps <;> omega
    obtain ⟨lw, hlo⟩ : ∃ lw, j / po * po = lw := ⟨_, rfl⟩
    obtain ⟨jr, hjr⟩ : ∃ jr, j % po = jr := ⟨_, rfl⟩
    have hlr : lw + jr = j := by have := Nat.div_add_mod j po; rw [Nat.mul_comm, hlo, hjr] at this; exact this
    have e1 : Int.tmod (j : Int) (po : Int) = (jr : Int) := by
      rw [Int.tmod_eq_emod_of_nonneg (by omega), ← hjr]; simp
    have e1' : (j : Int) % (po : Int) = (jr : Int) := by rw [← hjr]; simp
    have e2 : (j : Int) - (jr : Int) = (lw : Int) := by omega
    have hpne : ((po : Int) == 0) = false := by rw [beq_eq_false_iff_ne]; omega
    obtain ⟨q, hq⟩ : ∃ q, (e + po - 1) / po = q := ⟨_, rfl⟩
    obtain ⟨hi, hhi⟩ : ∃ hi, q * po = hi := ⟨_, rfl⟩
    have hMd : po ∣ M := by rw [← hM]; exact Nat.dvd_trans hpso (Nat.dvd_mul_left _ _)
    have hNd : po ∣ N := by rw [← hN]; exact Nat.dvd_trans hpsc (Nat.dvd_mul_left _ _)
    obtain ⟨x1, x2, x3, x4, x5, x6⟩ := room_facts hps HMOD.out hd he hMd hnM hlo (by rw [hq, hhi])
    have hhN : hi ≤ N := by
      obtain ⟨z, hz⟩ := hNd
      rw [← hhi, ← hq]
      exact up_room (q := z) (by rw [hz, Nat.mul_comm]) hps0 (by omega)
    have hru := roundUp_any e po q w hps0 (by omega) hps8 hq
    rw [hhi] at hru
    have HRU := hideP hru
    have HQ := hideP hq
    have HHI := hideP hhi
    have HLO := hideP hlo
    have HE := hideP he
    have HN := hideP hN
    have HM := hideP hM
    have HX3 := hideP x3
    clear hru hq hhi hlo he hN hM hlr hjr x3 hMd hNd hpsc hpso hps
    go_wp2_with fail
    refine HRU.out.mono ?_
    rintro r w' ⟨rfl, hw'⟩
    rw [hw']
    clear hw'
    go_wp2_with fail
    go_loop [30] (fun mv => ∃ m : Nat, mv = .int .i64 m ∧ lw ≤ m ∧ m ≤ hi ∧ Hid (∀ m', lw ≤ m' → m' < m → ((j ≤ m' ∧ m' < j + n) → cnt Wc lc m' + ocOf Wo lo d m' < 18446744073709551616) ∧ (¬ (j ≤ m' ∧ m' < j + n) → ocOf Wo lo d m' = 0))) (fun mv => hi - (intOf mv).toNat)
    case atStart => exact ⟨lw, rfl, Nat.le_refl _, x6, fun m' h1 h2 => absurd h2 (by omega)⟩
    case round =>
      obtain ⟨m, rfl, hm1, hm2, HMM⟩ := hrel
      by_cases hlt : m < hi
      · have hli : (m : Int) < (hi : Int) := by omega
        have kc := countAt_any a cap lc cb m Wc w hr hL' (in_word hp1 hp2 (by rw [HN.out]; omega)) (by omega) hX
        have ko := countAt_int a' cap' lo ob Wo ((m : Int) + d) w hr' hLo' (by omega) (in_word ho1 ho2 (by rw [HM.out]; omega)) (by omega) hXo
        have hoc : cnt Wo lo ((m : Int) + d).toNat = ocOf Wo lo d m := rfl
        rw [hoc] at ko
        have hcl : ocOf Wo lo d m < 18446744073709551616 := by
          have h7 := cnt_lt Wo lo ((m : Int) + d).toNat
          have h9 : 2 ^ Wo ≤ 2 ^ 64 := Nat.pow_le_pow_right (by decide) hWo1
          have h10 : 2 ^ Wo ≤ 18446744073709551616 := h9
          unfold ocOf
          omega
        have hccl : cnt Wc lc m < 18446744073709551616 := by
          have h7 := cnt_lt Wc lc m
          have h9 : 2 ^ Wc ≤ 2 ^ 64 := Nat.pow_le_pow_right (by decide) hW1
          have h10 : 2 ^ Wc ≤ 18446744073709551616 := h9
          omega
        have HNX1 : Hid (j ≤ m ∧ m < e → cnt Wc lc m + ocOf Wo lo d m < 18446744073709551616 → ∀ m', lw ≤ m' → m' < m + 1 → ((j ≤ m' ∧ m' < j + n) → cnt Wc lc m' + ocOf Wo lo d m' < 18446744073709551616) ∧ (¬ (j ≤ m' ∧ m' < j + n) → ocOf Wo lo d m' = 0)) := by
          intro hin hb m' h7 h8
          have hE := HE.out
          by_cases he' : m' = m
          · subst he'; exact ⟨fun _ => hb, fun h => absurd hin (by omega)⟩
          · exact HMM.out m' h7 (by omega)
        have HNX2 : Hid (¬ (j ≤ m ∧ m < e) → ocOf Wo lo d m = 0 → ∀ m', lw ≤ m' → m' < m + 1 → ((j ≤ m' ∧ m' < j + n) → cnt Wc lc m' + ocOf Wo lo d m' < 18446744073709551616) ∧ (¬ (j ≤ m' ∧ m' < j + n) → ocOf Wo lo d m' = 0)) := by
          intro hin hb m' h7 h8
          have hE := HE.out
          by_cases he' : m' = m
          · subst he'; exact ⟨fun h => absurd h (by omega), fun _ => hb⟩
          · exact HMM.out m' h7 (by omega)
        generalize cnt Wc lc m = x at *
        generalize ocOf Wo lo d m = yv at *
        clear hoc
        by_cases hin : j ≤ m ∧ m < e
        · have g3 : (j : Int) ≤ (m : Int) := by omega
          have g4 : (m : Int) < (e : Int) := by omega
          by_cases hb : x + yv < 18446744073709551616
          · have g5 : ¬ ((x : Int) > 18446744073709551615 - (yv : Int)) := by omega
            have g6 : decide ((18446744073709551615 : Int) - (yv : Int) < (x : Int)) = false := by rw [decide_eq_false_iff_not]; omega
            have H1 := hideP (HNX1.out hin hb)
            clear HNX1 HNX2 hin hb
            go_wp2_with fail
            refine kc.mono ?_
            rintro r w' ⟨rfl, hw'⟩
            rw [hw']
            clear hw'
            go_wp2_with fail
            refine ko.mono ?_
            rintro r w' ⟨rfl, hw'⟩
            rw [hw']
            clear hw'
            go_wp2_with fail
            go_round
            case rel => exact ⟨m + 1, by go_num, by omega, by omega, H1.out⟩
            case measure => simp [intOf]; omega
          · have g5 : (x : Int) > 18446744073709551615 - (yv : Int) := by omega
            clear HNX1 HNX2 hin hb
            go_wp2_with fail
            refine kc.mono ?_
            rintro r w' ⟨rfl, hw'⟩
            rw [hw']
            clear hw'
            go_wp2_with fail
            refine ko.mono ?_
            rintro r w' ⟨rfl, hw'⟩
            rw [hw']
            clear hw'
            go_wp2_with fail
            go_ret
            exact ⟨.inl rfl, rfl⟩
        · by_cases hb : yv = 0
          · have H1 := hideP (HNX2.out hin hb)
            subst hb
            clear HNX1 HNX2
            by_cases hge : j ≤ m
            · have g3 : (j : Int) ≤ (m : Int) := by omega
              have g4 : ¬ ((m : Int) < (e : Int)) := by omega
              clear hin
              go_wp2_with fail
              refine ko.mono ?_
              rintro r w' ⟨rfl, hw'⟩
              rw [hw']
              clear hw'
              go_wp2_with fail
              go_round
              case rel => exact ⟨m + 1, by go_num, by omega, by omega, H1.out⟩
              case measure => simp [intOf]; omega
            · have g3 : ¬ ((j : Int) ≤ (m : Int)) := by omega
              clear hin
              go_wp2_with fail
              refine ko.mono ?_
              rintro r w' ⟨rfl, hw'⟩
              rw [hw']
              clear hw'
              go_wp2_with fail
              go_round
              case rel => exact ⟨m + 1, by go_num, by omega, by omega, H1.out⟩
              case measure => simp [intOf]; omega
          · have g5 : ((yv : Int) != 0) = true := by rw [bne_iff_ne]; omega
            clear HNX1 HNX2
            by_cases hge : j ≤ m
            · have g3 : (j : Int) ≤ (m : Int) := by omega
              have g4 : ¬ ((m : Int) < (e : Int)) := by omega
              clear hin
              go_wp2_with fail
              refine ko.mono ?_
              rintro r w' ⟨rfl, hw'⟩
              rw [hw']
              clear hw'
              go_wp2_with fail
              go_ret
              exact ⟨.inl rfl, rfl⟩
            · have g3 : ¬ ((j : Int) ≤ (m : Int)) := by omega
              clear hin
              go_wp2_with fail
              refine ko.mono ?_
              rintro r w' ⟨rfl, hw'⟩
              rw [hw']
              clear hw'
              go_wp2_with fail
              go_ret
              exact ⟨.inl rfl, rfl⟩
      · have hli : ¬ ((m : Int) < (hi : Int)) := by omega
        obtain rfl : m = hi := by omega
        go_wp2_with fail
        go_ret
        refine ⟨.inr ⟨rfl, j, k, n, rfl, rfl, rfl, d, Wc, pc, Wo, po, ob, Wo, po, hL, hLo, hp1, ho1, hp3, ho3, (.inr ⟨by omega, rfl, rfl, rfl⟩), hws, hwps, by rw [HN.out]; exact hnN, by rw [HM.out]; exact hnM, hd, HX3.out, by rw [HLO.out]; exact x1, ?_, fun m' h7 h8 => HMM.out m' ?_ ?_⟩, rfl⟩
        · rw [HE.out, HQ.out, HHI.out, HM.out]; exact x2
        · rw [← HLO.out]; exact h7
        · rw [← HHI.out, ← HQ.out, ← HE.out]; exact h8

end Go.Proofs.Qxb6601640a
