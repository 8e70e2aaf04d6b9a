/-
  zzBytes 23, selfDoublePremise 24.
-/
import Derived.Test.Qxb6601640aSelf
import Derived.Test.Qxb6601640aLaw3
namespace Go.Proofs.Qxb6601640a
open Go.RowKit
set_option linter.unusedVariables false
set_option linter.unusedSimpArgs false

theorem zz23_any (a : Option Addr) (n cap : Nat) (f b p : Nat) (j m : Int) (w : World) (hl : n ≤ 9223372036854775807) : Calls Try.prog 23 #[.slice a n cap, .int .u64 f, .int .u8 b, .int .u8 p, .int .i64 j, .int .i64 m] w fun e w' => e = .returned (.bool (decide (n ≤ 1048576))) ∧ w' = w := by
  by_cases h : n ≤ 1048576
  · have h1 : ¬ ((n : Int) > 1048576) := by omega
    go_enter Try.func23, Try.ntmps23
    go_wp2
    go_ret
    exact ⟨ret_bool (by simp [h]), rfl⟩
  · have h1 : ((n : Int) > 1048576) := by omega
    go_enter Try.func23, Try.ntmps23
    go_wp2
    go_ret
    exact ⟨ret_bool (by simp [h]), rfl⟩

/-- The domain of a run merged into itself. -/
structure PSd (l : List Nat) (full b pl j n W p : Nat) : Prop where
  lay : Lay full b pl W
  wp : W * p = 64
  p8 : p ≤ 8
  per : (64 : Int) / 2 ^ min b 64 = (p : Int)
  jn : j + n ≤ l.length * p
  all : ∀ m, j / p * p ≤ m → m < (j + n + p - 1) / p * p → ((j ≤ m ∧ m < j + n) → cnt W l m < 9223372036854775808) ∧ (¬ (j ≤ m ∧ m < j + n) → cnt W l m = 0)

def PS24 (l : List Nat) (full b pl : Nat) (jI nI : Int) : Prop := ∃ j n W p : Nat, jI = (j : Int) ∧ nI = (n : Int) ∧ PSd l full b pl j n W p

theorem up_room {e p N q : Nat} (h : q * p = N) (hp : 0 < p) (he : e ≤ N) : (e + p - 1) / p * p ≤ N := by
  have h2 : (e + p - 1) / p ≤ q := by
    rw [← Nat.lt_succ_iff, Nat.div_lt_iff_lt_mul hp, Nat.succ_mul, h]
    omega
  rw [← h]
  exact Nat.mul_le_mul_right _ h2

set_option maxRecDepth 1000000 in
set_option maxHeartbeats 4000000 in
theorem prem24_any (a : Option Addr) (cap : Nat) (l : List Nat) (full b pl : Nat) (jI nI : Int) (w : World) (hr : RowW w a l) (hX : WB l) (hlen : l.length ≤ 131072) (h1 : full < 18446744073709551616) (h2 : b < 256) (h3 : pl < 256)
    (hj : -9223372036854775808 ≤ jI ∧ jI ≤ 9223372036854775807) (hn : -9223372036854775808 ≤ nI ∧ nI ≤ 9223372036854775807) :
    Calls Try.prog 24 #[.slice a l.length cap, .int .u64 full, .int .u8 b, .int .u8 pl, .int .i64 jI, .int .i64 nI] w fun r w' => (r = .returned (.bool false) ∨ r = .returned (.bool true) ∧ PS24 l full b pl jI nI) ∧ w' = w := by
  have g1 : ¬ ((l.length : Int) > 131072) := by omega
  go_enter Try.func24, Try.ntmps24
  go_wp2_with fail
  refine (validLayout_any full b pl w h1 h2 h3).mono ?_
  rintro r w' ⟨hv, hw'⟩
  rw [hw']
  clear hw'
  rcases hv with rfl | ⟨rfl, W, hL⟩
  · go_wp2_with fail
    go_ret
    exact ⟨.inl rfl, rfl⟩
  obtain ⟨p, hp1, hp2, hp3, hW1, hW2, hper, hpp⟩ := hL.per
  obtain ⟨N, hN⟩ : ∃ N, l.length * p = N := ⟨_, rfl⟩
  have hNi : (l.length : Int) * (p : Int) = (N : Int) := by rw [← hN]; simp
  have hNb : N ≤ 131072 * 8 := by rw [← hN]; exact Nat.mul_le_mul hlen hp3
  by_cases hj0 : 0 ≤ jI
  rotate_left
  · have k1 : jI < 0 := by omega
    go_wp2_with fail
    go_ret
    exact ⟨.inl rfl, rfl⟩
  have k1 : ¬ (jI < 0) := by omega
  by_cases hn0 : 0 ≤ nI
  rotate_left
  · have k2 : nI < 0 := by omega
    go_wp2_with fail
    go_ret
    exact ⟨.inl rfl, rfl⟩
  have k2 : ¬ (nI < 0) := by omega
  obtain ⟨j, rfl⟩ := Int.eq_ofNat_of_zero_le hj0
  obtain ⟨n, rfl⟩ := Int.eq_ofNat_of_zero_le hn0
  by_cases hjN : j ≤ N
  rotate_left
  · have k3 : (j : Int) > (N : Int) := by omega
    go_wp2_with fail
    go_ret
    exact ⟨.inl rfl, rfl⟩
  have k3 : ¬ ((j : Int) > (N : Int)) := by omega
  by_cases hnN : j + n ≤ N
  rotate_left
  · have k4 : (n : Int) > (N : Int) - (j : Int) := by omega
    go_wp2_with fail
    go_ret
    exact ⟨.inl rfl, rfl⟩
  have k4 : ¬ ((n : Int) > (N : Int) - (j : Int)) := by omega
  obtain ⟨e, he⟩ : ∃ e, j + n = e := ⟨_, rfl⟩
  have hei : (j : Int) + (n : Int) = (e : Int) := by omega
  obtain ⟨lo, hlo⟩ : ∃ lo, j / p * p = lo := ⟨_, rfl⟩
  obtain ⟨jr, hjr⟩ : ∃ jr, j % p = jr := ⟨_, rfl⟩
  have hlr : lo + jr = j := by have := Nat.div_add_mod j p; rw [Nat.mul_comm, hlo, hjr] at this; exact this
  have e1 : Int.tmod (j : Int) (p : Int) = (jr : Int) := by
    rw [Int.tmod_eq_emod_of_nonneg (by omega), ← hjr]; simp
  have e1' : (j : Int) % (p : Int) = (jr : Int) := by rw [← hjr]; simp
  have e2 : (j : Int) - (jr : Int) = (lo : Int) := by omega
  have hpne : ((p : Int) == 0) = false := by rw [beq_eq_false_iff_ne]; omega
  obtain ⟨q, hq⟩ : ∃ q, (e + p - 1) / p = q := ⟨_, rfl⟩
  have hqN : q * p ≤ N := by rw [← hq]; exact up_room hN hp2 (by omega)
  obtain ⟨hi, hhi⟩ : ∃ hi, q * p = hi := ⟨_, rfl⟩
  have hru := roundUp_any e p q w hp2 (by omega) hp3 hq
  rw [hhi] at hru
  have hlohi : lo ≤ hi := by
    have : e ≤ (e + p - 1) / p * p := by
      have := Nat.div_add_mod (e + p - 1) p
      have h2 := Nat.mod_lt (e + p - 1) hp2
      rw [Nat.mul_comm] at this
      omega
    rw [hq, hhi] at this
    omega
  have HRU := hideP hru
  have HQ := hideP hq
  have HHI := hideP hhi
  have HLO := hideP hlo
  have HE := hideP he
  have HN := hideP hN
  have hhN : hi ≤ N := by omega
  clear hru hq hhi hlo he hN hqN hlr hjr
  go_wp2_with fail
  refine HRU.out.mono ?_
  rintro r w' ⟨rfl, hw'⟩
  rw [hw']
  clear hw'
  go_wp2_with fail
  go_loop [17, 18] (fun mv _ => ∃ m : Nat, mv = .int .i64 m ∧ lo ≤ m ∧ m ≤ hi ∧ Hid (∀ m', lo ≤ m' → m' < m → ((j ≤ m' ∧ m' < j + n) → cnt W l m' < 9223372036854775808) ∧ (¬ (j ≤ m' ∧ m' < j + n) → cnt W l m' = 0))) (fun mv _ => hi - (intOf mv).toNat)
  case atStart => exact ⟨lo, rfl, Nat.le_refl _, hlohi, fun m' h1 h2 => absurd h2 (by omega)⟩
  case round =>
    obtain ⟨m, rfl, hm1, hm2, HM⟩ := hrel
    by_cases hlt : m < hi
    · have hli : (m : Int) < (hi : Int) := by omega
      have kc := countAt_any a cap l b m W w hr hL.wid (in_word hp1 hp2 (by rw [HN.out]; omega)) (by omega) hX
      have hcl := cnt_lt W l m
      have hf64' : 2 ^ W ≤ 2 ^ 64 := Nat.pow_le_pow_right (by decide) hW1
      have hf64 : 2 ^ W ≤ 18446744073709551616 := hf64'
      generalize hv : cnt W l m = v at *
      have HV := hideP hv
      have hE := HE.out
      by_cases hin : j ≤ m ∧ m < e
      · have g2 : (j : Int) ≤ (m : Int) := by omega
        have g3 : (m : Int) < (e : Int) := by omega
        by_cases hb : v < 9223372036854775808
        · have g4 : ¬ ((v : Int) ≥ 9223372036854775808) := by omega
          have g5 : decide ((9223372036854775808 : Int) ≤ (v : Int)) = false := by rw [decide_eq_false_iff_not]; omega
          have HNX : Hid (∀ m', lo ≤ m' → m' < m + 1 → ((j ≤ m' ∧ m' < j + n) → cnt W l m' < 9223372036854775808) ∧ (¬ (j ≤ m' ∧ m' < j + n) → cnt W l m' = 0)) := by
            intro m' h7 h8
            by_cases he' : m' = m
            · subst he'; rw [hv]; exact ⟨fun _ => hb, fun h => absurd hin (by omega)⟩
            · exact HM.out m' h7 (by omega)
          clear hv hE hin hb
          go_wp2_with fail
          refine kc.mono ?_
          rintro r w' ⟨rfl, hw'⟩
          rw [hw']
          clear hw'
          go_wp2_with fail
          go_round
          case rel => exact ⟨m + 1, by go_num, by omega, by omega, HNX.out⟩
          case measure => simp [intOf]; omega
        · have g4 : (v : Int) ≥ 9223372036854775808 := by omega
          clear hv hE hin
          go_wp2_with fail
          refine kc.mono ?_
          rintro r w' ⟨rfl, hw'⟩
          rw [hw']
          clear hw'
          go_wp2_with fail
          go_ret
          exact ⟨.inl rfl, rfl⟩
      · by_cases hb : v = 0
        · have HNX : Hid (∀ m', lo ≤ m' → m' < m + 1 → ((j ≤ m' ∧ m' < j + n) → cnt W l m' < 9223372036854775808) ∧ (¬ (j ≤ m' ∧ m' < j + n) → cnt W l m' = 0)) := by
            intro m' h7 h8
            by_cases he' : m' = m
            · subst he'; rw [hv]; exact ⟨fun h => absurd h (by omega), fun _ => hb⟩
            · exact HM.out m' h7 (by omega)
          subst hb
          by_cases hge : j ≤ m
          · have g2 : (j : Int) ≤ (m : Int) := by omega
            have g3 : ¬ ((m : Int) < (e : Int)) := by omega
            clear hv hE hin
            go_wp2_with fail
            refine kc.mono ?_
            rintro r w' ⟨rfl, hw'⟩
            rw [hw']
            clear hw'
            go_wp2_with fail
            go_round
            case rel => exact ⟨m + 1, by go_num, by omega, by omega, HNX.out⟩
            case measure => simp [intOf]; omega
          · have g2 : ¬ ((j : Int) ≤ (m : Int)) := by omega
            clear hv hE hin
            go_wp2_with fail
            refine kc.mono ?_
            rintro r w' ⟨rfl, hw'⟩
            rw [hw']
            clear hw'
            go_wp2_with fail
            go_round
            case rel => exact ⟨m + 1, by go_num, by omega, by omega, HNX.out⟩
            case measure => simp [intOf]; omega
        · have g4 : ((v : Int) != 0) = true := by rw [bne_iff_ne]; omega
          by_cases hge : j ≤ m
          · have g2 : (j : Int) ≤ (m : Int) := by omega
            have g3 : ¬ ((m : Int) < (e : Int)) := by omega
            clear hv hE hin
            go_wp2_with fail
            refine kc.mono ?_
            rintro r w' ⟨rfl, hw'⟩
            rw [hw']
            clear hw'
            go_wp2_with fail
            go_ret
            exact ⟨.inl rfl, rfl⟩
          · have g2 : ¬ ((j : Int) ≤ (m : Int)) := by omega
            clear hv hE hin
            go_wp2_with fail
            refine kc.mono ?_
            rintro r w' ⟨rfl, hw'⟩
            rw [hw']
            clear hw'
            go_wp2_with fail
            go_ret
            exact ⟨.inl rfl, rfl⟩
    · have hli : ¬ ((m : Int) < (hi : Int)) := by omega
      obtain rfl : m = hi := by omega
      go_wp2_with fail
      go_ret
      refine ⟨.inr ⟨rfl, j, n, W, p, rfl, rfl, hL, hp1, hp3, hper, by rw [HN.out]; exact hnN, fun m' h7 h8 => HM.out m' ?_ ?_⟩, rfl⟩
      · rw [← HLO.out]; exact h7
      · rw [← HHI.out, ← HQ.out, ← HE.out]; exact h8

end Go.Proofs.Qxb6601640a
