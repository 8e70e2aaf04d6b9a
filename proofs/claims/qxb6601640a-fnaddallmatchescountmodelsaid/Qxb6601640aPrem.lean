/-
  zzBytes 25, addWordsPremise 26.
-/
import Derived.Test.Qxb6601640aPw
import Derived.Test.Qxb6601640aLaw3
namespace Go.Proofs.Qxb6601640a
open Go.RowKit
set_option linter.unusedVariables false
set_option linter.unusedSimpArgs false

/-- addWords's domain. -/
structure PWd (n m cfull cb cp ofull ob op : Nat) (i e : Nat) (d : Int) (W p Wo po : Nat) : Prop where
  lc : Lay cfull cb cp W
  lo : Lay ofull ob op Wo
  wp : W * p = 64
  wpo : Wo * po = 64
  p1 : 1 ≤ p
  p8 : p ≤ 8
  po8 : po ≤ 8
  per : (64 : Int) / 2 ^ min cb 64 = (p : Int)
  ob : ob ≤ cb
  ie : i ≤ e
  en : e ≤ n * p
  pi : (p : Int) ∣ (i : Int)
  pd : (p : Int) ∣ d
  d1 : -16777216 ≤ d
  d2 : d ≤ 16777216
  id : 0 ≤ (i : Int) + d
  hi : (((e + p - 1) / p * p : Nat) : Int) + d ≤ ((m * po : Nat) : Int)

set_option maxRecDepth 100000 in
set_option maxHeartbeats 4000000 in
theorem prem26_pos (a a' : Option Addr) (cap cap' n m cfull cb cp ofull ob op i e : Nat) (d : Int) (w : World) (hn : n ≤ 65536) (hm : m ≤ 65536) (h1 : cfull < 18446744073709551616) (h2 : cb < 256) (h3 : cp < 256) (h4 : ofull < 18446744073709551616) (h5 : ob < 256) (h6 : op < 256)
    (hi : i ≤ 9223372036854775807) (he : e ≤ 9223372036854775807) (hd : -9223372036854775808 ≤ d ∧ d ≤ 9223372036854775807) :
    Calls Try.prog 26 #[.slice a n cap, .int .u64 cfull, .int .u8 cb, .int .u8 cp, .slice a' m cap', .int .u64 ofull, .int .u8 ob, .int .u8 op, .int .i64 i, .int .i64 e, .int .i64 d] w fun r w' => (r = .returned (.bool false) ∨ r = .returned (.bool true) ∧ ∃ W p Wo po, PWd n m cfull cb cp ofull ob op i e d W p Wo po) ∧ w' = w := by
  have g1 : ¬ ((n : Int) > 65536) := by omega
  have g2 : ¬ ((m : Int) > 65536) := by omega
  have g3 : ¬ ((i : Int) < 0) := by omega
  go_enter Try.func26, Try.ntmps26
  go_wp2_with fail
  refine (validLayout_any cfull cb cp w h1 h2 h3).mono ?_
  rintro r w' ⟨hv, hw'⟩
  rw [hw']
  clear hw'
  rcases hv with rfl | ⟨rfl, W, hL⟩
  · go_wp2_with fail
    go_ret
    exact ⟨.inl rfl, rfl⟩
  go_wp2_with fail
  refine (validLayout_any ofull ob op w h4 h5 h6).mono ?_
  rintro r w' ⟨hv, hw'⟩
  rw [hw']
  clear hw'
  rcases hv with rfl | ⟨rfl, Wo, hLo⟩
  · go_wp2_with fail
    go_ret
    exact ⟨.inl rfl, rfl⟩
  obtain ⟨p, hp1, hp2, hp3, hW1, hW2, hper, hpp⟩ := hL.per
  obtain ⟨po, ho1, ho2, ho3, hWo1, hWo2, hpero, hppo⟩ := hLo.per
  by_cases hob : ob ≤ cb
  rotate_left
  · have k1 : (ob : Int) > (cb : Int) := by omega
    go_wp2_with fail
    go_ret
    exact ⟨.inl rfl, rfl⟩
  have k1 : ¬ ((ob : Int) > (cb : Int)) := by omega
  obtain ⟨N, hN⟩ : ∃ N, n * p = N := ⟨_, rfl⟩
  have hNi : (n : Int) * (p : Int) = (N : Int) := by rw [← hN]; simp
  have hNb : N ≤ 65536 * 8 := by rw [← hN]; exact Nat.mul_le_mul hn hp3
  obtain ⟨M, hM⟩ : ∃ M, m * po = M := ⟨_, rfl⟩
  have hMi : (m : Int) * (po : Int) = (M : Int) := by rw [← hM]; simp
  have hMb : M ≤ 65536 * 8 := by rw [← hM]; exact Nat.mul_le_mul hm ho3
  by_cases hie : i ≤ e
  rotate_left
  · have k2 : (i : Int) > (e : Int) := by omega
    go_wp2_with fail
    go_ret
    exact ⟨.inl rfl, rfl⟩
  have k2 : ¬ ((i : Int) > (e : Int)) := by omega
  by_cases heN : e ≤ N
  rotate_left
  · have k3 : (e : Int) > (N : Int) := by omega
    go_wp2_with fail
    go_ret
    exact ⟨.inl rfl, rfl⟩
  have k3 : ¬ ((e : Int) > (N : Int)) := by omega
  have hpne : ((p : Int) == 0) = false := by rw [beq_eq_false_iff_ne]; omega
  by_cases hdi : Int.tmod (i : Int) (p : Int) = 0
  rotate_left
  · have k4 : (Int.tmod (i : Int) (p : Int) != 0) = true := by rw [bne_iff_ne]; exact hdi
    have k4' : ((i : Int) % (p : Int) != 0) = true := by rw [← Int.tmod_eq_emod_of_nonneg (by omega)]; exact k4
    go_wp2_with fail
    go_ret
    exact ⟨.inl rfl, rfl⟩
  have k4 : (Int.tmod (i : Int) (p : Int) != 0) = false := by rw [hdi]; rfl
  have k4' : (i : Int) % (p : Int) = 0 := by rw [← Int.tmod_eq_emod_of_nonneg (by omega)]; exact hdi
  have HDI := hideP hdi
  clear hdi
  by_cases hd1 : -16777216 ≤ d
  rotate_left
  · have k5 : d < -16777216 := by omega
    go_wp2_with fail
    go_ret
    exact ⟨.inl rfl, rfl⟩
  have k5 : ¬ (d < -16777216) := by omega
  by_cases hd2 : d ≤ 16777216
  rotate_left
  · have k6 : d > 16777216 := by omega
    go_wp2_with fail
    go_ret
    exact ⟨.inl rfl, rfl⟩
  have k6 : ¬ (d > 16777216) := by omega
  by_cases hdd : Int.tmod d (p : Int) = 0
  rotate_left
  · have k7 : (Int.tmod d (p : Int) != 0) = true := by rw [bne_iff_ne]; exact hdd
    go_wp2_with fail
    go_ret
    exact ⟨.inl rfl, rfl⟩
  have k7 : (Int.tmod d (p : Int) != 0) = false := by rw [hdd]; rfl
  have HDD := hideP hdd
  obtain ⟨q, hq⟩ : ∃ q, (e + p - 1) / p = q := ⟨_, rfl⟩
  have hqp : q * p ≤ 2000000 := by
    rw [← hq]; exact Nat.le_trans (Nat.div_mul_le_self _ _) (by omega)
  go_wp2_with fail
  refine (roundUp_any e p q w hp2 (by omega) hp3 hq).mono ?_
  rintro r w' ⟨rfl, hw'⟩
  rw [hw']
  clear hw'
  obtain ⟨z, hz⟩ : ∃ z, q * p = z := ⟨_, rfl⟩
  rw [hz]
  by_cases hid : 0 ≤ (i : Int) + d
  rotate_left
  · have k8 : (i : Int) + d < 0 := by omega
    go_wp2_with fail
    go_ret
    exact ⟨.inl rfl, rfl⟩
  have k8 : ¬ ((i : Int) + d < 0) := by omega
  by_cases hhi : (z : Int) + d ≤ (M : Int)
  rotate_left
  · have k9 : (z : Int) + d > (M : Int) := by omega
    go_wp2_with fail
    go_ret
    exact ⟨.inl rfl, rfl⟩
  have k9 : ¬ ((z : Int) + d > (M : Int)) := by omega
  have HH := hideP hhi
  go_wp2_with fail
  go_ret
  exact ⟨.inr ⟨rfl, W, p, Wo, po, hL, hLo, hp1, ho1, by omega, hp3, ho3, hper, hob, hie, by omega, Int.dvd_of_tmod_eq_zero HDI.out, Int.dvd_of_tmod_eq_zero HDD.out, hd1, hd2, hid, by rw [hq, hz, hM]; exact HH.out⟩, rfl⟩

end Go.Proofs.Qxb6601640a
