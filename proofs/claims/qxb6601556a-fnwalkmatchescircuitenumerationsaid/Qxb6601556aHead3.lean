import Derived.Test.Qxb6601556aTail3i
import Derived.Test.Qxb6601556aDom7
import Derived.Deep.DeepCutAuto
namespace Go.Proofs.Qxb6601556a
open Go.RowKit
set_option linter.unusedVariables false
set_option linter.unusedSimpArgs false

set_option maxRecDepth 100000 in
set_option maxHeartbeats 16000000 in
theorem law3_all (a0 a1 a2 a4 : Option Addr) (c0 c1 c2 c4 : Nat) (st v : Int) (R C : List (List Int)) (comp path : List Int) (w : World) (hR : RowsV w a0 R) (hC : RowsV w a2 C) (hcomp : RowI w a1 comp) (hpath : RowI w a4 path)
    (z0 : a0 = none → R.length = 0) (z1 : a1 = none → comp.length = 0) (z2 : a2 = none → C.length = 0) (z4 : a4 = none → path.length = 0)
    (l0 : R.length ≤ 9223372036854775807) (l1 : comp.length ≤ 9223372036854775807) (l2 : C.length ≤ 9223372036854775807) (l4 : path.length ≤ 9223372036854775807) :
    Calls Try.prog 3 #[.slice a0 R.length c0, .slice a1 comp.length c1, .slice a2 C.length c2, .int .i64 st, .slice a4 path.length c4, .int .i64 v] w fun e w' => e = .returned (.bool true) ∧ Below w.heap.size w w' := by
  go_enter Try.func3, Try.ntmps3
  go_wp2_with fail
  refine (zzBytes7_any a0 a1 a2 a4 c0 c1 comp.length c2 path.length c4 st v R C w hR hC l0 l1 l2 l4).mono ?_
  rintro e w' ⟨⟨bz, rfl⟩, hw'⟩
  rw [hw']
  clear hw'
  cases bz
  · go_wp2_with fail
    go_ret
    exact ⟨rfl, Below.refl _ _⟩
  go_wp2_with fail
  refine (walkInDomain_any a0 a1 a2 a4 c0 c1 comp.length c2 path.length c4 st v R C w hR hC l0 l1 l2 l4).mono ?_
  rintro e w' ⟨hd, hw'⟩
  rw [hw']
  clear hw'
  rcases hd with rfl | ⟨rfl, D⟩
  · go_wp2_with fail
    go_ret
    exact ⟨rfl, Below.refl _ _⟩
  clear l0 l1 l2 l4
  obtain ⟨d1, d2, d3, d4, d5, d6, d7, d8, d9, d10⟩ := D
  obtain ⟨stn, rfl⟩ := Int.eq_ofNat_of_zero_le d7.1
  go_wp2_with fail
  refine (cloneIntss_any a0 R.length c0 R w rfl hR z0 (by omega) (fun i hi => by have := d5 i hi; omega)).mono ?_
  rintro e w1 ⟨vR, rfl, rv, cpR⟩
  go_wp2_with fail
  refine (cloneInts_any a1 comp.length c1 comp w1 rfl (hcomp.chg cpR.chg (fun _ _ h => h)) z1 (by omega)).mono ?_
  rintro e w2 ⟨vC, rfl, oC, ch2, fr2⟩
  have ch02 := cpR.chg.trans ch2 (fun _ _ h => h)
  go_wp2_with fail
  refine (cloneIntss_any a2 C.length c2 C w2 rfl (hC.chg ch02 (fun _ _ h => h)) z2 (by omega) (fun i hi => by have := d6 i hi; omega)).mono ?_
  rintro e w3 ⟨vK, rfl, kv, cpK⟩
  have ch03 := ch02.trans cpK.chg (fun _ _ h => h)
  go_wp2_with fail
  refine (cloneInts_any a4 path.length c4 path w3 rfl (hpath.chg ch03 (fun _ _ h => h)) z4 (by omega)).mono ?_
  rintro e w4 ⟨vP, rfl, oP, ch4, fr4⟩
  have ch04 := ch03.trans ch4 (fun _ _ h => h)
  have tR : Tab w4 vR rv R := (cpR.tab.new (ch2.trans (cpK.chg.trans ch4 (fun _ _ h => h)) (fun _ _ h => h)))
  have oC4 : OI w4 vC comp := (oC.chg (cpK.chg.trans ch4 (fun _ _ h => h)) (fun _ _ h => h))
  have tK : Tab w4 vK kv C := cpK.tab.new ch4
  clear cpR ch2 fr2 ch02 cpK ch03 fr4 ch4 oC
  obtain ⟨aR, cR, rfl, zR⟩ := tR.shape
  obtain ⟨aC, cC, rfl, -, -, -, -, -⟩ := oC4.shape
  obtain ⟨aK, cK, rfl, zK⟩ := tK.shape
  obtain ⟨aP, cP, rfl, -, -, zP, -, rowP⟩ := oP.shape
  obtain ⟨vn, rfl⟩ := Int.eq_ofNat_of_zero_le d8.1
  have hvn : vn < R.length := by omega
  have DD : Dom R comp stn := ⟨d1, d2, d9, by omega, fun i => by
    by_cases hi : i < R.length
    · exact d5 i hi
    · simp [List.getD, hi], fun i x hx => by
    by_cases hi : i < R.length
    · exact d10 i hi x hx
    · simp [List.getD, hi] at hx⟩
  have HDD := hideP DD
  have HD6 := hideP d6
  have HR := hideP tR
  have HC := hideP oC4
  have HK := hideP tK
  have HP := hideP oP
  have H04 := hideP ch04
  have zP' : aP = none → path.length = 0 := fun e => (zP e).1
  clear DD d5 d6 d10 hR hC hcomp hpath z0 z1 z2 z4 tR oC4 tK oP ch04 rowP zP
  simp only []
  iterate 59 go_step
  exact law3_tail11 _ _ _ _ _ _ _ _ _ _ _ _ _ _ _ _ _ _ _ _ _ _ _ _ _ _ _ _ _ _ _ _ _ _ _ _ _ _ _ _ _ _ _ _ _ _ _ _ _ _ _ _ _ _ _ _ _ _ _ _ _ _ _ _ _ _ _ _ _ _ _ _ _ _ _ _ _ _ _ _ _ _ _ _ _ _ _ _ _ _ _ _ _ _ _ _ _ _ _ _ _ _ _ _ _ _ _ _ _ _ _ _ _ _ _ _ _ _ _ _ _ _ _ _ _ _ _ _ _ _ _ _ _ _ _ _ _ _ _ _ _ _ _ _ _ _ _ _ _ _ _ _ _ _ _ _ _ _ _ _ _ _ _ _ _ _ _ _ _ _ _ _ _ _ _ _ _ _ _ _ _ _ _ _ _ _ _ _ _ _ _ _ _ _ _ _ _ _ _ _ _ _ _ _ _ _ _ _ _ _ _ _ _ _ _ _ _ _ _ _ _ _ _ _ _ _ _ _ _ _ _ _ _ _ _ _ _ _ _ _ _ _ _ _ _ _ _ _ _ _ _ _ _ _ _ _ _ _ _ _ _ _ _ _ _ _ _ _ _ _ _ _ _ _ _ _ _ _ _ _ _ _ _ _ _ _ _ _ _ _ _ _ _ _ _ _ _ _ _ _ _ _ _ _ _ _ _ _ _ _ _ _ _ _ _ _ _ _ _ _ _ _ _ _ _ _ _ _ _ _ _ _ _ _ _ _ _ _ _ _ _ _ _ _ _ _ _ _ _ _ _ _ _ _ _ _ _ _ _ _ _ _ _ _ _ _ _ _ _ _ _ _ _ _ _ _ _ R C comp path vn stn aR aC aK aP cR cC cK cP rv kv w w4 d1 d3 d4 hvn HDD HD6 zK zP' HR HC HK HP H04

end Go.Proofs.Qxb6601556a
