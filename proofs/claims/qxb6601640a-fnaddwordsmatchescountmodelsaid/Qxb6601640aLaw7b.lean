/-
  FnAddWordsMatchesCountModel: the walk at every input.
-/
import Derived.Test.Qxb6601640aLaw7
namespace Go.Proofs.Qxb6601640a
open Go.RowKit
set_option linter.unusedVariables false
set_option linter.unusedSimpArgs false

set_option maxRecDepth 1000000 in
set_option maxHeartbeats 2000000 in
theorem law7_all (a a' : Option Addr) (cap cap' : Nat) (lc lo : List Nat) (cfull cb cp ofull ob op : Nat) (i e d : Int) (w : World) (hr : RowW w a lc) (hr' : RowW w a' lo) (hnil : a = none → lc.length = 0) (hnil' : a' = none → lo.length = 0) (hX : WB lc) (hXo : WB lo)
    (hn : lc.length ≤ 9223372036854775807) (hm : lo.length ≤ 9223372036854775807) (h1 : cfull < 18446744073709551616) (h2 : cb < 256) (h3 : cp < 256) (h4 : ofull < 18446744073709551616) (h5 : ob < 256) (h6 : op < 256)
    (hi : -9223372036854775808 ≤ i ∧ i ≤ 9223372036854775807) (he : -9223372036854775808 ≤ e ∧ e ≤ 9223372036854775807) (hd : -9223372036854775808 ≤ d ∧ d ≤ 9223372036854775807) :
    Calls Try.prog 7 #[.slice a lc.length cap, .int .u64 cfull, .int .u8 cb, .int .u8 cp, .slice a' lo.length cap', .int .u64 ofull, .int .u8 ob, .int .u8 op, .int .i64 i, .int .i64 e, .int .i64 d] w fun r w' => r = .returned (.bool true) ∧ Below w.heap.size w w' := by
  by_cases hs : lc.length ≤ 65536 ∧ lo.length ≤ 65536
  · by_cases hneg : 0 ≤ i ∧ 0 ≤ e
    · obtain ⟨i', rfl⟩ := Int.eq_ofNat_of_zero_le hneg.1
      obtain ⟨e', rfl⟩ := Int.eq_ofNat_of_zero_le hneg.2
      exact law7_main a a' cap cap' lc lo cfull cb cp ofull ob op i' e' d w hr hr' hnil hnil' hX hXo hs.1 hs.2 h1 h2 h3 h4 h5 h6 (by omega) (by omega) hd
    · have g1 : ¬ ((lc.length : Int) > 65536) := by omega
      have g2 : ¬ ((lo.length : Int) > 65536) := by omega
      go_enter Try.func7, Try.ntmps7
      go_wp2_with fail
      refine (zz25_any a a' cap cap' lc.length lo.length cfull cb cp ofull ob op i e d w (by omega) (by omega)).mono ?_
      rintro r w' ⟨rfl, hw'⟩
      rw [hw', show decide (lc.length ≤ 1048576 ∧ lo.length ≤ 1048576 ∧ lc.length + lo.length ≤ 1048576) = true by rw [decide_eq_true_iff]; omega]
      clear hw'
      go_wp2_with fail
      refine (prem26_neg a a' cap cap' lc.length lo.length cfull cb cp ofull ob op i e d w hs.1 hs.2 h1 h2 h3 h4 h5 h6 hneg).mono ?_
      rintro r w' ⟨rfl, hw'⟩
      rw [hw']
      clear hw'
      go_wp2_with fail
      go_ret
      exact ⟨rfl, Below.refl _ _⟩
  · go_enter Try.func7, Try.ntmps7
    go_wp2_with fail
    refine (zz25_any a a' cap cap' lc.length lo.length cfull cb cp ofull ob op i e d w (by omega) (by omega)).mono ?_
    rintro r w' ⟨rfl, hw'⟩
    rw [hw']
    clear hw'
    generalize decide (lc.length ≤ 1048576 ∧ lo.length ≤ 1048576 ∧ lc.length + lo.length ≤ 1048576) = z
    cases z
    · go_wp2_with fail
      go_ret
      exact ⟨rfl, Below.refl _ _⟩
    · by_cases h7 : lc.length ≤ 65536
      · have g1 : ¬ ((lc.length : Int) > 65536) := by omega
        have g2 : (lo.length : Int) > 65536 := by omega
        go_wp2_with fail
        go_ret
        exact ⟨rfl, Below.refl _ _⟩
      · have g1 : (lc.length : Int) > 65536 := by omega
        go_wp2_with fail
        go_ret
        exact ⟨rfl, Below.refl _ _⟩

end Go.Proofs.Qxb6601640a
