import Derived.Test.Qxb6601556aDom
namespace Go.Proofs.Qxb6601556a
open Go.RowKit
set_option linter.unusedVariables false
set_option linter.unusedSimpArgs false

set_option maxHeartbeats 1000000 in
theorem zzBytes7_any (a0 a1 a2 a4 : Option Addr) (c0 c1 n1 c2 n4 c4 : Nat) (st v : Int) (R C : List (List Int)) (w : World) (hR : RowsV w a0 R) (hC : RowsV w a2 C) (hRl : R.length ≤ 9223372036854775807) (h1 : n1 ≤ 9223372036854775807) (hCl : C.length ≤ 9223372036854775807) (h4 : n4 ≤ 9223372036854775807) :
    Calls Try.prog 7 #[.slice a0 R.length c0, .slice a1 n1 c1, .slice a2 C.length c2, .int .i64 st, .slice a4 n4 c4, .int .i64 v] w fun e w' => IsBool e ∧ w' = w := by
  by_cases t0 : (1048576 : Int) < (R.length : Int)
  · go_enter Try.func7, Try.ntmps7
    go_wp2
    go_ret
    exact ⟨isBool _, rfl⟩
  · go_enter Try.func7, Try.ntmps7
    go_wp2
    go_loop [13, 14] (fun z i => ∃ k : Nat, ∃ y : Int, k ≤ R.length ∧ i = .int .i64 k ∧ z = .int .i64 y ∧ 0 ≤ y ∧ y ≤ 1048576) (fun _ i => R.length - (intOf i).toNat)
    case atStart => exact ⟨0, _, Nat.zero_le _, rfl, rfl, by omega, by omega⟩
    case round =>
      obtain ⟨k, y, hk, rfl, rfl, hy0, hy1⟩ := hrel
      by_cases hlt : k < R.length
      · obtain ⟨b, off, rfl, A, Cc, hcell, _, _⟩ := hR.1 k hlt
        have hlen := hR.2 k
        generalize (R.getD k []).length = len at *
        go_wp2
        · go_ret
          exact ⟨isBool _, rfl⟩
        · go_ret
          exact ⟨isBool _, rfl⟩
        · go_round
          case rel => exact ⟨k + 1, _, by omega, by go_num, rfl, by omega, by omega⟩
          case measure => simp [intOf]; omega
      · go_wp2
        all_goals try (go_ret; exact ⟨isBool _, rfl⟩)
        go_loop [13, 15] (fun z i => ∃ k : Nat, ∃ y : Int, k ≤ C.length ∧ i = .int .i64 k ∧ z = .int .i64 y ∧ 0 ≤ y ∧ y ≤ 1048576) (fun _ i => C.length - (intOf i).toNat)
        case atStart => exact ⟨0, _, Nat.zero_le _, rfl, rfl, by omega, by omega⟩
        case round =>
          obtain ⟨k2, y2, hk2, rfl, rfl, hy20, hy21⟩ := hrel
          by_cases hlt2 : k2 < C.length
          · obtain ⟨b, off, rfl, A, Cc, hcell, _, _⟩ := hC.1 k2 hlt2
            have hlen := hC.2 k2
            generalize (C.getD k2 []).length = len at *
            go_wp2
            · go_ret
              exact ⟨isBool _, rfl⟩
            · go_ret
              exact ⟨isBool _, rfl⟩
            · go_round
              case rel => exact ⟨k2 + 1, _, by omega, by go_num, rfl, by omega, by omega⟩
              case measure => simp [intOf]; omega
          · go_wp2
            all_goals (go_ret; exact ⟨isBool _, rfl⟩)

end Go.Proofs.Qxb6601556a
