import Derived.Test.Qxb6601556aDom
namespace Go.Proofs.Qxb6601556a
open Go.RowKit
set_option linter.unusedVariables false
set_option linter.unusedSimpArgs false

structure InDom (R : List (List Int)) (n1 : Nat) (C : List (List Int)) (st : Int) (n4 : Nat) (v : Int) : Prop where
  n : R.length ≤ 256
  c : n1 ≤ 4096
  cc : C.length ≤ 4096
  p : n4 ≤ 4096
  e : ∀ i, i < R.length → (R.getD i []).length ≤ 1024
  ce : ∀ i, i < C.length → (C.getD i []).length ≤ 131072
  s : 0 ≤ st ∧ st < (R.length : Int)
  v : 0 ≤ v ∧ v < (R.length : Int)
  cn : R.length ≤ n1
  t : ∀ i, i < R.length → ∀ x ∈ R.getD i [], x < (R.length : Int)

def DomEnd (R : List (List Int)) (n1 : Nat) (C : List (List Int)) (st : Int) (n4 : Nat) (v : Int) (e : Ending) : Prop := e = .returned (.bool false) ∨ (e = .returned (.bool true) ∧ InDom R n1 C st n4 v)
theorem domNo {R : List (List Int)} {n1 : Nat} {C : List (List Int)} {st : Int} {n4 : Nat} {v : Int} : DomEnd R n1 C st n4 v (.returned (.bool false)) := .inl rfl
theorem domYes {R : List (List Int)} {n1 : Nat} {C : List (List Int)} {st : Int} {n4 : Nat} {v : Int} (h : InDom R n1 C st n4 v) : DomEnd R n1 C st n4 v (.returned (.bool true)) := .inr ⟨rfl, h⟩

theorem all_lt_snoc {l : List Int} {n : Int} {k : Nat} (h : ∀ j, j < k → l.getD j 0 < n) (hk : l.getD k 0 < n) : ∀ j, j < k + 1 → l.getD j 0 < n := by
  intro j hj
  by_cases e : j = k
  · subst e; exact hk
  · exact h j (by omega)

set_option maxRecDepth 100000 in
set_option maxHeartbeats 2000000 in
theorem walkInDomain_any (a0 a1 a2 a4 : Option Addr) (c0 c1 n1 c2 n4 c4 : Nat) (st v : Int) (R C : List (List Int)) (w : World) (hR : RowsV w a0 R) (hC : RowsV w a2 C) (hRl : R.length ≤ 9223372036854775807) (h1 : n1 ≤ 9223372036854775807) (hCl : C.length ≤ 9223372036854775807) (h4 : n4 ≤ 9223372036854775807) :
    Calls Try.prog 8 #[.slice a0 R.length c0, .slice a1 n1 c1, .slice a2 C.length c2, .int .i64 st, .slice a4 n4 c4, .int .i64 v] w fun e w' => DomEnd R n1 C st n4 v e ∧ w' = w := by
  by_cases t0 : (256 : Int) < (R.length : Int)
  · go_enter Try.func8, Try.ntmps8
    go_wp2
    go_ret
    exact ⟨domNo, rfl⟩
  by_cases t1 : (4096 : Int) < (n1 : Int)
  · go_enter Try.func8, Try.ntmps8
    go_wp2
    go_ret
    exact ⟨domNo, rfl⟩
  by_cases t2 : (4096 : Int) < (C.length : Int)
  · go_enter Try.func8, Try.ntmps8
    go_wp2
    go_ret
    exact ⟨domNo, rfl⟩
  by_cases t3 : (4096 : Int) < (n4 : Int)
  · go_enter Try.func8, Try.ntmps8
    go_wp2
    go_ret
    exact ⟨domNo, rfl⟩
  go_enter Try.func8, Try.ntmps8
  go_wp2
  go_loop [14, 15, 16] (fun z y i => ∃ k : Nat, ∃ q r : Int, k ≤ R.length ∧ i = .int .i64 k ∧ z = .int .i64 q ∧ y = .int .i64 r ∧ 0 ≤ q ∧ q ≤ 1000000 + 8192 * k ∧ 0 ≤ r ∧ r ≤ 1024 * k ∧ (∀ j, j < k → (R.getD j []).length ≤ 1024)) (fun _ _ i => R.length - (intOf i).toNat)
  case atStart => exact ⟨0, _, _, Nat.zero_le _, rfl, rfl, rfl, by omega, by omega, by omega, by omega, fun j hj => by omega⟩
  case round =>
    obtain ⟨k, q, r, hk, rfl, rfl, rfl, hq0, hq1, hr0, hr1, hall⟩ := hrel
    by_cases hlt : k < R.length
    · obtain ⟨b, off, rfl, A, Cc, hcell, _, _⟩ := hR.1 k hlt
      have HA := (show Hid _ from hall)
      clear hall
      have hlen := hR.2 k
      generalize hln : (R.getD k []).length = len at *
      have HL := (show Hid _ from hln)
      clear hln
      by_cases hl : (1024 : Int) < (len : Int)
      · go_wp2
        go_ret
        exact ⟨domNo, rfl⟩
      · go_wp2
        go_round
        case rel =>
          refine ⟨k + 1, _, _, by omega, by go_num, rfl, rfl, by omega, by omega, by omega, by omega, fun j hj => ?_⟩
          by_cases e : j = k
          · subst e; rw [HL.out]; omega
          · exact HA.out j (by omega)
        case measure => simp [intOf]; omega
    · have HA := (show Hid _ from hall)
      clear hall
      obtain rfl : k = R.length := by omega
      by_cases hed : (1024 : Int) < r
      · go_wp2
        go_ret
        exact ⟨domNo, rfl⟩
      go_wp2
      go_loop [14, 17] (fun z i => ∃ k : Nat, ∃ q : Int, k ≤ C.length ∧ i = .int .i64 k ∧ z = .int .i64 q ∧ 0 ≤ q ∧ q ≤ 4000000 ∧ (∀ j, j < k → (C.getD j []).length ≤ 131072)) (fun _ i => C.length - (intOf i).toNat)
      case atStart => exact ⟨0, _, Nat.zero_le _, rfl, rfl, by omega, by omega, fun j hj => by omega⟩
      case round =>
        obtain ⟨k2, q2, hk2, rfl, rfl, hq20, hq21, hall2⟩ := hrel
        have HA2 := (show Hid _ from hall2)
        clear hall2
        by_cases hlt2 : k2 < C.length
        · obtain ⟨b, off, rfl, A, Cc, hcell, _, _⟩ := hC.1 k2 hlt2
          have hlen := hC.2 k2
          generalize hln : (C.getD k2 []).length = len at *
          have HL := (show Hid _ from hln)
          clear hln
          by_cases hl : (131072 : Int) < (len : Int)
          · go_wp2
            go_ret
            exact ⟨domNo, rfl⟩
          by_cases hl2 : (1048576 : Int) < q2 + 8 * (len : Int)
          · go_wp2
            go_ret
            exact ⟨domNo, rfl⟩
          go_wp2
          go_round
          case rel =>
            refine ⟨k2 + 1, _, by omega, by go_num, rfl, by omega, by omega, fun j hj => ?_⟩
            by_cases e : j = k2
            · subst e; rw [HL.out]; omega
            · exact HA2.out j (by omega)
          case measure => simp [intOf]; omega
        · obtain rfl : k2 = C.length := by omega
          by_cases hby : (1048576 : Int) < q2
          · go_wp2
            go_ret
            exact ⟨domNo, rfl⟩
          by_cases s0 : st < 0
          · go_wp2
            go_ret
            exact ⟨domNo, rfl⟩
          by_cases s1 : (R.length : Int) ≤ st
          · go_wp2
            go_ret
            exact ⟨domNo, rfl⟩
          by_cases v0 : v < 0
          · go_wp2
            go_ret
            exact ⟨domNo, rfl⟩
          by_cases v1 : (R.length : Int) ≤ v
          · go_wp2
            go_ret
            exact ⟨domNo, rfl⟩
          by_cases cn : (n1 : Int) < (R.length : Int)
          · go_wp2
            go_ret
            exact ⟨domNo, rfl⟩
          go_wp2
          go_loop [18] (fun i => ∃ k : Nat, k ≤ R.length ∧ i = .int .i64 k ∧ (∀ j, j < k → ∀ x ∈ R.getD j [], x < (R.length : Int))) (fun i => R.length - (intOf i).toNat)
          case atStart => exact ⟨0, Nat.zero_le _, rfl, fun j hj => by omega⟩
          case round =>
            obtain ⟨k3, hk3, rfl, hall3⟩ := hrel
            have HA3 := (show Hid _ from hall3)
            clear hall3
            by_cases hlt3 : k3 < R.length
            · obtain ⟨b, off, rfl, A, Cc, hcell, hrow, _⟩ := hR.1 k3 hlt3
              have hlen := HA.out k3 hlt3
              have HA4 : Hid (∀ l, R.getD k3 [] = l → ∀ x ∈ R.getD k3 [], x ∈ l) := fun l e x hx => e ▸ hx
              generalize hrl : R.getD k3 [] = rl at *
              have HL := (show Hid _ from hrl)
              clear hrl HA4
              go_wp2
              go_loop [138, 20] (fun i _ => ∃ k : Nat, k ≤ rl.length ∧ i = .int .i64 k ∧ Hid (∀ j, j < k → rl.getD j 0 < (R.length : Int))) (fun i _ => rl.length - (intOf i).toNat)
              case atStart => exact ⟨0, Nat.zero_le _, rfl, fun j hj => by omega⟩
              case round =>
                obtain ⟨k4, hk4, rfl, HB⟩ := hrel
                by_cases hlt4 : k4 < rl.length
                · obtain ⟨b2, o2, rfl, hcell2⟩ := hrow k4 hlt4
                  have Hx : Hid (∀ y, rl.getD k4 0 = y → rl.getD k4 0 = y) := fun _ h => h
                  generalize hxq : rl.getD k4 0 = x at *
                  have HX := (show Hid _ from hxq)
                  clear hxq Hx
                  by_cases hx : (R.length : Int) ≤ x
                  · go_wp2
                    go_ret
                    exact ⟨domNo, rfl⟩
                  · go_wp2
                    go_round
                    case rel => exact ⟨k4 + 1, by omega, by go_num, all_lt_snoc HB.out (by rw [HX.out]; omega)⟩
                    case measure => simp [intOf]; omega
                · go_wp2
                  go_round
                  case rel =>
                    refine ⟨k3 + 1, by omega, by go_num, fun j hj x hx => ?_⟩
                    by_cases e : j = k3
                    · subst e
                      rw [HL.out] at hx
                      obtain ⟨i, hi, rfl⟩ := List.mem_iff_getElem.1 hx
                      have := HB.out i (by omega)
                      simpa [hi] using this
                    · exact HA3.out j (by omega) x hx
                  case measure => simp [intOf]; omega
            · go_wp2
              go_ret
              obtain rfl : k3 = R.length := by omega
              exact ⟨domYes ⟨by omega, by omega, by omega, by omega, HA.out, HA2.out, by omega, by omega, by omega, HA3.out⟩, rfl⟩

end Go.Proofs.Qxb6601556a
