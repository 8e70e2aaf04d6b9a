import Derived.Test.Qxb6601556aState
namespace Go.Proofs.Qxb6601556a
open Go.RowKit
set_option linter.unusedVariables false
set_option linter.unusedSimpArgs false

def inB (comp : List Int) (st n : Nat) (y : Int) : Bool := decide ((st : Int) ≤ y) && decide (y < (n : Int)) && decide (comp.getD y.toNat 0 = comp.getD st 0)
def edgeB (rows : List (List Int)) (comp : List Int) (st n : Nat) (x : Nat) (y : Int) : Bool := inB comp st n y && hasI (rows.getD x []) y

/-- The head of the model's box: the graph. -/
structure MBox (w : World) (bm : Nat) (vR vC : Value) (st n : Nat) : Prop where
  c0 : w.cell? ⟨bm, 0, none⟩ = some vR
  c1 : w.cell? ⟨bm, 1, none⟩ = some vC
  c2 : w.cell? ⟨bm, 2, none⟩ = some (.int .i64 st)
  c3 : w.cell? ⟨bm, 3, none⟩ = some (.int .i64 n)

set_option maxHeartbeats 1000000 in
theorem wmIn_any (bm : Nat) (vR vC : Value) (comp : List Int) (st n : Nat) (y : Int) (w : World) (M : MBox w bm vR vC st n) (hc : OI w vC comp) (hst : st < n) (hn : n ≤ comp.length) (hcb : comp.length ≤ 4096) :
    Calls Try.prog 27 #[.pointer (some ⟨bm, 0, none⟩), .int .i64 y] w fun e w' => e = .returned (.bool (inB comp st n y)) ∧ ∃ q, w' = w.drewN q := by
  obtain ⟨c0, c1, c2, c3⟩ := M
  obtain ⟨gC, cC, rfl, hgC, hcC⟩ := hc.at st (by omega)
  have hcst := hcC st (by omega)
  by_cases h1 : (st : Int) ≤ y
  · by_cases h2 : y < (n : Int)
    · obtain ⟨yn, rfl⟩ := Int.eq_ofNat_of_zero_le (show 0 ≤ y by omega)
      have hcy := hcC yn (by omega)
      have hd1 : decide ((st : Int) ≤ (yn : Int)) = true := by simp; omega
      have hd2 : decide ((yn : Int) < (n : Int)) = true := by simp; omega
      have hyi : (yn : Int) < (comp.length : Int) := by omega
      have hsi : (st : Int) < (comp.length : Int) := by omega
      have HB : Hid (inB comp st n (yn : Int) = decide (comp.getD yn 0 = comp.getD st 0)) := by
        show inB comp st n (yn : Int) = _
        simp [inB]; omega
      clear hcC c0
      go_enter Try.func27, Try.ntmps27
      go_wp2
      go_quiet (fail)
      go_wp2
      go_ret
      refine ⟨ret_bool ?_, _, rfl⟩
      rw [HB.out, Bool.eq_iff_iff]
      simp
    · have hd1 : decide ((st : Int) ≤ y) = true := by simp; omega
      have hd2 : decide (y < (n : Int)) = false := by simp; omega
      have HB : Hid (inB comp st n y = false) := by
        show inB comp st n y = _
        simp [inB]; omega
      clear hcC c0
      go_enter Try.func27, Try.ntmps27
      go_wp2
      go_quiet (fail)
      go_wp2
      go_ret
      exact ⟨ret_bool (by rw [HB.out]), _, rfl⟩
  · have hd1 : decide ((st : Int) ≤ y) = false := by simp; omega
    have HB : Hid (inB comp st n y = false) := by
      show inB comp st n y = _
      simp [inB]; omega
    clear hcC c0
    go_enter Try.func27, Try.ntmps27
    go_wp2
    go_quiet (fail)
    go_wp2
    go_ret
    exact ⟨ret_bool (by rw [HB.out]), _, rfl⟩

set_option maxHeartbeats 1000000 in
theorem wmEdge_any (bm : Nat) (vR vC : Value) (rv : List Value) (rows : List (List Int)) (comp : List Int) (st : Nat) (x : Nat) (y : Int) (w : World) (M : MBox w bm vR vC st rows.length) (G : Graph w vR vC rv rows comp) (hst : st < rows.length) (hn : rows.length ≤ comp.length) (hcb : comp.length ≤ 4096)
    (hx : x < rows.length) (hl : (rows.getD x []).length ≤ 1024) :
    Calls Try.prog 16 #[.pointer (some ⟨bm, 0, none⟩), .int .i64 x, .int .i64 y] w fun e w' => e = .returned (.bool (edgeB rows comp st rows.length x y)) ∧ ∃ q, w' = w.drewN q := by
  obtain ⟨gR, cR, hvR, hgR, hcR⟩ := G.top.at x (by rw [G.len]; exact hx)
  have hrow := G.row x hx
  have hlen := G.len
  have hc0 := M.c0
  rw [hvR] at hc0
  have hxi : (x : Int) < (rv.length : Int) := by omega
  generalize hrvv : rv.getD x (.slice none 0 0) = rvv at *
  obtain ⟨al, cl, rfl, hl1, hl2, hl3, hl4, hl5⟩ := hrow.shape
  have HE : Hid (edgeB rows comp st rows.length x y = (inB comp st rows.length y && hasI (rows.getD x []) y)) := rfl
  generalize hlq : rows.getD x [] = l at *
  clear hrvv hlq hrow hl3 hl4
  have HM := hideP M
  have HC := hideP G.com
  clear M G
  cases hin : inB comp st rows.length y with
  | false =>
    go_enter Try.func16, Try.ntmps16
    go_wp2_with (go_at_call 27; refine (wmIn_any bm vR vC comp st rows.length y _ HM.out HC.out hst hn hcb).mono ?_; rintro e w' ⟨rfl, q, hw'⟩; rw [hin, hw']; clear hw')
    go_ret
    exact ⟨ret_bool (by rw [HE.out, hin]; rfl), q, rfl⟩
  | true =>
    go_enter Try.func16, Try.ntmps16
    go_wp2_with (go_at_call 27; refine (wmIn_any bm vR vC comp st rows.length y _ HM.out HC.out hst hn hcb).mono ?_; rintro e w' ⟨rfl, q, hw'⟩; rw [hin, hw']; clear hw')
    go_loop [21, 8] (fun i _ => ∃ k : Nat, k ≤ l.length ∧ i = .int .i64 k ∧ Hid (hasI (l.take k) y = false)) (fun i _ => l.length - (intOf i).toNat)
    case atStart => exact ⟨0, Nat.zero_le _, rfl, rfl⟩
    case round =>
      obtain ⟨k, hk, rfl, HH⟩ := hrel
      by_cases hlt : k < l.length
      · obtain ⟨b, off, rfl, hcell⟩ := hl5 k hlt
        go_wp2_with fail
        · have heq : (l[k] == y) = true := by assumption
          go_ret
          refine ⟨ret_bool ?_, _, rfl⟩
          have : l[k] = y := by simpa using heq
          rw [HE.out, hin]
          unfold hasI
          rw [← this]; simp
        · have heq : (l[k] == y) = false := by assumption
          go_round
          case rel =>
            refine ⟨k + 1, by omega, by go_num, ?_⟩
            show hasI (l.take (k + 1)) y = false
            rw [hasI_take_succ l y k hlt, HH.out, heq]; rfl
          case measure => simp [intOf]; omega
      · go_wp2_with fail
        go_ret
        refine ⟨ret_bool ?_, _, rfl⟩
        have := HH.out
        rw [List.take_of_length_le (by omega)] at this
        rw [HE.out, hin, this]; rfl

end Go.Proofs.Qxb6601556a
