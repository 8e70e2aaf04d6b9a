import Derived.Test.Qxb6601556aReach
namespace Go.Proofs.Qxb6601556a
open Go.RowKit
set_option linter.unusedVariables false
set_option linter.unusedSimpArgs false

/-- How many of the first k nodes are in the set and have an edge to w. -/
def waitN (rows : List (List Int)) (comp : List Int) (st : Nat) (q : List Int) (y : Int) (k : Nat) : Nat := (List.range k).countP fun i : Nat => hasI q (i : Int) && edgeB rows comp st rows.length i y

theorem waitN_succ (rows : List (List Int)) (comp : List Int) (st : Nat) (q : List Int) (y : Int) (k : Nat) : waitN rows comp st q y (k + 1) = waitN rows comp st q y k + if hasI q (k : Int) && edgeB rows comp st rows.length k y then 1 else 0 := by
  unfold waitN
  rw [List.range_succ, List.countP_append]
  simp [List.countP_cons]
theorem waitN_le (rows : List (List Int)) (comp : List Int) (st : Nat) (q : List Int) (y : Int) (k : Nat) : waitN rows comp st q y k ≤ k := by
  have := List.countP_le_length (l := List.range k) (p := fun i : Nat => hasI q (i : Int) && edgeB rows comp st rows.length i y)
  simpa [waitN] using this

theorem Graph.new {w wr : World} {vR vC : Value} {rv : List Value} {rows : List (List Int)} {comp : List Int} (h : Graph w vR vC rv rows comp) (hc : Chg (fun _ => False) w wr) : Graph wr vR vC rv rows comp := h.chg hc (fun _ _ h => h) (fun _ _ h => h) (fun _ _ _ _ h => h)

set_option maxRecDepth 100000 in
set_option maxHeartbeats 1000000 in
theorem wmWaiting_any (bm : Nat) (vR vC : Value) (rv : List Value) (rows : List (List Int)) (comp : List Int) (st : Nat) (D : Dom rows comp st)
    (y : Int) (gq : Nat) (q : List Int) (w : World) (M : MBox w bm vR vC st rows.length) (G : Graph w vR vC rv rows comp) (hq : OB w gq rows.length q) :
    Calls Try.prog 17 #[.pointer (some ⟨bm, 0, none⟩), .slice (some ⟨gq, 0, none⟩) rows.length rows.length, .int .i64 y] w fun e w' => e = .returned (.int .i64 (waitN rows comp st q y rows.length)) ∧ Drawn w w' := by
  have hn := D.n
  have HD := hideP D
  have HM := hideP M
  have HG := hideP G
  have HQ := hideP hq
  clear G M D hq
  go_enter Try.func17, Try.ntmps17
  go_wp2_with fail
  go_loopw [7, 8] (fun cv iv wr => ∃ i : Nat, i ≤ rows.length ∧ iv = .int .i64 i ∧ cv = .int .i64 (waitN rows comp st q y i) ∧ Drawn w wr) (fun _ iv _ => rows.length - (intOf iv).toNat)
  case atStart => exact ⟨0, Nat.zero_le _, rfl, rfl, 0, rfl⟩
  case round =>
    obtain ⟨i, hil, rfl, rfl, hdr⟩ := hrel
    have HDR := hideP hdr
    have c3 := hdr.cell HM.out.c3
    clear hdr
    by_cases hlt : i < rows.length
    · have hcq := HDR.out.cell (HQ.out.cell i hlt)
      have hii : (i : Int) < (rows.length : Int) := by omega
      have hle := waitN_le rows comp st q y i
      have HW := hideP (waitN_succ rows comp st q y i)
      generalize waitN rows comp st q y i = cn at *
      cases hh : hasI q (i : Int) with
      | false =>
        rw [hh] at hcq
        go_wp2_with fail
        go_roundw
        case rel =>
          refine ⟨i + 1, by omega, by go_num, ?_, HDR.out⟩
          rw [HW.out, hh]; simp
        case measure => simp [intOf]; omega
      | true =>
        rw [hh] at hcq
        cases he : edgeB rows comp st rows.length i y with
        | false =>
          go_wp2_with (go_at_call 16; refine (wmEdge_any bm vR vC rv rows comp st i y _ (HM.out.new HDR.out.chg) (HG.out.new HDR.out.chg) HD.out.s HD.out.cn HD.out.c hlt (HD.out.e i)).mono ?_; rintro e w' ⟨rfl, qd, hw'⟩; rw [he]; have HD' : Hid (Drawn w w') := (by rw [hw']; exact hideP (HDR.out.more qd)); clear hw')
          go_roundw
          case rel =>
            refine ⟨i + 1, by omega, by go_num, ?_, HD'.out⟩
            rw [HW.out, hh, he]; simp
          case measure => simp [intOf]; omega
        | true =>
          go_wp2_with (go_at_call 16; refine (wmEdge_any bm vR vC rv rows comp st i y _ (HM.out.new HDR.out.chg) (HG.out.new HDR.out.chg) HD.out.s HD.out.cn HD.out.c hlt (HD.out.e i)).mono ?_; rintro e w' ⟨rfl, qd, hw'⟩; rw [he]; have HD' : Hid (Drawn w w') := (by rw [hw']; exact hideP (HDR.out.more qd)); clear hw')
          go_roundw
          case rel =>
            refine ⟨i + 1, by omega, by go_num, ?_, HD'.out⟩
            rw [HW.out, hh, he]; go_num
          case measure => simp [intOf]; omega
    · go_wp2_with fail
      go_ret
      obtain rfl : i = rows.length := by omega
      exact ⟨rfl, HDR.out⟩

end Go.Proofs.Qxb6601556a
