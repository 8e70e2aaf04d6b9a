import Derived.Test.Qxb6601556aRows
import Derived.Test.Qxb6601556aMem2
namespace Go.Proofs.Qxb6601556a
open Go.RowKit
set_option linter.unusedVariables false
set_option linter.unusedSimpArgs false

def hasI (l : List Int) (x : Int) : Bool := l.contains x
def sameI (a b : List Int) : Bool := decide (a = b)

theorem hasI_take_succ (l : List Int) (x : Int) (k : Nat) (h : k < l.length) : hasI (l.take (k + 1)) x = (hasI (l.take k) x || l[k] == x) := by
  unfold hasI
  rw [List.take_succ_eq_append_getElem h, List.contains_append]
  have : (([l[k]] : List Int).contains x) = (l[k] == x) := by
    rw [Bool.eq_iff_iff]; simp; exact eq_comm
  rw [this]
theorem take_succ_eq (l l' : List Int) (k : Nat) (h : k < l.length) (h' : k < l'.length) : l.take (k + 1) = l'.take (k + 1) ↔ l.take k = l'.take k ∧ l[k] = l'[k] := by
  rw [List.take_succ_eq_append_getElem h, List.take_succ_eq_append_getElem h']
  constructor
  · intro e
    have := List.append_inj' e rfl
    simpa using this
  · rintro ⟨e1, e2⟩; rw [e1, e2]
theorem ret_bool {a b : Bool} (h : a = b) : Ending.returned (.bool a) = .returned (.bool b) := by rw [h]

set_option maxHeartbeats 400000 in
theorem contains_any (a : Option Addr) (n cap : Nat) (l : List Int) (x : Int) (w : World) (hn : l.length = n) (hr : RowI w a l) (hl : n ≤ 1000000000) :
    Calls Try.prog 31 #[.slice a n cap, .int .i64 x] w fun e w' => e = .returned (.bool (hasI l x)) ∧ w' = w := by
  subst hn
  go_enter Try.func31, Try.ntmps31
  go_wp2
  go_loop [9, 6] (fun i _ => ∃ k : Nat, k ≤ l.length ∧ i = .int .i64 k ∧ hasI (l.take k) x = false) (fun i _ => l.length - (intOf i).toNat)
  case atStart => exact ⟨0, Nat.zero_le _, rfl, rfl⟩
  case round =>
    obtain ⟨k, hk, rfl, hc⟩ := hrel
    by_cases hlt : k < l.length
    · obtain ⟨b, off, rfl, hcell⟩ := hr k hlt
      have HC : Hid (hasI (l.take k) x = false) := hc
      clear hc
      go_wp2
      · have heq : (l[k] == x) = true := by assumption
        go_ret
        refine ⟨ret_bool ?_, rfl⟩
        have : l[k] = x := by simpa using heq
        unfold hasI
        rw [← this]; simp
      · have heq : (l[k] == x) = false := by assumption
        go_round
        case rel =>
          refine ⟨k + 1, by omega, by go_num, ?_⟩
          rw [hasI_take_succ l x k hlt, HC.out, heq]; rfl
        case measure => simp [intOf]; omega
    · have HC : Hid (hasI (l.take k) x = false) := hc
      clear hc
      go_wp2
      go_ret
      refine ⟨ret_bool ?_, rfl⟩
      have := HC.out
      rw [List.take_of_length_le (by omega)] at this
      rw [this]

set_option maxHeartbeats 400000 in
theorem sameInts_any (a b : Option Addr) (n m cap cap' : Nat) (l l' : List Int) (w : World) (hn : l.length = n) (hm : l'.length = m) (hr : RowI w a l) (hr' : RowI w b l') (hl : n ≤ 1000000000) (hl' : m ≤ 1000000000) :
    Calls Try.prog 13 #[.slice a n cap, .slice b m cap'] w fun e w' => e = .returned (.bool (sameI l l')) ∧ ∃ q, w' = w.drewN q := by
  subst hn hm
  by_cases hlen : l.length = l'.length
  · have hb : ((l.length : Int) != (l'.length : Int)) = false := by simp; omega
    go_enter Try.func13, Try.ntmps13
    go_wp2
    go_loopw [5] (fun i wr => ∃ k q : Nat, k ≤ l.length ∧ i = .int .i64 k ∧ Hid (l.take k = l'.take k) ∧ wr = w.drewN q) (fun i _ => l.length - (intOf i).toNat)
    case atStart => exact ⟨0, 0, Nat.zero_le _, rfl, rfl, rfl⟩
    case round =>
      obtain ⟨k, q, hk, rfl, HC, rfl⟩ := hrel
      by_cases hlt : k < l.length
      · obtain ⟨b1, o1, rfl, c1⟩ := hr k hlt
        obtain ⟨b2, o2, rfl, c2⟩ := hr' k (by omega)
        have hlt' : k < l'.length := by omega
        have hti : (k : Int) < (l.length : Int) := by omega
        have hti' : (k : Int) < (l'.length : Int) := by omega
        go_wp2
        go_quiet (fail)
        go_wp2
        · have hne : (l[k] != l'[k]) = true := by assumption
          go_ret
          refine ⟨ret_bool ?_, q + nq, by simp⟩
          simp only [sameI]
          symm
          rw [decide_eq_false_iff_not]
          intro e
          subst e
          simp at hne
        · have hne : (l[k] != l'[k]) = false := by assumption
          go_roundw
          case rel =>
            refine ⟨k + 1, q + nq, by omega, by go_num, ?_, rfl⟩
            exact (take_succ_eq l l' k hlt hlt').2 ⟨HC.out, by simpa using hne⟩
          case measure => simp [intOf]; omega
      · go_wp2
        go_ret
        refine ⟨ret_bool ?_, q, rfl⟩
        have := HC.out
        rw [List.take_of_length_le (by omega), List.take_of_length_le (by omega)] at this
        simp [sameI, this]
  · have hb : ((l.length : Int) != (l'.length : Int)) = true := by simp; omega
    go_enter Try.func13, Try.ntmps13
    go_wp2
    go_ret
    exact ⟨ret_bool (by simp [sameI]; intro e; exact hlen (by rw [e])), 0, rfl⟩

theorem Try.info3 : (Try.prog.info? 3).map (fun i => (i.zero, i.size, i.bytes)) = some (some (.int .i64 0), 1, 8) := by kernel_rfl
theorem Try.info23 : (Try.prog.info? 23).map (fun i => (i.zero, i.size, i.bytes)) = some (some (.slice none 0 0), 1, 24) := by kernel_rfl
theorem Try.size3 : (Try.prog.info? 3).map (·.size) = some 1 := by kernel_rfl
theorem Try.size23 : (Try.prog.info? 23).map (·.size) = some 1 := by kernel_rfl

theorem clone_src {w w1 : World} {x : Addr} {l : List Int} (hr : RowI w (some x) l) (hg : w.grownBy w1 none) {dp : Option Addr} : 0 < (l.map (Value.int .i64)).length → dp = dp ∧ ∃ ad, some x = some ad ∧ ∀ j v, (l.map (Value.int .i64))[j]? = some v → w1.cell? (ad.add j) = some v := by
  intro _
  refine ⟨rfl, x, rfl, fun j v hj => ?_⟩
  have hlt : j < l.length := by simpa using (List.getElem?_eq_some_iff.1 hj).1
  obtain ⟨b, off, hx, hc⟩ := hr j hlt
  cases hx
  simp [hlt] at hj
  subst hj
  have := hg.cell hc (by simp)
  simpa [Addr.add_lit, hlt] using this

set_option maxHeartbeats 400000 in
theorem cloneInts_any (a : Option Addr) (n cap : Nat) (l : List Int) (w : World) (hn : l.length = n) (hr : RowI w a l) (hnil : a = none → n = 0) (hl : n ≤ 1000000000) :
    Calls Try.prog 10 #[.slice a n cap] w fun e w' => ∃ v, e = .returned v ∧ OI w' v l ∧ Chg (fun _ => False) w w' ∧ (∀ b, v.ownBlock = some b → w.heap.size ≤ b) := by
  subst hn
  have heq := fun w => Lib.run_eql_slice_nil (P := Try.prog) (w := w) (t := 23)
  cases a with
  | none =>
    have h0 := hnil rfl
    go_enter Try.func10, Try.ntmps10
    go_wp2
    go_ret
    obtain rfl : l = [] := List.eq_nil_of_length_eq_zero h0
    exact ⟨_, rfl, OI.nil _, Chg.refl _ _, fun b hb => by cases hb⟩
  | some x =>
    obtain ⟨i0, hi, hz0, hz1, hz2⟩ := info_parts Try.info3
    go_enter Try.func10, Try.ntmps10
    go_wp2_with (first
      | (at_make; refine wpList_make_full _ rfl _ _ 23 rfl w.heap.size 3 i0 (.int .i64 0) 1 Try.underlying23 hi hz0 hz1 _ _ _ _ l.length rfl rfl (by simp) (by simp) (by rw [hz2]; omega) (by unfold maxLen; omega) (Nat.le_refl _) ?_; intro w1 hown hgrow)
      | (refine wpList_copy_splice rfl _ _ 23 23 rfl 3 Try.underlying23 Try.size3 (some ⟨w.heap.size, 0, none⟩) (some x) l.length l.length l.length cap rfl rfl w.heap.size 0 _ 3 (ownsRow_full hown) (l.map (Value.int .i64)) (by simp) (clone_src hr hgrow) (by simp [size_madeCells]) (ints_oneCell .i64 l) w.heap.size w (Below.grown (Below.refl _ _) hgrow (Nat.le_refl _) (fun k hk => by cases hk)) (Nat.le_refl _) ?_; intro w2 HB hbel))
    go_ret
    refine ⟨_, rfl, ?_, Chg.of_below hbel, fun b hb => ?_⟩
    · have := HB.out
      rw [splice_whole _ _ (by simp [size_madeCells])] at this
      exact OI.of_block this (by simp) (Nat.le_refl _) (by unfold maxLen; omega) (by rw [List.take_of_length_le (by simp)])
    · simp [Value.ownBlock] at hb; omega

end Go.Proofs.Qxb6601556a
