/-
  The small functions: zzBytes 8, maskOf 22, validLayout 9, cloneWords 10, sameWords 14, ZZMake 11, ZZFields 13.
-/
import Derived.Test.Qxb6601640aCount
namespace Go.Proofs.Qxb6601640a
open Go.RowKit
set_option linter.unusedVariables false
set_option linter.unusedSimpArgs false

theorem Try.info23 : (Try.prog.info? 23).map (fun i => (i.zero, i.size, i.bytes)) = some (some (.int .u64 0), 1, 8) := by kernel_rfl
theorem Try.size23 : (Try.prog.info? 23).map (·.size) = some 1 := by kernel_rfl

theorem maskOf_any (b W : Nat) (hw : Wid b W) (w : World) : Calls Try.prog 22 #[.int .u8 b] w fun e w' => e = .returned (.int .u64 (2 ^ W - 1 : Nat)) ∧ w' = w := by
  rcases hw with ⟨rfl, rfl⟩ | ⟨rfl, rfl⟩ | ⟨rfl, rfl⟩ | ⟨rfl, rfl⟩ <;>
  · go_enter Try.func22, Try.ntmps22
    go_wp2
    go_ret
    exact ⟨rfl, rfl⟩

/-- The documented layout. -/
structure Lay (full b pl W : Nat) : Prop where
  wid : Wid b W
  pl : pl = 6 - b
  full : full = 2 ^ W - 1

theorem validLayout_any (full b pl : Nat) (w : World) (h1 : full < 18446744073709551616) (h2 : b < 256) (h3 : pl < 256) :
    Calls Try.prog 9 #[.int .u64 full, .int .u8 b, .int .u8 pl] w fun e w' => (e = .returned (.bool false) ∨ e = .returned (.bool true) ∧ ∃ W, Lay full b pl W) ∧ w' = w := by
  by_cases hb : b < 3 ∨ 6 < b
  · rcases hb with hb | hb
    · go_enter Try.func9, Try.ntmps9
      go_wp2
      go_ret
      exact ⟨.inl rfl, rfl⟩
    · have : ¬ ((b : Int) < 3) := by omega
      go_enter Try.func9, Try.ntmps9
      go_wp2
      go_ret
      exact ⟨.inl rfl, rfl⟩
  · obtain ⟨W, hW⟩ : ∃ W, Wid b W := by
      have h : b = 3 ∨ b = 4 ∨ b = 5 ∨ b = 6 := by omega
      rcases h with rfl | rfl | rfl | rfl
      · exact ⟨8, .inl ⟨rfl, rfl⟩⟩
      · exact ⟨16, .inr (.inl ⟨rfl, rfl⟩)⟩
      · exact ⟨32, .inr (.inr (.inl ⟨rfl, rfl⟩))⟩
      · exact ⟨64, .inr (.inr (.inr ⟨rfl, rfl⟩))⟩
    by_cases hp : pl = 6 - b
    · have e : (pl : Int) = 6 - (b : Int) := by omega
      subst hp
      have hne : (((6 - b : Nat) : Int) != 6 - (b : Int)) = false := by simp; omega
      have g1 : ¬ ((b : Int) < 3) := by omega
      have g2 : ¬ ((6 : Int) < (b : Int)) := by omega
      clear e
      go_enter Try.func9, Try.ntmps9
      go_wp2_with (go_at_call 22; refine (maskOf_any b W hW _).mono ?_; rintro e w2 ⟨rfl, rfl⟩)
      go_ret
      refine ⟨?_, rfl⟩
      by_cases hf : full = 2 ^ W - 1
      · exact .inr ⟨ret_bool (by simp [hf]), W, hW, rfl, hf⟩
      · refine .inl (ret_bool ?_)
        rw [beq_eq_false_iff_ne]
        intro e; exact hf (by exact_mod_cast e)
    · have hne : ((pl : Int) != 6 - (b : Int)) = true := by simp; omega
      have g1 : ¬ ((b : Int) < 3) := by omega
      have g2 : ¬ ((6 : Int) < (b : Int)) := by omega
      go_enter Try.func9, Try.ntmps9
      go_wp2
      go_ret
      exact ⟨.inl rfl, rfl⟩

theorem zzBytes8_any (a : Option Addr) (n cap : Nat) (f b p j m : Nat) (w : World) (hl : n ≤ 9223372036854775807) : Calls Try.prog 8 #[.slice a n cap, .int .u64 f, .int .u8 b, .int .u8 p, .int .u64 j, .int .u64 m] w fun e w' => e = .returned (.bool (decide (n ≤ 1048576))) ∧ w' = w := by
  by_cases h : n ≤ 1048576
  · have h1 : ¬ ((n : Int) > 1048576) := by omega
    go_enter Try.func8, Try.ntmps8
    go_wp2
    go_ret
    exact ⟨ret_bool (by simp [h]), rfl⟩
  · have h1 : ((n : Int) > 1048576) := by omega
    go_enter Try.func8, Try.ntmps8
    go_wp2
    go_ret
    exact ⟨ret_bool (by simp [h]), rfl⟩

/-- What cloneWords has filled. -/
def filled (l : List Nat) (k : Nat) : List Nat := l.take k ++ List.replicate (l.length - k) 0
theorem filled_zero (l : List Nat) : filled l 0 = List.replicate l.length 0 := by simp [filled]
theorem filled_all (l : List Nat) : filled l l.length = l := by simp [filled]
theorem filled_len (l : List Nat) (k : Nat) (h : k ≤ l.length) : (filled l k).length = l.length := by simp [filled]; omega
theorem filled_set (l : List Nat) (k : Nat) (h : k < l.length) : (filled l k).set k (l.getD k 0) = filled l (k + 1) := by
  apply List.ext_getElem?
  intro i
  have hlen := filled_len l k (by omega)
  have hlen' := filled_len l (k + 1) (by omega)
  rw [List.getElem?_set]
  split
  · rename_i e; subst e
    rw [if_pos (by omega)]
    unfold filled
    rw [List.getElem?_append_left (by simp; omega)]
    simp [List.getElem?_take, h, List.getD]
  · rename_i hne
    unfold filled
    by_cases hi : i < k
    · rw [List.getElem?_append_left (by simp; omega), List.getElem?_append_left (by simp; omega)]
      simp [List.getElem?_take, hi, show i < k + 1 by omega]
    · rw [List.getElem?_append_right (by simp; omega), List.getElem?_append_right (by simp; omega)]
      simp only [List.getElem?_replicate, List.length_take]
      have e1 : min k l.length = k := by omega
      have e2 : min (k + 1) l.length = k + 1 := by omega
      rw [e1, e2]
      by_cases hi2 : i < l.length
      · rw [if_pos (by omega), if_pos (by omega)]
      · rw [if_neg (by omega), if_neg (by omega)]

theorem made_words {w : World} {base g n : Nat} (h : w.ownsRow base 23 1 (.slice (some ⟨g, 0, none⟩) n n) n (madeCells (Value.int .u64 0).cells (n * 1)).toList) : OBk w g (List.replicate n 0) := by
  obtain ⟨h1, h2⟩ := h
  rcases h2 with ⟨h2, _⟩ | ⟨g', cap, cur, hv, hb, hg, hn, hm, hs, ht⟩
  · cases h2
  · simp only [Value.slice.injEq, Option.some.injEq, Addr.mk.injEq, and_true, true_and] at hv
    obtain ⟨rfl, rfl⟩ := hv
    have e : cur = (madeCells (Value.int .u64 0).cells (n * 1)) := by
      apply Array.toList_inj.1
      rw [← ht, List.take_of_length_le (by simp; omega)]
    unfold OBk
    rw [hg, e]
    congr 2
    apply Array.ext
    · simp [size_madeCells]
    · intro i h1 h2
      simp [madeCells, Value.cells, U, Nat.mod_one]

set_option maxHeartbeats 400000 in
theorem cloneWords_any (a : Option Addr) (cap : Nat) (l : List Nat) (w : World) (hr : RowW w a l) (hnil : a = none → l.length = 0) (hl : l.length ≤ 1000000000) :
    Calls Try.prog 10 #[.slice a l.length cap] w fun e w' => ∃ v, e = .returned v ∧ OW w' v l ∧ Chg (fun _ => False) w w' ∧ (∀ b, v.ownBlock = some b → w.heap.size ≤ b) := by
  have heq := fun w => Lib.run_eql_slice_nil (P := Try.prog) (w := w) (t := 22)
  cases a with
  | none =>
    have h0 := hnil rfl
    go_enter Try.func10, Try.ntmps10
    go_wp2
    go_ret
    obtain rfl : l = [] := List.eq_nil_of_length_eq_zero h0
    exact ⟨_, rfl, .inl ⟨rfl, rfl⟩, Chg.refl _ _, fun b hb => by cases hb⟩
  | some x =>
    obtain ⟨i0, hi, hz0, hz1, hz2⟩ := info_parts Try.info23
    go_enter Try.func10, Try.ntmps10
    go_wp2_with (at_make; refine wpList_make_full _ rfl _ _ 22 rfl w.heap.size 23 i0 (.int .u64 0) 1 Try.underlying22 hi hz0 hz1 _ _ _ _ l.length rfl rfl (by simp) (by simp) (by rw [hz2]; omega) (by unfold maxLen; omega) (Nat.le_refl _) ?_; intro w1 hown hgrow)
    have hob := made_words hown
    have hc1 : Chg (fun _ => False) w w1 := (Chg.refl _ w).grown hgrow (fun k _ e => by cases e)
    have hlt1 := hob.lt
    clear hown hgrow
    go_loopw [4] (fun i wr => ∃ k : Nat, k ≤ l.length ∧ i = .int .i64 k ∧ Hid (OBk wr w.heap.size (filled l k)) ∧ Hid (Chg (fun _ => False) w wr)) (fun i _ => l.length - (intOf i).toNat)
    case atStart => exact ⟨0, Nat.zero_le _, rfl, by rw [filled_zero]; exact hob, hc1⟩
    case round =>
      obtain ⟨k, hk, rfl, HO, HC⟩ := hrel
      by_cases hlt : k < l.length
      · obtain ⟨b1, o1, hx, c1⟩ := hr k hlt
        cases hx
        have hlb := World.block_lt_of_cell? w _ c1
        have c1' := HC.out.cellEq c1 (fun h => h)
        have c2 := HO.out.cell k (by rw [filled_len l k hk]; exact hlt)
        have c3 := HO.out.frozen k
        have hti : (k : Int) < (l.length : Int) := by omega
        go_wp2
        go_roundw
        case rel =>
          refine ⟨k + 1, by omega, by go_num, ?_, ?_⟩
          · have := HO.out.set k (l.getD k 0) (by rw [filled_len l k hk]; exact hlt)
            rw [filled_set l k hlt, show l.getD k 0 = l[k] by simp [List.getD, hlt]] at this
            exact this
          · exact HC.out.setCell (fun h => by simp at h) _
        case measure => simp [intOf]; omega
      · go_wp2
        go_ret
        obtain rfl : k = l.length := by omega
        have := HO.out
        rw [filled_all] at this
        exact ⟨_, rfl, .inr ⟨_, rfl, this⟩, HC.out, fun b hb => by simp [Value.ownBlock] at hb; omega⟩

theorem take_succ_eq (l l' : List Nat) (k : Nat) (h : k < l.length) (h' : k < l'.length) : l.take (k + 1) = l'.take (k + 1) ↔ l.take k = l'.take k ∧ l[k] = l'[k] := by
  rw [List.take_succ_eq_append_getElem h, List.take_succ_eq_append_getElem h']
  constructor
  · intro e
    have := List.append_inj' e rfl
    simpa using this
  · rintro ⟨e1, e2⟩; rw [e1, e2]

def sameI (a b : List Nat) : Bool := decide (a = b)

set_option maxHeartbeats 400000 in
theorem sameWords_any (a b : Option Addr) (cap cap' : Nat) (l l' : List Nat) (w : World) (hr : RowW w a l) (hr' : RowW w b l') (hl : l.length ≤ 1000000000) (hl' : l'.length ≤ 1000000000) :
    Calls Try.prog 14 #[.slice a l.length cap, .slice b l'.length cap'] w fun e w' => e = .returned (.bool (sameI l l')) ∧ ∃ q, w' = w.drewN q := by
  by_cases hlen : l.length = l'.length
  · have hb : ((l.length : Int) != (l'.length : Int)) = false := by simp; omega
    go_enter Try.func14, Try.ntmps14
    go_wp2
    go_loopw [5] (fun i wr => ∃ k q : Nat, k ≤ l.length ∧ i = .int .i64 k ∧ Hid (l.take k = l'.take k) ∧ wr = w.drewN q) (fun i _ => l.length - (intOf i).toNat)
    case atStart => exact ⟨0, 0, Nat.zero_le _, rfl, rfl, rfl⟩
    case round =>
      obtain ⟨k, q, hk, rfl, HC, rfl⟩ := hrel
      by_cases hlt : k < l.length
      · obtain ⟨b1, o1, rfl, c1⟩ := hr k hlt
        obtain ⟨b2, o2, rfl, c2⟩ := hr' k (by omega)
        have hlt' : k < l'.length := by omega
        have hti : (k : Int) < (l.length : Int) := by omega
        have hti' : (k : Int) < (l'.length : Int) := by omega
        have e1 : l.getD k 0 = l[k] := by simp [List.getD, hlt]
        have e2 : l'.getD k 0 = l'[k] := by simp [List.getD, hlt']
        rw [e1] at c1
        rw [e2] at c2
        by_cases hd : l[k] = l'[k]
        · have hne : (((l[k] : Nat) : Int) != ((l'[k] : Nat) : Int)) = false := by simp [hd]
          have HD := hideP hd
          clear hd e1 e2
          go_wp2
          go_quiet (fail)
          go_wp2
          go_roundw
          case rel =>
            refine ⟨k + 1, q + nq, by omega, by go_num, ?_, rfl⟩
            exact (take_succ_eq l l' k hlt hlt').2 ⟨HC.out, HD.out⟩
          case measure => simp [intOf]; omega
        · have hne : (((l[k] : Nat) : Int) != ((l'[k] : Nat) : Int)) = true := by simp; omega
          have HD := hideP hd
          clear hd e1 e2
          go_wp2
          go_quiet (fail)
          go_wp2
          go_ret
          refine ⟨ret_bool ?_, q + nq, by simp⟩
          simp only [sameI]
          symm
          rw [decide_eq_false_iff_not]
          intro e
          subst e
          exact HD.out rfl
      · go_wp2
        go_ret
        refine ⟨ret_bool ?_, q, rfl⟩
        have := HC.out
        rw [List.take_of_length_le (by omega), List.take_of_length_le (by omega)] at this
        simp [sameI, this]
  · have hb : ((l.length : Int) != (l'.length : Int)) = true := by simp; omega
    go_enter Try.func14, Try.ntmps14
    go_wp2
    go_ret
    exact ⟨ret_bool (by simp [sameI]; intro e; exact hlen (by rw [e])), 0, rfl⟩

theorem ZZMake_any (v : Value) (a : Option Addr) (n c : Nat) (hv : v = .slice a n c) (full bl pl : Nat) (w : World) : Calls Try.prog 11 #[v, .int .u64 full, .int .u8 bl, .int .u8 pl] w fun e w' => e = .returned (.pointer (some ⟨w.heap.size, 0, none⟩)) ∧ Box w' w.heap.size v full bl pl ∧ Chg (fun _ => False) w w' ∧ w'.heap.size = w.heap.size + 1 := by
  subst hv
  go_enter Try.func11, Try.ntmps11
  go_wp2
  go_ret
  exact ⟨rfl, heap_alloc_new _ _, (Chg.refl _ w).alloc _, by simp⟩

theorem results_tmp4 {fn : Func} {t u v x : Tmp} (h : fn.results = #[.tmp t, .tmp u, .tmp v, .tmp x]) (tmps : Array Value) (P : Program) (w : World) :
    (results fn tmps).run P w = .ok (.tuple #[tmps.getD t undef, tmps.getD u undef, tmps.getD v undef, tmps.getD x undef]) w := by
  simp [results, h]

theorem ZZFields_any (c : Nat) (v : Value) (full bl pl : Nat) (w : World) (hB : Box w c v full bl pl) : Calls Try.prog 13 #[.pointer (some ⟨c, 0, none⟩)] w fun e w' => e = .returned (.tuple #[v, .int .u64 full, .int .u8 bl, .int .u8 pl]) ∧ ∃ q, w' = w.drewN q := by
  obtain ⟨c0, c1, c2, c3⟩ := hB.cells
  go_enter Try.func13, Try.ntmps13
  go_wp2
  go_quiet (fail)
  go_wp2
  (try simp only [Exit.inBlock, Exit.then])
  refine bodyPost_ret (results_tmp4 rfl _ _ _) rfl ?_
  exact ⟨rfl, nq, rfl⟩

end Go.Proofs.Qxb6601640a
