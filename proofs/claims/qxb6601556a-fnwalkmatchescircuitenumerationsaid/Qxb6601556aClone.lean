import Derived.Test.Qxb6601556aDom2
import Derived.Test.Qxb6601556aState
namespace Go.Proofs.Qxb6601556a
open Go.RowKit
set_option linter.unusedVariables false
set_option linter.unusedSimpArgs false

theorem RowsV.chg {F : Nat → Prop} {w w' : World} {a : Option Addr} {rows : List (List Int)} (h : RowsV w a rows) (hc : Chg F w w') (hf : ∀ k, k < w.heap.size → ¬ F k) : RowsV w' a rows := by
  refine ⟨fun i hi => ?_, h.2⟩
  obtain ⟨b, off, rfl, A, C, hcell, hrow, hnil⟩ := h.1 i hi
  exact ⟨b, off, rfl, A, C, hc.cellEq hcell (hf _ (World.block_lt_of_cell? w _ hcell)), hrow.chg hc hf, hnil⟩

/-- A copy of a [][]int in memory of its own. -/
structure Copied (w w' : World) (v : Value) (rv : List Value) (rows : List (List Int)) : Prop where
  top : OV w' v rv
  len : rv.length = rows.length
  row : ∀ i, i < rows.length → OI w' (rv.getD i (.slice none 0 0)) (rows.getD i [])
  chg : Chg (fun _ => False) w w'
  tb : ∀ b, v.ownBlock = some b → w.heap.size ≤ b
  rb : ∀ i b, (rv.getD i (.slice none 0 0)).ownBlock = some b → w.heap.size ≤ b

theorem nils_getD (n i : Nat) : (List.replicate n (Value.slice none 0 0)).getD i (.slice none 0 0) = .slice none 0 0 := by
  simp only [List.getD, List.getElem?_replicate]
  split <;> rfl
theorem made_nils (n : Nat) : (madeCells (Value.slice none 0 0).cells (n * 1)).toList = List.replicate n (.slice none 0 0) := by
  apply List.ext_getElem
  · simp [madeCells]
  · intro i h1 h2
    simp [madeCells, Value.cells, Nat.mod_one]

theorem clone_store {w w1 w2 : World} {b0 n k : Nat} {rv : List Value} {rows : List (List Int)} {nv : Value} (hov : OV w1 (.slice (some ⟨b0, 0, none⟩) n n) rv) (hn : rv.length = n) (hk : k < n)
    (hrow : ∀ j, j < k → OI w1 (rv.getD j (.slice none 0 0)) (rows.getD j [])) (hb : ∀ j b, (rv.getD j (.slice none 0 0)).ownBlock = some b → w.heap.size ≤ b) (hc1 : Chg (fun _ => False) w w1) (hb0 : w.heap.size ≤ b0)
    (hc2 : Chg (fun _ => False) w1 w2) (hnv : OI w2 nv (rows.getD k [])) (hnb : ∀ b, nv.ownBlock = some b → w1.heap.size ≤ b) :
    (∃ u, w2.cell? ⟨b0, k, none⟩ = some u) ∧ w2.frozen? ⟨b0, k, none⟩ = false ∧ OV (w2.setCell ⟨b0, k, none⟩ nv) (.slice (some ⟨b0, 0, none⟩) n n) (rv.set k nv) ∧ (rv.set k nv).length = n ∧
    (∀ j, j < k + 1 → OI (w2.setCell ⟨b0, k, none⟩ nv) ((rv.set k nv).getD j (.slice none 0 0)) (rows.getD j [])) ∧ (∀ j b, ((rv.set k nv).getD j (.slice none 0 0)).ownBlock = some b → w.heap.size ≤ b) ∧ Chg (fun _ => False) w (w2.setCell ⟨b0, k, none⟩ nv) := by
  subst hn
  have hov2 : OV w2 (.slice (some ⟨b0, 0, none⟩) rv.length rv.length) rv := hov.chg hc2 (fun _ _ h => h)
  have hst := World.ownsRow.stored (show w2.ownsRow 0 23 1 (.slice (some ⟨b0, 0, none⟩) rv.length rv.length) rv.length rv from hov2) k nv
  have hcell := World.ownsRow.cellAt (show w2.ownsRow 0 23 1 (.slice (some ⟨b0, 0, none⟩) rv.length rv.length) rv.length rv from hov2) k (by omega)
  have keep : ∀ {u : Value} {l : List Int}, OI w2 u l → OI (w2.setCell ⟨b0, k, none⟩ nv) u l := fun ho =>
    ho.same fun b hbb => Below.heap_setCell _ _ _ _ (fun e => ho.ne_ov hov2 b hbb (by rw [e]; rfl))
  refine ⟨⟨_, by rw [hcell]; simp [hk]; rfl⟩, World.ownsRow.frozenAt (show w2.ownsRow 0 23 1 (.slice (some ⟨b0, 0, none⟩) rv.length rv.length) rv.length rv from hov2) k, ?_, by simp, fun j hj => ?_, fun j b hbb => ?_, ?_⟩
  · unfold OV; simpa using hst.1
  · by_cases e : j = k
    · subst e
      have : (rv.set j nv).getD j (.slice none 0 0) = nv := by simp [List.getD, hk]
      rw [this]; exact keep hnv
    · have : (rv.set k nv).getD j (.slice none 0 0) = rv.getD j (.slice none 0 0) := by simp [List.getD, List.getElem?_set, Ne.symm e]
      rw [this]; exact keep ((hrow j (by omega)).chg hc2 (fun _ _ h => h))
  · by_cases e : j = k
    · subst e
      have : (rv.set j nv).getD j (.slice none 0 0) = nv := by simp [List.getD, hk]
      rw [this] at hbb
      have := hnb b hbb
      have := hc1.size
      omega
    · have : (rv.set k nv).getD j (.slice none 0 0) = rv.getD j (.slice none 0 0) := by simp [List.getD, List.getElem?_set, Ne.symm e]
      rw [this] at hbb; exact hb j b hbb
  · exact (hc1.trans hc2 (fun _ _ h => h)).setCell (fun h => by simp at h; omega) _

set_option maxRecDepth 100000 in
set_option maxHeartbeats 1000000 in
theorem cloneIntss_any (a : Option Addr) (n cap : Nat) (rows : List (List Int)) (w : World) (hn : rows.length = n) (hr : RowsV w a rows) (hnil : a = none → n = 0) (hl : n ≤ 100000000) (hle : ∀ i, i < n → (rows.getD i []).length ≤ 1000000000) :
    Calls Try.prog 9 #[.slice a n cap] w fun e w' => ∃ v, e = .returned v ∧ ∃ rv, Copied w w' v rv rows := by
  subst hn
  have heq := fun w a n c => Lib.run_eql_slice_nil (P := Try.prog) w 22 23 a n c 0 0 Try.underlying22
  cases a with
  | none =>
    have h0 := hnil rfl
    go_enter Try.func9, Try.ntmps9
    go_wp2_with fail
    go_ret
    obtain rfl : rows = [] := List.eq_nil_of_length_eq_zero h0
    exact ⟨_, rfl, [], OV.nil _, rfl, fun i hi => by simp at hi, Chg.refl _ _, fun b hb => (by cases hb), fun i b hb => (by cases hb)⟩
  | some x =>
    obtain ⟨i0, hi, hz0, hz1, hz2⟩ := info_parts Try.info23
    go_enter Try.func9, Try.ntmps9
    go_wp2_with (at_make; refine wpList_make_full _ rfl _ _ 22 rfl 0 23 i0 (.slice none 0 0) 1 Try.underlying22 hi hz0 hz1 _ _ _ _ rows.length rfl rfl (by simp) (by simp) (by rw [hz2]; omega) (by unfold maxLen; omega) (Nat.zero_le _) ?_; intro w1 hown hgrow)
    have hov1 : OV w1 (.slice (some ⟨w.heap.size, 0, none⟩) rows.length rows.length) (List.replicate rows.length (.slice none 0 0)) := by
      rw [made_nils] at hown
      simpa [OV] using hown
    have hch1 : Chg (fun _ => False) w w1 := (Chg.refl _ w).grown hgrow (fun k _ e => by cases e)
    clear hown hgrow hi hz0 hz1 hz2
    go_loopw [4] (fun i wr => ∃ k : Nat, ∃ rv : List Value, k ≤ rows.length ∧ i = .int .i64 k ∧ OV wr (.slice (some ⟨w.heap.size, 0, none⟩) rows.length rows.length) rv ∧ rv.length = rows.length ∧ (∀ j, j < k → OI wr (rv.getD j (.slice none 0 0)) (rows.getD j [])) ∧ (∀ j b, (rv.getD j (.slice none 0 0)).ownBlock = some b → w.heap.size ≤ b) ∧ Chg (fun _ => False) w wr) (fun i _ => rows.length - (intOf i).toNat)
    case atStart =>
      refine ⟨0, _, Nat.zero_le _, rfl, hov1, by simp, fun j hj => by omega, fun j b hb => ?_, hch1⟩
      rw [nils_getD] at hb
      cases hb
    case round =>
      obtain ⟨k, rv, hk, rfl, hov, hrl, hrow, hrb, hch⟩ := hrel
      clear hov1 hch1
      have HR := (show Hid _ from hrow)
      have HRB := (show Hid _ from hrb)
      have HRL := (show Hid _ from hrl)
      clear hrow hrb hrl
      by_cases hlt : k < rows.length
      · obtain ⟨b, off, hx, A, C, hcell, hri, hni⟩ := hr.1 k hlt
        cases hx
        have hcell' := hch.cellEq hcell (fun h => h)
        have hri' := hri.chg hch (fun _ _ h => h)
        clear hcell hri
        have hlk := hle k hlt
        generalize hrk : rows.getD k [] = rk at *
        have HRK := hideP hrk
        clear hrk
        go_wp2_with (go_at_call 10; refine (cloneInts_any A rk.length C rk _ rfl hri' hni hlk).mono ?_; rintro e w2 ⟨nv, rfl, hnv0, hc2, hnb⟩; obtain ⟨an, cn, rfl, _, _, _, _, _⟩ := hnv0.shape; have hnv : OI w2 (.slice an rk.length cn) (rows.getD k []) := (by rw [HRK.out]; exact hnv0); obtain ⟨⟨u, hu⟩, hfz, f1, f2, f3, f4, f5⟩ := clone_store hov HRL.out hlt HR.out HRB.out hch (Nat.le_refl _) hc2 hnv hnb; have F3 := hideP f3; have F4 := hideP f4; have F2 := hideP f2; clear f3 f4 f2 hnv)
        go_roundw
        case rel => exact ⟨k + 1, _, by omega, by go_num, f1, F2.out, F3.out, F4.out, f5⟩
        case measure => simp [intOf]; omega
      · go_wp2_with fail
        go_ret
        obtain rfl : k = rows.length := by omega
        exact ⟨_, rfl, rv, hov, HRL.out, HR.out, hch, fun b hb => by simp [Value.ownBlock] at hb; omega, HRB.out⟩

end Go.Proofs.Qxb6601556a
