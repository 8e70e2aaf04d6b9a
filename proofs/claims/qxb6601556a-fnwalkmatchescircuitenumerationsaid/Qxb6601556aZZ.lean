import Derived.Test.Qxb6601556aWalk
namespace Go.Proofs.Qxb6601556a
open Go.RowKit
set_option linter.unusedVariables false
set_option linter.unusedSimpArgs false

def s0 (circ : List (List Int)) : Pl.S := ⟨circ, [], []⟩
theorem s0_sane (n : Int) (circ : List (List Int)) : Pl.Sane n (s0 circ) := ⟨by simp [Pl.keys, s0], by simp [Pl.keys, s0], by simp [Pl.keys, s0], by simp [Pl.keys, s0], by simp [s0]⟩
theorem s0_tidy (circ : List (List Int)) : Pl.Tidy (s0 circ) := fun _ _ => rfl
theorem s0_open (n : Nat) (circ : List (List Int)) : Pl.openNodes n (s0 circ) ≤ n := by
  unfold Pl.openNodes
  have := List.countP_le_length (l := List.range n) (p := fun (i : Nat) => !Pl.isB (s0 circ) (i : Int))
  simpa using this

/-- The blocks that ZZWalk may write. -/
def ZF (mb mB : Nat) (pv cv : Value) (b : Nat) : Prop := b = mb ∨ b = mB ∨ pv.ownBlock = some b ∨ cv.ownBlock = some b

theorem zz_start {I : Nat → Prop} {w : World} {vR vC cv pv : Value} {rw_ : List Value} {circ : List (List Int)} {path : List Int} {mb mB : Nat} {st : Int}
    (hcv : OV w cv rw_) (hrl : rw_.length = circ.length) (hrw : ∀ i, i < rw_.length → OI w (rw_.getD i (.slice none 0 0)) (circ.getD i [])) (hpv : OI w pv path) (hmb : VMap w mb []) (hmB : VMap w mB []) (hne : mb ≠ mB)
    (hI : ∀ b, I b → b < w.heap.size ∧ ¬ ZF mb mB pv cv b) (hsr : ∀ u ∈ rw_, ∀ b, u.ownBlock = some b → pv.ownBlock ≠ some b) :
    St I (w.alloc (.cells #[vR, vC, cv, .int .i64 st, pv, .map (some mb), .map (some mB)] 54)) ⟨w.heap.size, mb, mB, vR, vC⟩ ⟨pv, cv, rw_, []⟩ st path (s0 circ) := by
  have hc : Chg (fun _ => False) w (w.alloc (.cells #[vR, vC, cv, .int .i64 st, pv, .map (some mb), .map (some mB)] 54)) := (Chg.refl _ w).alloc _
  have hlv : ∀ k, lv ⟨pv, cv, rw_, []⟩ k = .slice none 0 0 := fun k => rfl
  have hmut : ∀ b, b < w.heap.size → Mut ⟨w.heap.size, mb, mB, vR, vC⟩ ⟨pv, cv, rw_, []⟩ b → ZF mb mB pv cv b := by
    rintro b hb (h | h | h | h | h | ⟨k, h⟩)
    · simp at h; omega
    · exact .inl h
    · exact .inr (.inl h)
    · exact .inr (.inr (.inl h))
    · exact .inr (.inr (.inr h))
    · cases h
  refine ⟨heap_alloc_new w _, hmb.of_block (hc.block _ hmb.lt (fun h => h)), hmB.of_block (hc.block _ hmB.lt (fun h => h)), hne, rfl, fun k => OI.nil _, hpv.chg hc (fun _ _ h => h), hcv.chg hc (fun _ _ h => h), hrl, fun i hi => (hrw i hi).chg hc (fun _ _ h => h), fun k b hb => (by cases hb), fun k k' b hb => (by cases hb),
    fun b hb => ⟨by have := (hI b hb).1; simp; omega, fun hm => (hI b hb).2 (hmut b (hI b hb).1 hm)⟩, fun u hu b hb hm => ?_⟩
  obtain ⟨i, hi, rfl⟩ := List.mem_iff_getElem.1 hu
  have hoi := hrw i hi
  have e : rw_.getD i (.slice none 0 0) = rw_[i] := by simp [List.getD, hi]
  rw [e] at hoi
  have hlt := hoi.lt b hb
  rcases hmut b hlt hm with h | h | h | h
  · subst h; exact hoi.ne_map hmb hb
  · subst h; exact hoi.ne_map hmB hb
  · exact hsr _ hu b hb h
  · exact hoi.ne_ov hcv b hb h

set_option maxRecDepth 100000 in
set_option maxHeartbeats 1000000 in
theorem zzwalk_any (rows : List (List Int)) (comp : List Int) (st : Nat) (D : Dom rows comp st) (I : Nat → Prop) (vR vC : Value) (rv : List Value) (cv pv : Value) (rw_ : List Value) (circ : List (List Int)) (path : List Int) (mb mB : Nat) (v : Int) (w : World)
    (G : Graph w vR vC rv rows comp) (GI : GraphI I vR vC rv) (hcv : OV w cv rw_) (hrl : rw_.length = circ.length) (hrw : ∀ i, i < rw_.length → OI w (rw_.getD i (.slice none 0 0)) (circ.getD i [])) (hpv : OI w pv path) (hmb : VMap w mb []) (hmB : VMap w mB []) (hne : mb ≠ mB)
    (hI : ∀ b, I b → b < w.heap.size ∧ ¬ ZF mb mB pv cv b) (hsr : ∀ u ∈ rw_, ∀ b, u.ownBlock = some b → pv.ownBlock ≠ some b) (hv : 0 ≤ v ∧ v < (rows.length : Int)) (hpl : path.length ≤ 5000) (hcl : circ.length ≤ 5000) :
    Calls Try.prog 12 #[vR, vC, cv, .int .i64 st, pv, .map (some mb), .map (some mB), .int .i64 v] w fun e w' =>
      ∃ L, e = .returned (.tuple #[.bool (Pl.wk (ctxOf rows comp st) rows.length path (s0 circ) v).1, L.cv, L.pv]) ∧ St I w' ⟨w.heap.size, mb, mB, vR, vC⟩ L st path (Pl.wk (ctxOf rows comp st) rows.length path (s0 circ) v).2 ∧ Chg (ZF mb mB pv cv) w w' := by
  have hst := zz_start (vR := vR) (vC := vC) (st := st) hcv hrl hrw hpv hmb hmB hne hI hsr
  have hch : Chg (ZF mb mB pv cv) w (w.alloc (.cells #[vR, vC, cv, .int .i64 st, pv, .map (some mb), .map (some mB)] 54)) := (Chg.refl _ w).alloc _
  have hG := G.chg ((Chg.refl (fun _ => False) w).alloc (.cells #[vR, vC, cv, .int .i64 st, pv, .map (some mb), .map (some mB)] 54)) (fun _ _ h => h) (fun _ _ h => h) (fun _ _ _ _ h => h)
  have hwk := walk_any rows comp st D rows.length I ⟨w.heap.size, mb, mB, vR, vC⟩ ⟨pv, cv, rw_, []⟩ rv path (s0 circ) v _ hst hG GI (s0_sane _ _) (s0_tidy _) hv rfl (s0_open _ _) (by have := D.n; omega) hcl
  have hmutZ : ∀ b, b < w.heap.size → Mut ⟨w.heap.size, mb, mB, vR, vC⟩ ⟨pv, cv, rw_, []⟩ b → ZF mb mB pv cv b := by
    rintro b hb (h | h | h | h | h | ⟨k, h⟩)
    · simp at h; omega
    · exact .inl h
    · exact .inr (.inl h)
    · exact .inr (.inr (.inl h))
    · exact .inr (.inr (.inr h))
    · cases h
  obtain ⟨aR, cR, rfl, _, _, _, _, _⟩ := ownsRow_shape G.top
  obtain ⟨aC, cC, rfl, _, _, _, _, _⟩ := ownsRow_shape G.com
  obtain ⟨ac, cc, rfl, _, _, _, _, _⟩ := ownsRow_shape hcv
  obtain ⟨ap, cp, rfl, _, _, _, _, _⟩ := ownsRow_shape hpv
  have HW := hideP hwk
  have HZ := hideP hmutZ
  have HC := hideP hch
  clear hwk hst hG hmutZ hch hI hsr hrw hrl G hcv hpv hmb hmB GI
  generalize Pl.wk (ctxOf rows comp st) rows.length path (s0 circ) v = r at *
  go_enter Try.func12, Try.ntmps12
  go_wp2_with (go_at_call 28; refine HW.out.mono ?_; rintro e w' ⟨rfl, L', hst', hch', hmut'⟩)
  obtain ⟨_, _, c2, _, c4, _, _, _⟩ := hst'.cell
  obtain ⟨a2, p2, hq2, _, _, _, _, _⟩ := ownsRow_shape hst'.crc
  obtain ⟨a4, p4, hq4, _, _, _, _, _⟩ := ownsRow_shape hst'.pth
  rw [hq2] at c2
  rw [hq4] at c4
  have HQ2 := hideP hq2
  have HQ4 := hideP hq4
  clear hq2 hq4
  go_wp2_with fail
  go_quiet (fail)
  go_wp2_with fail
  go_ret3
  refine ⟨L', ?_, hst'.chg ((Chg.refl _ w').drewN _), ?_⟩
  · rw [HQ2.out, HQ4.out]; rfl
  · exact (HC.out.trans hch' (fun i hi hm => HZ.out i hi hm)).drewN _

end Go.Proofs.Qxb6601556a
