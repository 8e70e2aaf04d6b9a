/-
  Johnson's invariant: a blocked node off the stack has only blocked successors, waits on each of them, and does not lead to the start.
-/
import Derived.Test.Qxb6601556aPlain2
namespace Go.Proofs.Qxb6601556a.Pl
set_option linter.unusedVariables false
set_option linter.unusedSimpArgs false

/-- What 'unblock' has let go between s and t. -/
def Freed (s t : S) (v y : Int) : Prop := y = v ∨ (isB s y = true ∧ isB t y = false)

/-- Behind 'unblock v': whoever waited on a node that was let go is let go; of the others nothing has turned. -/
structure Let (s t : S) (v : Int) : Prop where
  off : isB t v = false
  down : ∀ y z, Freed s t v y → z ∈ wl s y → isB t z = false
  kept : ∀ y, ¬ Freed s t v y → wl t y = wl s y ∧ isB t y = isB s y
  less : ∀ y, isB t y = true → isB s y = true
  some_ : ∀ y, (get s.bl y).isSome = true → (get t.bl y).isSome = true
  here : (get t.bl v).isSome = true

theorem isSome_put {α : Type} (m : List (Int × α)) (k x : Int) (v : α) (h : (get m x).isSome = true) : (get (put m k v) x).isSome = true := by
  rw [get_put]; split <;> simp [h]

theorem unb_let {n : Int} (f : Nat) : ∀ (s : S) (v : Int), Sane n s → 0 ≤ v ∧ v < n → cnt (put s.bl v false) ≤ f → Let s (unb (f + 1) s v) v := by
  induction f with
  | zero =>
    intro s v hs hv hc
    -- nothing else is blocked
    have hnone : ∀ z, isB (free s v) z = false := by
      intro z
      cases hz : isB (free s v) z with
      | false => rfl
      | true =>
        have h1 := isB_true hz
        have h2 := cnt_put_false_lt _ _ h1
        have : cnt (free s v).bl ≤ 0 := hc
        omega
    have hfold : unb 1 s v = free s v := by
      show (wl s v).foldl (fun s w => if isB s w then unb 0 s w else s) (free s v) = free s v
      refine foldl_inv (P := fun t : S => t = free s v) _ (fun t w ht => ?_) _ _ rfl
      subst ht
      rw [hnone w]; simp
    rw [hfold]
    refine ⟨hnone v, fun y z _ _ => hnone z, fun y hy => ?_, fun y hy => (by rw [hnone y] at hy; cases hy), fun y hy => isSome_put _ _ _ _ hy, by rw [show (free s v).bl = put s.bl v false from rfl, get_put_same]; rfl⟩
    have hne : y ≠ v := fun e => hy (.inl e)
    refine ⟨by rw [wl_free hs.ky, if_neg hne], ?_⟩
    rw [isB_free, if_neg hne]
  | succ f ih =>
    intro s v hs hv hc
    -- the loop over those who wait
    have key := foldl_inv_pre (P := fun (done : List Int) (t : S) => Sane n t ∧ cnt t.bl ≤ f + 1 ∧ isB t v = false ∧ (∀ z ∈ done, isB t z = false) ∧ (∀ y z, y ≠ v → Freed s t v y → z ∈ wl s y → isB t z = false) ∧
        (∀ y, ¬ Freed s t v y → wl t y = wl s y ∧ isB t y = isB s y) ∧ (∀ y, isB t y = true → isB s y = true) ∧ (∀ y, (get s.bl y).isSome = true → (get t.bl y).isSome = true) ∧ (get t.bl v).isSome = true)
      (fun s w => if isB s w then unb (f + 1) s w else s) (wl s v) [] (free s v) (fun done w t hw ht => ?_) ?_
    · obtain ⟨_, _, h3, h4, h5, h6, h7, h8, h9⟩ := key
      simp only [List.nil_append] at h4
      refine ⟨h3, fun y z hy hz => ?_, h6, h7, h8, h9⟩
      by_cases e : y = v
      · subst e; exact h4 z hz
      · exact h5 y z e hy hz
    · obtain ⟨t1, t2, t3, t4, t5, t6, t7, t8, t9⟩ := ht
      have hwr := (hs.wl v).2 w hw
      cases hb : isB t w with
      | false =>
        simp only [Bool.false_eq_true, if_false]
        refine ⟨t1, t2, t3, fun z hz => ?_, t5, t6, t7, t8, t9⟩
        rcases List.mem_append.1 hz with hz | hz
        · exact t4 z hz
        · simp at hz; subst hz; exact hb
      | true =>
        simp only [if_true]
        have hlt := cnt_put_false_lt _ _ (isB_true hb)
        have L := ih t w t1 hwr (by omega)
        have hmon : ∀ z, isB t z = false → isB (unb (f + 1) t w) z = false := fun z hz => by
          cases h : isB (unb (f + 1) t w) z with
          | false => rfl
          | true => rw [L.less z h] at hz; cases hz
        have hwv : w ≠ v := fun e => by rw [e, t3] at hb; cases hb
        -- who is freed between s and the end was freed before t, or between t and the end
        refine ⟨Sane.unb _ _ _ t1 hwr, Nat.le_trans (cnt_unb_le _ _ _) t2, hmon v t3, fun z hz => ?_, fun y z hyv hy hz => ?_, fun y hy => ?_, fun y hy => t7 y (L.less y hy), fun y hy => L.some_ y (t8 y hy), L.some_ v t9⟩
        · rcases List.mem_append.1 hz with hz | hz
          · exact hmon z (t4 z hz)
          · simp at hz; subst hz; exact L.off
        · rcases hy with hy | ⟨hy1, hy2⟩
          · exact absurd hy hyv
          · cases hty : isB t y with
            | false => exact hmon z (t5 y z hyv (.inr ⟨hy1, hty⟩) hz)
            | true =>
              have hnf : ¬ Freed s t v y := by
                rintro (h | ⟨_, h⟩)
                · exact hyv h
                · rw [hty] at h; cases h
              rw [← (t6 y hnf).1] at hz
              exact L.down y z (.inr ⟨hty, hy2⟩) hz
        · have hnf : ¬ Freed s t v y := by
            rintro (h | ⟨h1, h2⟩)
            · exact hy (.inl h)
            · exact hy (.inr ⟨h1, hmon y h2⟩)
          have h6 := t6 y hnf
          have hnf2 : ¬ Freed t (unb (f + 1) t w) w y := by
            rintro (h | ⟨h1, h2⟩)
            · subst h
              refine hy (.inr ⟨?_, L.off⟩)
              rw [← h6.2]; exact hb
            · exact hy (.inr ⟨by rw [← h6.2]; exact h1, h2⟩)
          have h7 := L.kept y hnf2
          exact ⟨h7.1.trans h6.1, h7.2.trans h6.2⟩
    · refine ⟨hs.free hv, hc, by rw [isB_free]; simp, fun z hz => by simp at hz, fun y z hyv hy hz => ?_, fun y hy => ?_, fun y hy => ?_, fun y hy => isSome_put _ _ _ _ hy, by rw [show (free s v).bl = put s.bl v false from rfl, get_put_same]; rfl⟩
      · rcases hy with hy | ⟨hy1, hy2⟩
        · exact absurd hy hyv
        · rw [isB_free, if_neg hyv, hy1] at hy2; cases hy2
      · have hne : y ≠ v := fun e => hy (.inl e)
        exact ⟨by rw [wl_free hs.ky, if_neg hne], by rw [isB_free, if_neg hne]⟩
      · rw [isB_free] at hy
        split at hy
        · cases hy
        · exact hy

theorem unbD_let {n : Int} {s : S} {v : Int} (hs : Sane n s) (hv : 0 ≤ v ∧ v < n) : Let s (unbD s v) v := unb_let _ s v hs hv (Nat.le_refl _)

/-! ### The invariant -/
/-- 'stk': the nodes of the path now. -/
def Shut (c : Ctx) (s : S) (stk : List Int) : Prop := ∀ z, isB s z = true → z ∉ stk → c.start ∉ c.nx z ∧ ∀ y ∈ c.nx z, isB s y = true ∧ z ∈ wl s y

theorem Shut.unb {n : Int} {c : Ctx} {s : S} {stk : List Int} {v : Int} (hs : Sane n s) (hv : 0 ≤ v ∧ v < n) (h : Shut c s (stk ++ [v])) : Shut c (unbD s v) stk := by
  have L := unbD_let hs hv
  intro z hz hstk
  have hzs := L.less z hz
  have hzv : z ≠ v := fun e => by rw [e, L.off] at hz; cases hz
  obtain ⟨h1, h2⟩ := h z hzs (by simp [hstk, hzv])
  refine ⟨h1, fun y hy => ?_⟩
  obtain ⟨h3, h4⟩ := h2 y hy
  have hnf : ¬ Freed s (unbD s v) v y := fun hf => by
    have := L.down y z hf h4
    rw [hz] at this; cases this
  have hk := L.kept y hnf
  exact ⟨by rw [hk.2]; exact h3, by rw [hk.1]; exact h4⟩

theorem wait_mem (v : Int) (l : List Int) (s : S) : (∀ y z, z ∈ wl s y → z ∈ wl (l.foldl (wait1 v) s) y) ∧ ∀ y ∈ l, v ∈ wl (l.foldl (wait1 v) s) y := by
  have := foldl_inv_pre (P := fun (done : List Int) (t : S) => (∀ y z, z ∈ wl s y → z ∈ wl t y) ∧ ∀ y ∈ done, v ∈ wl t y) (wait1 v) l [] s (fun done w t hw ht => ?_) ⟨fun _ _ h => h, fun y hy => by simp at hy⟩
  · simpa using this
  · have hm : ∀ y z, z ∈ wl t y → z ∈ wl (wait1 v t w) y := fun y z hz => by
      rw [wl_wait1]; split
      · rename_i e; rw [e.1] at hz; exact List.mem_append.2 (.inl hz)
      · exact hz
    refine ⟨fun y z hz => hm y z (ht.1 y z hz), fun y hy => ?_⟩
    rcases List.mem_append.1 hy with hy | hy
    · exact hm y v (ht.2 y hy)
    · simp at hy; subst hy
      rw [wl_wait1]
      split
      · simp
      · rename_i e
        have : v ∈ wl t y := by
          cases Classical.em (v ∈ wl t y) with
          | inl h => exact h
          | inr h => exact absurd ⟨rfl, h⟩ e
        exact this

theorem Shut.wait {c : Ctx} {s : S} {stk : List Int} {v : Int} (h : Shut c s (stk ++ [v])) (h1 : c.start ∉ c.nx v) (h2 : ∀ y ∈ c.nx v, isB s y = true) : Shut c ((c.nx v).foldl (wait1 v) s) stk := by
  have hb : ∀ x, isB ((c.nx v).foldl (wait1 v) s) x = isB s x := fun x => by unfold isB; rw [(wait_bl v _ _).1]
  have hm := wait_mem v (c.nx v) s
  intro z hz hstk
  rw [hb] at hz
  by_cases e : z = v
  · subst e
    exact ⟨h1, fun y hy => ⟨by rw [hb]; exact h2 y hy, hm.2 y hy⟩⟩
  · obtain ⟨h3, h4⟩ := h z hz (by simp [hstk, e])
    exact ⟨h3, fun y hy => ⟨by rw [hb]; exact (h4 y hy).1, hm.1 y z (h4 y hy).2⟩⟩

/-- Can the start be reached from x without entering a node of 'av'? (Every set that holds x and is closed under such steps holds a node with an edge to the start.) -/
def Reach (c : Ctx) (av : Int → Bool) (x : Int) : Prop := ∀ X : Int → Prop, X x → (∀ z, X z → ∀ y ∈ c.nx z, y ≠ c.start → av y = false → X y) → ∃ z, X z ∧ c.start ∈ c.nx z
/-- The nodes that v leads to without entering the start. -/
def Clos (c : Ctx) (v x : Int) : Prop := ∀ X : Int → Prop, X v → (∀ z, X z → ∀ y ∈ c.nx z, y ≠ c.start → X y) → X x

theorem Clos.self (c : Ctx) (v : Int) : Clos c v v := fun X h _ => h
theorem Clos.step {c : Ctx} {v z y : Int} (h : Clos c v z) (hy : y ∈ c.nx z) (hs : y ≠ c.start) : Clos c v y := fun X hv hc => hc z (h X hv hc) y hy hs
theorem Clos.trans {c : Ctx} {v w x : Int} (h : Clos c v w) (k : Clos c w x) : Clos c v x := fun X hv hc => k X (h X hv hc) hc

theorem Shut.noReach {c : Ctx} {s : S} {stk : List Int} (h : Shut c s stk) {z : Int} (hz : isB s z = true) (hstk : z ∉ stk) {av : Int → Bool} (hav : ∀ x ∈ stk, x ≠ c.start → av x = true) : ¬ Reach c av z := by
  intro hr
  obtain ⟨y, ⟨hy1, hy2⟩, hy3⟩ := hr (fun x => isB s x = true ∧ (x ∉ stk)) ⟨hz, hstk⟩ (fun x hx y hy hst ha => ⟨((h x hx.1 hx.2).2 y hy).1, fun hm => by rw [hav y hm hst] at ha; cases ha⟩)
  exact (h y hy1 hy2).1 hy3

theorem Circle.reach {c : Ctx} {p : List Int} {s : S} {w : Int} {l : List Int} (h : Circle c p s w l) {av : Int → Bool} (hav : ∀ x, av x = true → isB s x = true) : Reach c av w := by
  obtain ⟨mid, h1, h2, h3, h4⟩ := h
  intro X hx hc
  -- every node of w :: mid lies in X
  have hall : ∀ j, j < (w :: mid).length → X ((w :: mid).getD j 0) := by
    intro j
    induction j with
    | zero => intro _; exact hx
    | succ j ih =>
      intro hj
      have hj' : j < mid.length := by simpa using hj
      have e1 : ((w :: mid) ++ [c.start]).getD j 0 = (w :: mid).getD j 0 := by simp only [List.getD, List.getElem?_append_left (show j < (w :: mid).length by simp; omega)]
      have e2 : ((w :: mid) ++ [c.start]).getD (j + 1) 0 = (w :: mid).getD (j + 1) 0 := by simp only [List.getD, List.getElem?_append_left hj]
      have hed := h4 j (by simp; omega)
      rw [e1, e2] at hed
      have em : (w :: mid).getD (j + 1) 0 = mid[j] := by simp [List.getD, hj']
      have hm := h3 mid[j] (List.getElem_mem hj')
      refine hc _ (ih (by simp; omega)) _ hed (by rw [em]; exact hm.2.2) ?_
      rw [em]
      cases ha : av mid[j] with
      | false => rfl
      | true => rw [hav _ ha] at hm; exact absurd hm.1 (by simp)
  have hlast := h4 mid.length (by simp)
  have e1 : ((w :: mid) ++ [c.start]).getD mid.length 0 = (w :: mid).getD mid.length 0 := by simp only [List.getD, List.getElem?_append_left (show mid.length < (w :: mid).length by simp)]
  have e2 : ((w :: mid) ++ [c.start]).getD (mid.length + 1) 0 = c.start := by simp [List.getD]
  rw [e1, e2] at hlast
  exact ⟨_, hall mid.length (by simp), hlast⟩

end Go.Proofs.Qxb6601556a.Pl
