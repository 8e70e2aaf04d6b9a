/-
  Laws of the plain model: what was blocked when walk began stays blocked; the circles that it finds.
-/
import Derived.Test.Qxb6601556aPlain
namespace Go.Proofs.Qxb6601556a.Pl
set_option linter.unusedVariables false
set_option linter.unusedSimpArgs false

theorem isB_setB (s : S) (v x : Int) (b : Bool) : isB (setB s v b) x = if x = v then b else isB s x := by
  unfold isB setB
  rw [get_put]
  split <;> simp
theorem wl_setB (s : S) (v x : Int) (b : Bool) : wl (setB s v b) x = wl s x := rfl
theorem isB_free (s : S) (v x : Int) : isB (free s v) x = if x = v then false else isB s x := by
  unfold isB free
  rw [get_put]
  split <;> simp
theorem wl_free {s : S} (h : (keys s.by_).Nodup) (v x : Int) : wl (free s v) x = if x = v then [] else wl s x := by
  unfold wl free
  split
  · rename_i e; subst e; simp [get_del_same _ _ h]
  · rename_i e; simp [get_del_other _ _ _ e]
theorem isB_wait1 (s : S) (v w x : Int) : isB (wait1 v s w) x = isB s x := by
  unfold wait1; split <;> rfl
theorem wl_wait1 (s : S) (v w x : Int) : wl (wait1 v s w) x = if x = w ∧ ¬ v ∈ wl s w then wl s w ++ [v] else wl s x := by
  unfold wait1
  by_cases h : v ∈ wl s w
  · simp [h]
  · simp only [List.contains_eq_mem, decide_eq_true_eq, h, if_false, not_false_eq_true, and_true]
    unfold wl
    rw [get_put]
    split <;> simp

def Tidy (s : S) : Prop := ∀ z, isB s z = false → wl s z = []
structure Rel (K : Int → Bool) (W0 : Int → List Int) (s : S) : Prop where
  kept : ∀ z, K z = true → isB s z = true
  old : ∀ z x, x ∈ wl s z → K x = true → K z = true ∧ x ∈ W0 z

theorem foldl_inv_pre {α β : Type} {P : List α → β → Prop} (f : β → α → β) : ∀ (l done : List α) (b : β), (∀ done a b, a ∈ l → P done b → P (done ++ [a]) (f b a)) → P done b → P (done ++ l) (l.foldl f b)
  | [], done, b, _, h => by simpa using h
  | a :: l, done, b, hf, h => by
    have := foldl_inv_pre (P := P) f l (done ++ [a]) (f b a) (fun d x y hx hy => hf d x y (List.mem_cons_of_mem _ hx) hy) (hf done a b (List.mem_cons_self ..) h)
    simpa using this

theorem unb_law {n : Int} {K : Int → Bool} {W0 : Int → List Int} (f : Nat) : ∀ (s : S) (v : Int), Sane n s → 0 ≤ v ∧ v < n → Rel K W0 s → K v = false → Rel K W0 (unb f s v) := by
  induction f with
  | zero => intro s v _ _ h _; exact h
  | succ f ih =>
    intro s v hs hv h hK
    unfold unb
    have h0 : Rel K W0 (free s v) := by
      refine ⟨fun z hz => ?_, fun z x hx hk => ?_⟩
      · rw [isB_free, if_neg (by intro e; subst e; simp [hK] at hz)]; exact h.kept z hz
      · rw [wl_free hs.ky] at hx
        split at hx
        · simp at hx
        · exact h.old z x hx hk
    have := foldl_inv_mem (P := fun t : S => Rel K W0 t ∧ Sane n t) (fun s w => if isB s w then unb f s w else s) (wl s v) (free s v) (fun t w hw ht => ?_) ⟨h0, hs.free hv⟩
    · exact this.1
    · have hwr := (hs.wl v).2 w hw
      split
      · refine ⟨ih t w ht.2 hwr ht.1 ?_, Sane.unb _ _ _ ht.2 hwr⟩
        cases hkw : K w with
        | false => rfl
        | true => have := (h.old v w hw hkw).1; simp [hK] at this
      · exact ht

theorem unb_less {n : Int} (f : Nat) : ∀ (s : S) (v : Int), Sane n s → 0 ≤ v ∧ v < n → (∀ x, isB (unb f s v) x = true → isB s x = true) ∧ (Tidy s → Tidy (unb f s v)) ∧ (∀ z x, x ∈ wl (unb f s v) z → x ∈ wl s z) := by
  induction f with
  | zero => intro s v _ _; exact ⟨fun _ h => h, fun h => h, fun _ _ h => h⟩
  | succ f ih =>
    intro s v hs hv
    unfold unb
    have := foldl_inv_mem (P := fun t : S => Sane n t ∧ (∀ x, isB t x = true → isB s x = true) ∧ (Tidy s → Tidy t) ∧ (∀ z x, x ∈ wl t z → x ∈ wl s z)) (fun s w => if isB s w then unb f s w else s) (wl s v) (free s v) (fun t w hw ht => ?_) ?_
    · exact this.2
    · have hwr := (hs.wl v).2 w hw
      split
      · obtain ⟨i1, i2, i3⟩ := ih t w ht.1 hwr
        exact ⟨Sane.unb _ _ _ ht.1 hwr, fun x hx => ht.2.1 x (i1 x hx), fun h => i2 (ht.2.2.1 h), fun z x hx => ht.2.2.2 z x (i3 z x hx)⟩
      · exact ht
    · refine ⟨hs.free hv, fun x hx => ?_, fun h z hz => ?_, fun z x hx => ?_⟩
      · rw [isB_free] at hx; split at hx
        · simp at hx
        · exact hx
      · rw [isB_free] at hz; rw [wl_free hs.ky]
        split
        · rfl
        · rename_i e; rw [if_neg e] at hz; exact h z hz
      · rw [wl_free hs.ky] at hx; split at hx
        · simp at hx
        · exact hx

theorem Rel.self {s : S} (h : Tidy s) : Rel (isB s) (wl s) s := by
  refine ⟨fun _ h => h, fun z x hx hk => ⟨?_, hx⟩⟩
  cases hz : isB s z with
  | true => rfl
  | false => rw [h z hz] at hx; simp at hx

theorem Rel.compose {K1 : Int → Bool} {W0 : Int → List Int} {a r : S} (h1 : Rel K1 W0 a) (h2 : Rel (isB a) (wl a) r) : Rel K1 W0 r := by
  refine ⟨fun z hz => h2.kept z (h1.kept z hz), fun z x hx hk => ?_⟩
  have := h2.old z x hx (h1.kept x hk)
  exact h1.old z x this.2 hk

theorem wait_law {K : Int → Bool} {W0 : Int → List Int} {s : S} {v : Int} (h : Rel K W0 s) (hv : K v = false) : ∀ (l : List Int), Rel K W0 (l.foldl (wait1 v) s) := by
  intro l
  refine foldl_inv (P := fun t : S => Rel K W0 t) _ (fun t w ht => ?_) l s h
  refine ⟨fun z hz => by rw [isB_wait1]; exact ht.kept z hz, fun z x hx hk => ?_⟩
  rw [wl_wait1] at hx
  split at hx
  · rename_i e
    rcases List.mem_append.1 hx with hx | hx
    · rw [e.1]; exact ht.old w x hx hk
    · simp at hx; subst hx; simp [hv] at hk
  · exact ht.old z x hx hk

theorem wait_bl (v : Int) (l : List Int) (s : S) : (l.foldl (wait1 v) s).bl = s.bl ∧ (l.foldl (wait1 v) s).circ = s.circ := by
  refine foldl_inv (P := fun t : S => t.bl = s.bl ∧ t.circ = s.circ) _ (fun t w ht => ?_) l s ⟨rfl, rfl⟩
  unfold wait1; split <;> exact ht
theorem wait_wl (v : Int) (l : List Int) (s : S) (z : Int) (hz : z ∉ l) : wl (l.foldl (wait1 v) s) z = wl s z := by
  refine foldl_inv_mem (P := fun t : S => wl t z = wl s z) _ l s (fun t w hw ht => ?_) rfl
  rw [wl_wait1, if_neg]
  · exact ht
  · rintro ⟨e, _⟩; subst e; exact hz hw

theorem circ_mono_step {c : Ctx} {rec : S → Int → Bool × S} {p : List Int} (hr : ∀ s w, s.circ.length ≤ (rec s w).2.circ.length) (a : Bool × S) (w : Int) : a.2.circ.length ≤ (step c rec p a w).2.circ.length := by
  unfold step
  split
  · exact Nat.le_refl _
  · split
    · simp
    · split
      · exact Nat.le_refl _
      · exact hr _ _
theorem circ_mono (c : Ctx) (f : Nat) : ∀ p s v, s.circ.length ≤ (wk c f p s v).2.circ.length := by
  induction f with
  | zero => intro p s v; exact Nat.le_refl _
  | succ f ih =>
    intro p s v
    have hl : s.circ.length ≤ ((c.nx v).foldl (step c (wk c f (p ++ [v])) (p ++ [v])) (false, setB s v true)).2.circ.length :=
      foldl_inv (P := fun t : Bool × S => s.circ.length ≤ t.2.circ.length) _ (fun t w ht => Nat.le_trans ht (circ_mono_step (ih _) t w)) _ _ (Nat.le_refl _)
    unfold wk
    simp only
    split
    · unfold unbD; rw [circ_unb]; exact hl
    · rw [(wait_bl v _ _).2]; exact hl

/-- The loop of 'walk', as far as it has gone. -/
structure Going (n : Int) (s : S) (v : Int) (done : List Int) (a : Bool × S) : Prop where
  sane : Sane n a.2
  rel : Rel (isB (setB s v true)) (wl s) a.2
  tidy : a.2.circ.length < 64 → Tidy a.2
  shut : a.1 = false → a.2.circ.length < 64 → ∀ w ∈ done, isB a.2 w = true

theorem Going.start {n : Int} {s : S} {v : Int} (hs : Sane n s) (hv : 0 ≤ v ∧ v < n) (ht : Tidy s) (hb : isB s v = false) : Going n s v [] (false, setB s v true) := by
  refine ⟨hs.setB hv _, ⟨fun _ h => h, fun z x hx hk => ⟨?_, hx⟩⟩, fun _ z hz => ?_, fun _ _ w hw => by simp at hw⟩
  · have hx' : x ∈ wl s z := hx
    rw [isB_setB]
    split
    · rfl
    · cases hz : isB s z with
      | true => rfl
      | false => rw [ht z hz] at hx'; simp at hx'
  · have hz' : isB (setB s v true) z = false := hz
    rw [isB_setB] at hz'
    split at hz'
    · simp at hz'
    · exact ht z hz'

structure WkLaw (n : Int) (s : S) (v : Int) (r : Bool × S) : Prop where
  sane : Sane n r.2
  rel : Rel (isB s) (wl s) r.2
  tidy : r.2.circ.length < 64 → Tidy r.2
  shut : r.1 = false → isB r.2 v = true

theorem Going.next {n : Int} {c : Ctx} {s : S} {v : Int} {rec : S → Int → Bool × S} {p : List Int} (hrec : ∀ t w, Sane n t → Tidy t → 0 ≤ w ∧ w < n → isB t w = false → WkLaw n t w (rec t w))
    (hmono : ∀ t w, t.circ.length ≤ (rec t w).2.circ.length) {done : List Int} {a : Bool × S} {w : Int} (hw : 0 ≤ w ∧ w < n) (h : Going n s v done a) : Going n s v (done ++ [w]) (step c rec p a w) := by
  unfold step
  split
  · rename_i hc
    exact ⟨h.sane, h.rel, h.tidy, fun _ hl => by omega⟩
  · rename_i hc
    split
    · refine ⟨⟨h.sane.kb, h.sane.ky, h.sane.rb, h.sane.ry, h.sane.ly⟩, ⟨h.rel.kept, h.rel.old⟩, fun _ => h.tidy (by omega), fun hf => by simp at hf⟩
    · split
      · rename_i hb
        refine ⟨h.sane, h.rel, h.tidy, fun hf hl x hx => ?_⟩
        rcases List.mem_append.1 hx with hx | hx
        · exact h.shut hf hl x hx
        · simp at hx; subst hx; exact hb
      · rename_i hb
        have hb' : isB a.2 w = false := by simpa using hb
        have hl := hrec a.2 w h.sane (h.tidy (by omega)) hw hb'
        refine ⟨hl.sane, h.rel.compose hl.rel, hl.tidy, fun hf hlen x hx => ?_⟩
        simp only [Bool.or_eq_false_iff] at hf
        rcases List.mem_append.1 hx with hx | hx
        · exact hl.rel.kept x (h.shut hf.2 (Nat.lt_of_le_of_lt (hmono a.2 w) hlen) x hx)
        · simp at hx; subst hx; exact hl.shut hf.1

theorem Going.finish {n : Int} {c : Ctx} {s : S} {v : Int} (hc : CtxOk n c) (hs : Sane n s) (hv : 0 ≤ v ∧ v < n) (ht : Tidy s) (hb : isB s v = false) {r : Bool × S} (h : Going n s v (c.nx v) r) :
    WkLaw n s v (if r.1 then (true, unbD r.2 v) else (false, (c.nx v).foldl (wait1 v) r.2)) := by
  have hrel : Rel (isB s) (wl s) r.2 := by
    refine ⟨fun z hz => h.rel.kept z (by rw [isB_setB]; split <;> simp [hz]), fun z x hx hk => ?_⟩
    have := h.rel.old z x hx (by rw [isB_setB]; split <;> simp [hk])
    refine ⟨?_, this.2⟩
    have h1 := this.1
    rw [isB_setB] at h1
    split at h1
    · rename_i e; rw [e, ht v hb] at this; simp at this
    · exact h1
  split
  · refine ⟨Sane.unb _ _ _ h.sane hv, unb_law _ _ _ h.sane hv hrel hb, fun hl => ?_, fun hf => by simp at hf⟩
    unfold unbD at hl ⊢
    rw [circ_unb] at hl
    exact (unb_less _ _ _ h.sane hv).2.1 (h.tidy hl)
  · rename_i hf
    have hf' : r.1 = false := by simpa using hf
    have hbl := wait_bl v (c.nx v) r.2
    have hisB : ∀ x, isB ((c.nx v).foldl (wait1 v) r.2) x = isB r.2 x := fun x => by unfold isB; rw [hbl.1]
    refine ⟨foldl_inv_mem (P := fun t : S => Sane n t) _ _ _ (fun t w hw ht => ht.wait1 hv (hc v w hw)) h.sane, wait_law hrel hb _, fun hl z hz => ?_, fun _ => ?_⟩
    · simp only at hl hz ⊢
      rw [hbl.2] at hl
      rw [hisB] at hz
      rw [wait_wl]
      · exact h.tidy hl z hz
      · intro hm
        have := h.shut hf' hl z hm
        simp [hz] at this
    · simp only
      rw [hisB]
      exact h.rel.kept v (by rw [isB_setB]; simp)

theorem wk_law {n : Int} {c : Ctx} (hc : CtxOk n c) (f : Nat) : ∀ (p : List Int) (s : S) (v : Int), Sane n s → Tidy s → 0 ≤ v ∧ v < n → isB s v = false → WkLaw n s v (wk c f p s v) := by
  induction f with
  | zero =>
    intro p s v hs ht hv hb
    have g := Going.start hs hv ht hb
    refine ⟨g.sane, ⟨fun z hz => g.rel.kept z (by rw [isB_setB]; split <;> simp [hz]), fun z x hx hk => ?_⟩, fun h => g.tidy h, fun _ => ?_⟩
    · have hx' : x ∈ wl s z := hx
      refine ⟨?_, hx'⟩
      cases hz : isB s z with
      | true => rfl
      | false => rw [ht z hz] at hx'; simp at hx'
    · show isB (setB s v true) v = true
      rw [isB_setB]; simp
  | succ f ih =>
    intro p s v hs ht hv hb
    unfold wk
    simp only
    refine Going.finish hc hs hv ht hb ?_
    exact foldl_inv_pre (P := Going n s v) _ (c.nx v) [] _ (fun done w a hw h => h.next (fun t w h1 h2 h3 h4 => ih _ t w h1 h2 h3 h4) (fun t w => circ_mono c f _ t w) (hc v w hw)) (Going.start hs hv ht hb)

/-- How many of the nodes below n are not blocked: the fuel that walk wants. -/
def openNodes (n : Nat) (s : S) : Nat := (List.range n).countP (fun (i : Nat) => !isB s (i : Int))
theorem openNodes_le {n : Nat} {s t : S} (h : ∀ z, isB s z = true → isB t z = true) : openNodes n t ≤ openNodes n s := by
  unfold openNodes
  refine List.countP_mono_left fun i _ hi => ?_
  cases hb : isB s (i : Int) with
  | false => rfl
  | true => simp [h _ hb] at hi
theorem openNodes_lt {n : Nat} {s t : S} {v : Int} (hv : 0 ≤ v ∧ v < n) (h : ∀ z, isB s z = true → isB t z = true) (h0 : isB s v = false) (h1 : isB t v = true) : openNodes n t < openNodes n s := by
  unfold openNodes
  have hm : v.toNat ∈ List.range n := by simp; omega
  have hvv : ((v.toNat : Nat) : Int) = v := by omega
  obtain ⟨l1, l2, hl⟩ := List.append_of_mem hm
  rw [hl]
  simp only [List.countP_append, List.countP_cons, hvv, h0, h1]
  have key : ∀ l : List Nat, l.countP (fun (i : Nat) => !isB t (i : Int)) ≤ l.countP (fun (i : Nat) => !isB s (i : Int)) := fun l => by
    refine List.countP_mono_left fun i _ hi => ?_
    cases hb : isB s (i : Int) with
    | false => rfl
    | true => simp [h _ hb] at hi
  have k1 := key l1
  have k2 := key l2
  simp only [Bool.not_true, Bool.not_false, Bool.false_eq_true, if_false, if_true] at *
  omega

/-! ### The circles -/
/-- What a new circle looks like: the path, then a simple path of the search graph, then the start. -/
structure Circle (c : Ctx) (p : List Int) (s : S) (v : Int) (l : List Int) : Prop where
  ex : ∃ mid, l = p ++ (v :: mid) ++ [c.start] ∧ mid.Nodup ∧ (∀ x ∈ mid, isB s x = false ∧ x ≠ v ∧ x ≠ c.start) ∧
    (∀ j (hj : j < (v :: mid).length), ((v :: mid) ++ [c.start]).getD (j + 1) 0 ∈ c.nx (((v :: mid) ++ [c.start]).getD j 0))

structure Grew (c : Ctx) (p : List Int) (s : S) (v : Int) (heads : List Int) (a : Bool × S) : Prop where
  ex : ∃ new, a.2.circ = s.circ ++ new ∧ (a.1 = !new.isEmpty) ∧ (∀ l ∈ new, Circle c p s v l ∧ l.getD (p.length + 1) 0 ∈ heads) ∧ a.2.circ.length ≤ max 64 s.circ.length ∧ ((∀ x, (c.nx x).Nodup) → heads.Nodup → new.Nodup)

theorem getD_mid (p m q : List Int) : (p ++ m ++ q).getD p.length 0 = (m ++ q).getD 0 0 := by
  rw [List.append_assoc]
  simp only [List.getD]
  rw [List.getElem?_append_right (Nat.le_refl _), Nat.sub_self]

theorem wk_grew {n : Int} {c : Ctx} (hc : CtxOk n c) (f : Nat) : ∀ (p : List Int) (s : S) (v : Int), Sane n s → Tidy s → 0 ≤ v ∧ v < n → isB s v = false → Grew c p s v (c.nx v) (wk c f p s v) := by
  induction f with
  | zero =>
    intro p s v hs ht hv hb
    exact ⟨[], by simp [wk, setB], by simp [wk], by simp, by simp [wk, setB]; omega, by simp⟩
  | succ f ih =>
    intro p s v hs ht hv hb
    have hloop := foldl_inv_pre (P := fun done a => Going n s v done a ∧ Grew c p s v done a) (step c (wk c f (p ++ [v])) (p ++ [v])) (c.nx v) [] (false, setB s v true) (fun done w a hw h => ?_) ⟨Going.start hs hv ht hb, ⟨[], by simp [setB], by simp, by simp, by simp [setB]; omega, by simp⟩⟩
    · obtain ⟨g, ⟨new, h1, h2, h3, h4, h5⟩⟩ := hloop
      simp only [List.nil_append] at g h1 h2 h3 h4 h5
      unfold wk
      simp only
      split
      · rename_i hf
        refine ⟨new, by rw [show (unbD _ v).circ = _ from circ_unb _ _ _]; exact h1, by rw [← h2]; simp [hf], h3, by rw [show (unbD _ v).circ = _ from circ_unb _ _ _]; exact h4, h5⟩
      · rename_i hf
        refine ⟨new, by simp only [(wait_bl v _ _).2]; exact h1, by rw [← h2]; simp at hf; simp [hf], h3, by simp only [(wait_bl v _ _).2]; exact h4, h5⟩
    · obtain ⟨g, ⟨new, h1, h2, h3, h4, h5⟩⟩ := h
      have hwn := hc v w hw
      refine ⟨g.next (fun t w h1 h2 h3 h4 => wk_law hc f _ t w h1 h2 h3 h4) (fun t w => circ_mono c f _ t w) hwn, ?_⟩
      have hnd : ∀ {d : List Int}, (d ++ [w]).Nodup → d.Nodup ∧ w ∉ d := by
        intro d hd
        rw [List.nodup_append] at hd
        exact ⟨hd.1, fun hm => hd.2.2 w hm w (by simp) rfl⟩
      unfold step
      split
      · exact ⟨new, h1, h2, fun l hl => ⟨(h3 l hl).1, List.mem_append.2 (.inl (h3 l hl).2)⟩, h4, fun a b => h5 a (hnd b).1⟩
      · rename_i hcap
        split
        · rename_i hst
          have hhead : ((p ++ [v]) ++ [c.start]).getD (p.length + 1) 0 = c.start := by
            have := getD_mid (p ++ [v]) [] [c.start]
            simp only [List.length_append, List.length_singleton, List.append_nil] at this
            rw [this]; rfl
          refine ⟨new ++ [p ++ [v] ++ [c.start]], by simp [h1], by simp, fun l hl => ?_, by simp; omega, fun a b => ?_⟩
          · rcases List.mem_append.1 hl with hl | hl
            · exact ⟨(h3 l hl).1, List.mem_append.2 (.inl (h3 l hl).2)⟩
            · simp only [List.mem_singleton] at hl
              subst hl
              refine ⟨⟨[], by simp, by simp, by simp, fun j hj => ?_⟩, ?_⟩
              · simp only [List.length_singleton] at hj
                obtain rfl : j = 0 := by omega
                simp; rw [← hst]; exact hw
              · rw [hhead, hst]; simp
          · obtain ⟨b1, b2⟩ := hnd b
            rw [List.nodup_append]
            refine ⟨h5 a b1, by simp, fun x hx y hy => ?_⟩
            simp only [List.mem_singleton] at hy
            subst hy
            intro e
            have := (h3 x hx).2
            rw [e, hhead, ← hst] at this
            exact b2 this
        · rename_i hst
          split
          · exact ⟨new, h1, h2, fun l hl => ⟨(h3 l hl).1, List.mem_append.2 (.inl (h3 l hl).2)⟩, h4, fun a b => h5 a (hnd b).1⟩
          · rename_i hbw
            have hbw' : isB a.2 w = false := by simpa using hbw
            obtain ⟨new2, k1, k2, k3, k4, k5⟩ := ih (p ++ [v]) a.2 w g.sane (g.tidy (by omega)) hwn hbw'
            have hdown : ∀ x, isB a.2 x = false → isB s x = false ∧ x ≠ v := by
              intro x hx
              have : isB (setB s v true) x = false := by
                cases hz : isB (setB s v true) x with
                | false => rfl
                | true => have := g.rel.kept x hz; simp [hx] at this
              rw [isB_setB] at this
              split at this
              · simp at this
              · rename_i hne; exact ⟨this, hne⟩
            have hform : ∀ l ∈ new2, Circle c p s v l ∧ l.getD (p.length + 1) 0 = w := by
              intro l hl
              obtain ⟨⟨⟨mid, m1, m2, m3, m4⟩⟩, _⟩ := k3 l hl
              have e1 : l = p ++ (v :: w :: mid) ++ [c.start] := by rw [m1]; simp
              refine ⟨⟨w :: mid, e1, ?_, ?_, ?_⟩, ?_⟩
              · rw [List.nodup_cons]
                exact ⟨fun hm => (m3 w hm).2.1 rfl, m2⟩
              · intro x hx
                rcases List.mem_cons.1 hx with rfl | hx
                · exact ⟨(hdown _ hbw').1, (hdown _ hbw').2, hst⟩
                · exact ⟨(hdown x (m3 x hx).1).1, (hdown x (m3 x hx).1).2, (m3 x hx).2.2⟩
              · intro j hj
                cases j with
                | zero => simpa using hw
                | succ j =>
                  have := m4 j (by simpa using hj)
                  simpa using this
              · have := getD_mid (p ++ [v]) (w :: mid) [c.start]
                simp only [List.length_append, List.length_singleton] at this
                rw [m1, this]; simp
            refine ⟨new ++ new2, by simp only [k1, h1, List.append_assoc], by simp only [k2, h2]; cases new <;> cases new2 <;> simp, fun l hl => ?_, by simp only [] at k4 ⊢; omega, fun x y => ?_⟩
            · rcases List.mem_append.1 hl with hl | hl
              · exact ⟨(h3 l hl).1, List.mem_append.2 (.inl (h3 l hl).2)⟩
              · exact ⟨(hform l hl).1, by rw [(hform l hl).2]; simp⟩
            · obtain ⟨b1, b2⟩ := hnd y
              rw [List.nodup_append]
              refine ⟨h5 x b1, k5 x (x w), fun q hq r hr => ?_⟩
              intro e
              have := (h3 q hq).2
              rw [e, (hform r hr).2] at this
              exact b2 this

end Go.Proofs.Qxb6601556a.Pl
