/-
  What the blocking maps hold when walk has come to its end, from fresh maps.
-/
import Derived.Test.Qxb6601556aPlain4
namespace Go.Proofs.Qxb6601556a.Pl
set_option linter.unusedVariables false
set_option linter.unusedSimpArgs false

/-- Only nodes that v0 leads to are blocked or wait, and each waits on a node that it has an edge to. -/
def Vis (c : Ctx) (v0 : Int) (s : S) : Prop := (∀ k ∈ keys s.bl, Clos c v0 k) ∧ ∀ p ∈ s.by_, ∀ z ∈ p.2, Clos c v0 z ∧ p.1 ∈ c.nx z

theorem Vis.wl {c : Ctx} {v0 : Int} {s : S} (h : Vis c v0 s) {y z : Int} (hz : z ∈ wl s y) : Clos c v0 z ∧ y ∈ c.nx z := by
  unfold Pl.wl at hz
  cases hg : get s.by_ y with
  | none => simp [hg] at hz
  | some l => rw [hg] at hz; exact h.2 _ (get_some_mem hg) z hz
theorem Vis.setB {c : Ctx} {v0 : Int} {s : S} (h : Vis c v0 s) {v : Int} (hv : Clos c v0 v) (b : Bool) : Vis c v0 (setB s v b) :=
  ⟨fun k hk => by rcases (mem_keys_put _ _ _ _).1 hk with rfl | hk; exact hv; exact h.1 k hk, h.2⟩
theorem Vis.free {c : Ctx} {v0 : Int} {s : S} (h : Vis c v0 s) {v : Int} (hv : Clos c v0 v) : Vis c v0 (free s v) :=
  ⟨fun k hk => by rcases (mem_keys_put _ _ _ _).1 hk with rfl | hk; exact hv; exact h.1 k hk, fun p hp => h.2 p (mem_del hp)⟩
theorem Vis.unb {c : Ctx} {v0 : Int} (f : Nat) : ∀ (s : S) (v : Int), Vis c v0 s → Clos c v0 v → Vis c v0 (unb f s v) := by
  induction f with
  | zero => intro s v h _; exact h
  | succ f ih =>
    intro s v h hv
    unfold Pl.unb
    refine foldl_inv_mem (P := fun t : S => Vis c v0 t) _ _ _ (fun t w hw ht => ?_) (h.free hv)
    split
    · exact ih t w ht (h.wl hw).1
    · exact ht
theorem Vis.wait1 {c : Ctx} {v0 : Int} {s : S} (h : Vis c v0 s) {v w : Int} (hv : Clos c v0 v) (hw : w ∈ c.nx v) : Vis c v0 (wait1 v s w) := by
  unfold Pl.wait1
  split
  · exact h
  · refine ⟨h.1, fun p hp z hz => ?_⟩
    rcases mem_put hp with rfl | hp
    · rcases List.mem_append.1 hz with hz | hz
      · exact h.wl hz
      · simp at hz; subst hz; exact ⟨hv, hw⟩
    · exact h.2 p hp z hz
theorem Vis.wk {c : Ctx} {v0 : Int} (f : Nat) : ∀ (p : List Int) (s : S) (v : Int), Vis c v0 s → Clos c v0 v → Vis c v0 (wk c f p s v).2 := by
  induction f with
  | zero => intro p s v h hv; exact h.setB hv _
  | succ f ih =>
    intro p s v h hv
    unfold Pl.wk
    have hl : Vis c v0 ((c.nx v).foldl (Pl.step c (Pl.wk c f (p ++ [v])) (p ++ [v])) (false, Pl.setB s v true)).2 := by
      refine foldl_inv_mem (P := fun t : Bool × S => Vis c v0 t.2) _ _ _ (fun t w hw ht => ?_) (h.setB hv _)
      unfold Pl.step
      split
      · exact ht
      · split
        · exact ⟨ht.1, ht.2⟩
        · rename_i hst
          split
          · exact ht
          · exact ih _ _ _ ht (hv.step hw hst)
    simp only
    split
    · exact Vis.unb _ _ _ hl hv
    · exact foldl_inv_mem (P := fun t : S => Vis c v0 t) _ _ _ (fun t w hw ht => ht.wait1 hv hw) hl

def AllT (s : S) : Prop := ∀ p ∈ s.bl, p.2 = true
theorem AllT.setB {s : S} (h : AllT s) (v : Int) : AllT (setB s v true) := fun p hp => by
  rcases mem_put hp with rfl | hp
  · rfl
  · exact h p hp
theorem AllT.wk {c : Ctx} (f : Nat) : ∀ (p : List Int) (s : S) (v : Int), AllT s → (wk c f p s v).1 = false → AllT (wk c f p s v).2 := by
  induction f with
  | zero => intro p s v h _; exact h.setB v
  | succ f ih =>
    intro p s v h
    unfold Pl.wk
    have hl := foldl_inv (P := fun t : Bool × S => t.1 = false → AllT t.2) (Pl.step c (Pl.wk c f (p ++ [v])) (p ++ [v])) (fun t w ht => ?_) (c.nx v) (false, Pl.setB s v true) (fun _ => h.setB v)
    · simp only
      split
      · intro hf; simp at hf
      · rename_i hf
        intro _
        show AllT ((c.nx v).foldl (Pl.wait1 v) _)
        unfold AllT
        rw [(wait_bl v _ _).1]
        exact hl (by simpa using hf)
    · unfold Pl.step
      split
      · exact ht
      · split
        · intro hf; simp at hf
        · split
          · exact ht
          · intro hf
            simp only [Bool.or_eq_false_iff] at hf
            exact ih _ _ _ (ht hf.2) hf.1

/-- With the cap reached nothing is walked. -/
theorem wk_cap {c : Ctx} (f : Nat) (p : List Int) (s : S) (v : Int) (h : 64 ≤ s.circ.length) : wk c (f + 1) p s v = (false, (c.nx v).foldl (wait1 v) (setB s v true)) := by
  have hl : (c.nx v).foldl (step c (wk c f (p ++ [v])) (p ++ [v])) (false, setB s v true) = (false, setB s v true) := by
    refine foldl_inv (P := fun t : Bool × S => t = (false, setB s v true)) _ (fun t w ht => ?_) _ _ rfl
    subst ht
    unfold step
    rw [if_pos]
    exact h
  unfold wk
  simp only [hl]
  simp

theorem vval {n : Int} {c : Ctx} (hc : CtxOk n c) (f : Nat) (p : List Int) (s : S) (v : Int) (hs : Sane n s) (ht : Tidy s) (hv : 0 ≤ v ∧ v < n) (hb : isB s v = false) :
    get (wk c (f + 1) p s v).2.bl v = some (!(wk c (f + 1) p s v).1) := by
  have hlaw := wk_law hc (f + 1) p s v hs ht hv hb
  cases hf : (wk c (f + 1) p s v).1 with
  | false => exact isB_true (hlaw.shut hf)
  | true =>
    have g : Going n s v (c.nx v) ((c.nx v).foldl (step c (wk c f (p ++ [v])) (p ++ [v])) (false, setB s v true)) :=
      foldl_inv_pre (P := Going n s v) _ (c.nx v) [] _ (fun done w a hw h => h.next (fun t w h1 h2 h3 h4 => wk_law hc f _ t w h1 h2 h3 h4) (fun t w => circ_mono c f _ t w) (hc v w hw)) (Going.start hs hv ht hb)
    unfold wk at hf ⊢
    simp only at hf ⊢
    split
    · have L := unbD_let g.sane hv
      have h1 := L.off
      have h2 := L.here
      simp only
      unfold isB at h1
      revert h1 h2
      cases get (unbD ((c.nx v).foldl (step c (wk c f (p ++ [v])) (p ++ [v])) (false, setB s v true)).2 v).bl v with
      | none => intro _ h2; simp at h2
      | some b => intro h1 _; simp at h1; simp [h1]
    · rename_i h
      rw [if_neg h] at hf; simp at hf

/-- The nodes that count at the end. -/
def VisP (c : Ctx) (v : Int) (len : Nat) (x : Int) : Prop := if len < 64 then Clos c v x else x = v

structure Fin (c : Ctx) (n : Nat) (pfx : List Int) (C : List (List Int)) (v : Int) (out : List (List Int)) (r : Bool × S) : Prop where
  sane : Sane n r.2
  circ : r.2.circ = C ++ out
  fd : r.1 = !out.isEmpty
  keysVis : ∀ x, (get r.2.bl x).isSome = true → VisP c v C.length x
  allT : r.1 = false → ∀ x b, get r.2.bl x = some b → b = true
  vval : get r.2.bl v = some (!r.1)
  full : r.1 = false → ∀ x, VisP c v C.length x → (get r.2.bl x).isSome = true
  noR : r.1 = true → r.2.circ.length < 64 → ∀ x, isB r.2 x = true → ∀ av, ¬ Reach c av x
  lists : ∀ w x, x ∈ wl r.2 w → VisP c v C.length x ∧ w ∈ c.nx x
  lfull : r.1 = false → ∀ w x, VisP c v C.length x → w ∈ c.nx x → x ∈ wl r.2 w

theorem fin_of {n : Nat} {c : Ctx} (hc : CtxOk n c) (pfx : List Int) (C : List (List Int)) (v : Int) (hv : 0 ≤ v ∧ v < (n : Int)) (rb : List Int → Int → Bool) (hrb : ∀ wkd w, rb wkd w = true ↔ Reach c (fun y => wkd.contains y) w)
    (s : S) (hsC : s.circ = C) (hbl : s.bl = []) (hby : s.by_ = []) (out : List (List Int)) (hout : out = if C.length < 64 then srch c pfx (64 - C.length) rb n [v] [] v else []) : Fin c n pfx C v out (wk c n pfx s v) := by
  have hs : Sane n s := ⟨by simp [keys, hbl], by simp [keys, hby], by simp [keys, hbl], by simp [keys, hby], by simp [hby]⟩
  have ht : Tidy s := fun z _ => by simp [wl, hby, get]
  have hb : isB s v = false := by simp [isB, hbl, get]
  obtain ⟨f, rfl⟩ : ∃ k, n = k + 1 := ⟨n - 1, by omega⟩
  have hlaw := wk_law hc (f + 1) pfx s v hs ht hv hb
  have hval := vval hc f pfx s v hs ht hv hb
  have hallT : (wk c (f + 1) pfx s v).1 = false → ∀ x b, get (wk c (f + 1) pfx s v).2.bl x = some b → b = true := fun hf x b hg =>
    AllT.wk (f + 1) pfx s v (fun p hp => by simp [hbl] at hp) hf _ (get_some_mem hg)
  obtain ⟨new, k1, k2, k3, k4, _⟩ := wk_grew hc (f + 1) pfx s v hs ht hv hb
  by_cases hcap : C.length < 64
  · have hVis : Vis c v (wk c (f + 1) pfx s v).2 := Vis.wk _ _ _ _ ⟨fun k hk => by simp [keys, hbl] at hk, fun p hp => by simp [hby] at hp⟩ (Clos.self c v)
    have heq := wk_srch hc pfx (64 - C.length) C (by omega) rb hrb (f + 1) pfx s v [] [] (f + 1) hs ht hv hb (by
        unfold openNodes
        have := List.countP_le_length (l := List.range (f + 1)) (p := fun (i : Nat) => !isB s (i : Int))
        simpa using this) (fun z hz => by simp [isB, hbl, get] at hz) (fun x hx => by simp at hx) (by simp) (by simp) (by simpa using hsC) (by simp)
    simp only [List.nil_append] at heq
    rw [if_pos hcap] at hout
    rw [← hout] at heq
    have hnew : new = out := by
      have := heq.circ
      rw [k1, hsC] at this
      exact List.append_cancel_left this
    subst hnew
    have hVP : ∀ x, VisP c v C.length x ↔ Clos c v x := fun x => by unfold VisP; rw [if_pos hcap]
    have hshutAll : (wk c (f + 1) pfx s v).1 = false → ∀ x, Clos c v x → isB (wk c (f + 1) pfx s v).2 x = true ∧ ∀ y ∈ c.nx x, x ∈ wl (wk c (f + 1) pfx s v).2 y := by
      intro hf
      have hn : new = [] := by rw [k2] at hf; simpa using hf
      have hsh := heq.shut (by rw [k1, hn, hsC]; simpa using hcap)
      have hB : ∀ x, Clos c v x → isB (wk c (f + 1) pfx s v).2 x = true := fun x hx => hx (fun x => isB (wk c (f + 1) pfx s v).2 x = true) (by unfold isB; rw [hval, hf]; rfl) (fun z hz y hy _ => ((hsh z hz (by simp)).2 y hy).1)
      exact fun x hx => ⟨hB x hx, fun y hy => ((hsh x (hB x hx) (by simp)).2 y hy).2⟩
    refine ⟨hlaw.sane, heq.circ, k2, fun x hx => ?_, hallT, hval, fun hf x hx => ?_, fun hf hl x hx av hr => ?_, fun w x hx => ?_, fun hf w x hx hw => ?_⟩
    · rw [hVP]
      refine hVis.1 x ?_
      cases Classical.em (x ∈ keys (wk c (f + 1) pfx s v).2.bl) with
      | inl h => exact h
      | inr h => rw [(get_none_iff _ _).2 h] at hx; simp at hx
    · rw [isB_true ((hshutAll hf x ((hVP x).1 hx)).1)]; rfl
    · exact (heq.shut hl).noReach hx (by simp) (fun y hy => by simp at hy) hr
    · have := hVis.wl hx
      exact ⟨(hVP x).2 this.1, this.2⟩
    · exact (hshutAll hf x ((hVP x).1 hx)).2 w hw
  · rw [if_neg hcap] at hout
    have hwk := wk_cap (c := c) f pfx s v (by rw [hsC]; omega)
    have hVP : ∀ x, VisP c v C.length x ↔ x = v := fun x => by unfold VisP; rw [if_neg hcap]
    subst hout
    have hbl' : (wk c (f + 1) pfx s v).2.bl = [(v, true)] := by rw [hwk]; simp only [(wait_bl v _ _).1]; simp [setB, hbl, put]
    have hm := wait_mem v (c.nx v) (setB s v true)
    refine ⟨hlaw.sane, (by rw [hwk]; simp only [(wait_bl v _ _).2]; simpa [setB] using hsC), (by rw [hwk]; rfl), fun x hx => ?_, hallT, hval, fun hf x hx => ?_, fun hf => (by rw [hwk] at hf; cases hf), fun w x hx => ?_, fun hf w x hx hw => ?_⟩
    · rw [hVP]
      rw [hbl'] at hx
      simp only [get] at hx
      split at hx
      · rename_i e; exact e.symm
      · simp at hx
    · rw [(hVP x).1 hx, hval]; rfl
    · rw [hVP]
      rw [hwk] at hx
      have key := foldl_inv_mem (P := fun t : S => ∀ y z, z ∈ wl t y → z = v ∧ y ∈ c.nx v) (wait1 v) (c.nx v) (setB s v true) (fun t u hu ht y z hz => ?_) (fun y z hz => by simp [wl, setB, hby, get] at hz)
      · have := key w x hx
        exact ⟨this.1, by rw [this.1]; exact this.2⟩
      · rw [wl_wait1] at hz
        split at hz
        · rename_i e
          rcases List.mem_append.1 hz with hz | hz
          · rw [e.1]; exact ht u z hz
          · simp at hz; exact ⟨hz, by rw [e.1]; exact hu⟩
        · exact ht y z hz
    · rw [(hVP x).1 hx] at hw ⊢
      rw [hwk]
      exact hm.2 w hw

end Go.Proofs.Qxb6601556a.Pl
