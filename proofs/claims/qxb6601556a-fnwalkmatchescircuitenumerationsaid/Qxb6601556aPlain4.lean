/-
  The circles that walk appends are those of plain backtracking, in its order, cut at the budget; and the blocking maps at its end.
-/
import Derived.Test.Qxb6601556aPlain3
namespace Go.Proofs.Qxb6601556a.Pl
set_option linter.unusedVariables false
set_option linter.unusedSimpArgs false

/-- Plain backtracking: 'wkd' is the walked path, x its last node. -/
def srchStep (c : Ctx) (pfx : List Int) (b : Nat) (rb : List Int → Int → Bool) (rec : List Int → List (List Int) → Int → List (List Int)) (wkd : List Int) (out : List (List Int)) (w : Int) : List (List Int) :=
  if b ≤ out.length then out
  else if w = c.start then out ++ [pfx ++ wkd ++ [c.start]]
  else if wkd.contains w then out
  else if rb wkd w then rec (wkd ++ [w]) out w
  else out
def srch (c : Ctx) (pfx : List Int) (b : Nat) (rb : List Int → Int → Bool) : Nat → List Int → List (List Int) → Int → List (List Int)
  | 0, _, out, _ => out
  | f + 1, wkd, out, x => (c.nx x).foldl (srchStep c pfx b rb (srch c pfx b rb f) wkd) out

structure Eqs (c : Ctx) (C : List (List Int)) (stk : List Int) (res : List (List Int)) (r : S) : Prop where
  circ : r.circ = C ++ res
  shut : r.circ.length < 64 → Shut c r stk

theorem wk_srch {n : Nat} {c : Ctx} (hc : CtxOk n c) (pfx : List Int) (b : Nat) (C : List (List Int)) (hb : C.length + b = 64) (rb : List Int → Int → Bool) (hrb : ∀ wkd w, rb wkd w = true ↔ Reach c (fun y => wkd.contains y) w) (fw : Nat) :
    ∀ (p : List Int) (s : S) (v : Int) (stk : List Int) (out : List (List Int)) (fs : Nat), Sane n s → Tidy s → 0 ≤ v ∧ v < (n : Int) → isB s v = false → openNodes n s ≤ fw → Shut c s stk → (∀ x ∈ stk, isB s x = true ∧ 0 ≤ x ∧ x < (n : Int)) → stk.Nodup →
      p ++ [v] = pfx ++ (stk ++ [v]) → s.circ = C ++ out → n + 1 ≤ fs + (stk ++ [v]).length → Eqs c C stk (srch c pfx b rb fs (stk ++ [v]) out v) (wk c fw p s v).2 := by
  induction fw with
  | zero =>
    intro p s v stk out fs hs ht hv hbv hop
    exfalso
    have h1 : 0 < openNodes n s := by
      unfold openNodes
      refine List.countP_pos_iff.2 ⟨v.toNat, by simp; omega, ?_⟩
      have : ((v.toNat : Nat) : Int) = v := by omega
      rw [this, hbv]; rfl
    omega
  | succ fw ih =>
    intro p s v stk out fs hs ht hv hbv hop hshut hstk hnd hp hcirc hfs
    -- the walked path has no repeats and lies below n: so it has at most n nodes
    have hvs : v ∉ stk := fun hm => by rw [(hstk v hm).1] at hbv; cases hbv
    have hwnd : (stk ++ [v]).Nodup := by
      rw [List.nodup_append]
      exact ⟨hnd, by simp, fun a ha b hb2 => by simp at hb2; subst hb2; intro e; subst e; exact hvs ha⟩
    have hwr : ∀ x ∈ stk ++ [v], 0 ≤ x ∧ x < (n : Int) := fun x hx => by
      rcases List.mem_append.1 hx with hx | hx
      · exact (hstk x hx).2
      · simp at hx; subst hx; exact hv
    have hwl := nodup_bound hwnd hwr
    obtain ⟨fs, rfl⟩ : ∃ k, fs = k + 1 := ⟨fs - 1, by omega⟩
    have hshut1 : Shut c (setB s v true) (stk ++ [v]) := by
      intro z hz hns
      have hzv : z ≠ v := fun e => hns (by simp [e])
      rw [isB_setB, if_neg hzv] at hz
      obtain ⟨h1, h2⟩ := hshut z hz (fun h => hns (by simp [h]))
      refine ⟨h1, fun y hy => ⟨?_, (h2 y hy).2⟩⟩
      rw [isB_setB]
      split
      · rfl
      · exact (h2 y hy).1
    -- the two loops side by side
    have hloop : ∀ (l done : List Int) (a : Bool × S) (o : List (List Int)), (∀ w ∈ l, w ∈ c.nx v) → Going n s v done a → a.2.circ = C ++ o → (a.2.circ.length < 64 → Shut c a.2 (stk ++ [v])) → (a.1 = false → a.2.circ.length < 64 → ∀ w ∈ done, w ≠ c.start) →
        ∃ o' a', a' = l.foldl (step c (wk c fw (p ++ [v])) (p ++ [v])) a ∧ o' = l.foldl (srchStep c pfx b rb (srch c pfx b rb fs) (stk ++ [v])) o ∧ Going n s v (done ++ l) a' ∧ a'.2.circ = C ++ o' ∧ (a'.2.circ.length < 64 → Shut c a'.2 (stk ++ [v])) ∧ (a'.1 = false → a'.2.circ.length < 64 → ∀ w ∈ done ++ l, w ≠ c.start) := by
      intro l
      induction l with
      | nil => intro done a o _ g h1 h2 h3; exact ⟨o, a, rfl, rfl, by simpa using g, h1, h2, by simpa using h3⟩
      | cons w l ihl =>
        intro done a o hl g h1 h2 h3
        have hw := hl w (List.mem_cons_self ..)
        have hwn := hc v w hw
        have g' := g.next (c := c) (p := p ++ [v]) (rec := wk c fw (p ++ [v])) (fun t w h1 h2 h3 h4 => wk_law hc fw _ t w h1 h2 h3 h4) (fun t w => circ_mono c fw _ t w) hwn
        have hlen : a.2.circ.length = C.length + o.length := by rw [h1]; simp
        -- one step
        have hstep : ∃ o1, o1 = srchStep c pfx b rb (srch c pfx b rb fs) (stk ++ [v]) o w ∧ (step c (wk c fw (p ++ [v])) (p ++ [v]) a w).2.circ = C ++ o1 ∧ ((step c (wk c fw (p ++ [v])) (p ++ [v]) a w).2.circ.length < 64 → Shut c (step c (wk c fw (p ++ [v])) (p ++ [v]) a w).2 (stk ++ [v])) ∧
            ((step c (wk c fw (p ++ [v])) (p ++ [v]) a w).1 = false → (step c (wk c fw (p ++ [v])) (p ++ [v]) a w).2.circ.length < 64 → ∀ x ∈ done ++ [w], x ≠ c.start) := by
          refine ⟨_, rfl, ?_⟩
          unfold step srchStep
          by_cases hcap : 64 ≤ a.2.circ.length
          · rw [if_pos hcap, if_pos (show b ≤ o.length by omega)]
            exact ⟨h1, h2, fun _ hl2 => by omega⟩
          · rw [if_neg hcap, if_neg (show ¬ b ≤ o.length by omega)]
            by_cases hst : w = c.start
            · rw [if_pos hst, if_pos hst]
              refine ⟨by simp only [h1, hp]; simp, fun _ => ?_, fun hf => by simp at hf⟩
              exact h2 (by omega)
            · rw [if_neg hst, if_neg hst]
              have hmem : ∀ x ∈ done ++ [w], (a.1 = false → x ≠ c.start) := fun x hx hf => by
                rcases List.mem_append.1 hx with hx | hx
                · exact h3 hf (by omega) x hx
                · simp at hx; subst hx; exact hst
              have hblk : ∀ x ∈ stk ++ [v], isB a.2 x = true := fun x hx => g.rel.kept x (by
                rw [isB_setB]
                rcases List.mem_append.1 hx with hx | hx
                · split
                  · rfl
                  · exact (hstk x hx).1
                · simp at hx; simp [hx])
              by_cases hbw : isB a.2 w = true
              · rw [if_pos hbw]
                have hno : ¬ (w ∉ stk ++ [v] ∧ rb (stk ++ [v]) w = true) := by
                  rintro ⟨hn1, hn2⟩
                  exact (h2 (by omega)).noReach hbw hn1 (fun x hx _ => by simpa using hx) ((hrb _ _).1 hn2)
                have hsame : (if (stk ++ [v]).contains w = true then o else if rb (stk ++ [v]) w = true then srch c pfx b rb fs (stk ++ [v] ++ [w]) o w else o) = o := by
                  by_cases hm : (stk ++ [v]).contains w = true
                  · rw [if_pos hm]
                  · rw [if_neg hm]
                    by_cases hr : rb (stk ++ [v]) w = true
                    · exact absurd ⟨by simpa using hm, hr⟩ hno
                    · rw [if_neg hr]
                rw [hsame]
                exact ⟨h1, h2, fun hf _ x hx => hmem x hx hf⟩
              · have hbw' : isB a.2 w = false := by simpa using hbw
                rw [if_neg hbw]
                have hnw : w ∉ stk ++ [v] := fun hm => by rw [hblk w hm] at hbw'; cases hbw'
                have hop2 : openNodes n a.2 ≤ fw := by
                  have := openNodes_lt (n := n) (s := s) (t := a.2) hv (fun z hz => g.rel.kept z (by rw [isB_setB]; split <;> simp [hz])) hbv (g.rel.kept _ (by rw [isB_setB]; simp))
                  omega
                have IH := ih (p ++ [v]) a.2 w (stk ++ [v]) o fs g.sane (g.tidy (by omega)) hwn hbw' hop2 (h2 (by omega)) (fun x hx => ⟨hblk x hx, hwr x hx⟩) hwnd (by rw [hp]; simp) h1 (by simp at hfs ⊢; omega)
                have hcm : ¬ (stk ++ [v]).contains w = true := by simpa using hnw
                rw [if_neg hcm]
                have hstart : ((wk c fw (p ++ [v]) a.2 w).1 || a.1) = false → (wk c fw (p ++ [v]) a.2 w).2.circ.length < 64 → ∀ x ∈ done ++ [w], x ≠ c.start := fun hf _ x hx => hmem x hx (by simp at hf; exact hf.2)
                by_cases hr : rb (stk ++ [v]) w = true
                · rw [if_pos hr]
                  exact ⟨IH.circ, IH.shut, hstart⟩
                · rw [if_neg hr]
                  refine ⟨?_, IH.shut, hstart⟩
                  obtain ⟨new, k1, k2, k3, _, _⟩ := wk_grew hc fw (p ++ [v]) a.2 w g.sane (g.tidy (by omega)) hwn hbw'
                  have hnil : new = [] := by
                    cases new with
                    | nil => rfl
                    | cons x xs =>
                      exfalso
                      have hcir := (k3 x (List.mem_cons_self ..)).1
                      exact hr ((hrb _ _).2 (hcir.reach (fun y hy => hblk y (by simpa using hy))))
                  rw [k1, hnil, h1]; simp
        obtain ⟨o1, ho1, s1, s2, s3⟩ := hstep
        obtain ⟨o', a', e1, e2, e3, e4, e5, e6⟩ := ihl (done ++ [w]) _ o1 (fun x hx => hl x (List.mem_cons_of_mem _ hx)) g' s1 s2 s3
        refine ⟨o', a', e1, ?_, by simpa using e3, e4, e5, by simpa using e6⟩
        rw [e2, ho1]; rfl
    obtain ⟨o', a', e1, e2, g, h1, h2, h3⟩ := hloop (c.nx v) [] (false, setB s v true) out (fun w h => h) (Going.start hs hv ht hbv) hcirc (fun _ => hshut1) (fun _ _ w hw => by simp at hw)
    simp only [List.nil_append] at g h3
    have hres : srch c pfx b rb (fs + 1) (stk ++ [v]) out v = o' := by rw [e2]; rfl
    rw [hres]
    unfold wk
    simp only
    rw [← e1]
    by_cases hf : a'.1 = true
    · rw [if_pos hf]
      refine ⟨by simp only; unfold unbD; rw [circ_unb]; exact h1, fun hl => ?_⟩
      simp only at hl
      unfold unbD at hl
      rw [circ_unb] at hl
      exact Shut.unb g.sane hv (h2 hl)
    · have hf' : a'.1 = false := by simpa using hf
      rw [if_neg hf]
      refine ⟨by simp only [(wait_bl v _ _).2]; exact h1, fun hl => ?_⟩
      simp only [(wait_bl v _ _).2] at hl
      exact (h2 hl).wait (fun hm => h3 hf' hl _ hm rfl) (g.shut hf' hl)

end Go.Proofs.Qxb6601556a.Pl
