/-
  A region that draws its order and whose LAST operation L, for which all others wait, is the only one that writes the cells that its loads read: as the library's wpAnyH, but S is not asked behind L.
-/
import Derived.OrdersHeld
import Derived.Deep.RegionHeld3
namespace Go.Proofs.Qxb6601640a
section
variable {P : Program} {ops : Array Oper} {Q : Exit → Act → World → Prop} {md : Region.Mode} {S : World → Prop} {L : Nat}

def wpAnyS (P : Program) (md : Region.Mode) (ops : Array Oper) (Q : Exit → Act → World → Prop) (S : World → Prop) (L : Nat) : Nat → Array Bool → Act → World → Prop
  | 0, listed, a, w => Region.ready md ops listed = [] ∧ Q .normal a w
  | fuel + 1, listed, a, w =>
    (Region.ready md ops listed = [] → Q .normal a w) ∧
    ∀ i ∈ Region.ready md ops listed, wpOp P ops Q i (fun a' w' => (i ≠ L → S w') ∧ wpAnyS P md ops Q S L fuel (listed.setIfInBounds i true) a' w') a w

theorem wpAny_of_S : ∀ (fuel : Nat) (listed : Array Bool) (a : Act) (w : World), wpAnyS P md ops Q S L fuel listed a w → wpAny P md ops Q fuel listed a w
  | 0, _, _, _, h => h
  | fuel + 1, _, _, _, h => ⟨h.1, fun i hi => wpOp_mono (fun a' w' h' => wpAny_of_S fuel _ a' w' h'.2) (h.2 i hi)⟩

/-- Whatever has come up, all that it waits for has. -/
def Closed (md : Region.Mode) (ops : Array Oper) (listed : Array Bool) : Prop := ∀ j o, ops[j]? = some o → listed.getD j false = true → ∀ e ∈ o.after, Region.binds md e = true → listed.getD e.on false = true
def closedB (md : Region.Mode) (ops : Array Oper) (listed : Array Bool) : Bool :=
  (List.range ops.size).all fun j => !listed.getD j false || match ops[j]? with
    | some o => o.after.all fun e => !Region.binds md e || listed.getD e.on false
    | none => true
theorem closed_of {listed : Array Bool} (h : closedB md ops listed = true) : Closed md ops listed := by
  intro j o ho hj e he hb
  have hlt : j < ops.size := (Array.getElem?_eq_some_iff.1 ho).1
  have h1 := List.all_eq_true.1 h j (by simpa using hlt)
  simp only [hj, ho, Bool.not_true, Bool.false_or] at h1
  have h2 := Array.all_eq_true'.1 h1 e he
  simpa [hb] using h2
theorem getD_set (l : Array Bool) (i j : Nat) (b : Bool) : (l.setIfInBounds i true).getD j b = if i = j ∧ j < l.size then true else l.getD j b := by
  simp only [Array.getD_eq_getD_getElem?, Array.getElem?_setIfInBounds]
  by_cases h : i = j
  · subst h
    by_cases h2 : i < l.size
    · simp [h2]
    · simp [h2]
  · simp [h]
theorem Closed.next {listed : Array Bool} (h : Closed md ops listed) {i : Nat} (hi : i ∈ Region.ready md ops listed) : Closed md ops (listed.setIfInBounds i true) := by
  intro j o ho hj e he hb
  obtain ⟨_, oi, hoi, hall⟩ := mem_ready.1 hi
  have up : listed.getD e.on false = true → (listed.setIfInBounds i true).getD e.on false = true := fun h => by
    rw [getD_set]; split
    · rfl
    · exact h
  rw [getD_set] at hj
  split at hj
  · rename_i e1
    obtain ⟨rfl, _⟩ := e1
    rw [hoi] at ho
    cases ho
    exact up (hall e he hb)
  · exact up (h j o ho hj e he hb)

/-- All that L waits for, some steps up. -/
def ups (md : Region.Mode) (ops : Array Oper) : Nat → Nat → List Nat
  | 0, _ => []
  | f + 1, j => match ops[j]? with
    | some o => o.after.toList.flatMap fun e => if Region.binds md e then e.on :: ups md ops f e.on else []
    | none => []
theorem ups_listed {listed : Array Bool} (h : Closed md ops listed) : ∀ (f j : Nat) (o : Oper), ops[j]? = some o → (∀ e ∈ o.after, Region.binds md e = true → listed.getD e.on false = true) → ∀ k ∈ ups md ops f j, listed.getD k false = true
  | 0, j, o, _, _, k, hk => by simp [ups] at hk
  | f + 1, j, o, ho, hall, k, hk => by
    simp only [ups, ho, List.mem_flatMap] at hk
    obtain ⟨e, he, hk⟩ := hk
    have he' : e ∈ o.after := by simpa using he
    split at hk
    · rename_i hb
      have h1 := hall e he' hb
      rcases List.mem_cons.1 hk with rfl | hk
      · exact h1
      · cases hoe : ops[e.on]? with
        | none => cases f <;> simp [ups, hoe] at hk
        | some oe => exact ups_listed h f e.on oe hoe (fun e2 he2 hb2 => h e.on oe hoe h1 e2 he2 hb2) k hk
    · simp at hk
def lastB (md : Region.Mode) (ops : Array Oper) (L : Nat) : Bool := (List.range ops.size).all fun k => k == L || (ups md ops ops.size L).contains k

theorem wpAnyS_first {i : Nat} {oi : Oper} {v : Value} (hi : ops[i]? = some oi) (hsel : ∀ (j : Nat) (o : Oper) cs b, ops[j]? = some o → o.op ≠ .select cs b) (hiL : i ≠ L) (hlast : lastB md ops L = true)
    (hQ : ∀ c a w, Q (.panic c) (a.put oi.dst v) w → Q (.panic c) a w) :
    ∀ (fuel : Nat) (listed : Array Bool) (a : Act) (w : World),
      (∀ j oj, ops[j]? = some oj → j ≠ i → listed.getD j true = false → (∀ e ∈ oj.after, Region.binds md e = true → e.on ≠ i) → oi.apart ops oj = true) →
      i ∈ Region.ready md ops listed → Closed md ops listed → YieldsIf P ops S oi v a → S w →
      wpAnyS P md ops Q S L fuel (listed.setIfInBounds i true) (a.put oi.dst v) w → wpAnyS P md ops Q S L (fuel + 1) listed a w := by
  intro fuel
  induction fuel with
  | zero =>
    intro listed a w _ hr _ hy hS H
    refine ⟨fun h => absurd hr (by rw [h]; simp), fun j hj => ?_⟩
    by_cases hji : j = i
    · subst hji; exact hy.wpOp hi hS ⟨fun _ => hS, H⟩
    · have h1 := ready_mono hj hji
      rw [H.1] at h1
      simp at h1
  | succ fuel ih =>
    intro listed a w hfree hr hcl hy hS H
    refine ⟨fun h => absurd hr (by rw [h]; simp), fun j hj => ?_⟩
    by_cases hji : j = i
    · subst hji; exact hy.wpOp hi hS ⟨fun _ => hS, H⟩
    · have h1 := H.2 j (ready_mono hj hji)
      obtain ⟨hjun, oj, hoj, hall⟩ := mem_ready.1 hj
      have hjL : j ≠ L := by
        rintro rfl
        have hlt : i < ops.size := (Array.getElem?_eq_some_iff.1 hi).1
        have h3 := List.all_eq_true.1 hlast i (by simpa using hlt)
        have h4 : i ∈ ups md ops ops.size j := by simpa [hiL] using h3
        have h5 := ups_listed hcl _ _ oj hoj hall i h4
        have h6 := (mem_ready.1 hr).1
        rcases Nat.lt_or_ge i listed.size with h' | h'
        · simp [Array.getD_eq_getD_getElem?, h'] at h5 h6; rw [h6] at h5; cases h5
        · simp [Array.getD_eq_getD_getElem?, Array.getElem?_eq_none h'] at h5
      have hnot : ∀ e ∈ oj.after, Region.binds md e = true → e.on ≠ i := fun e he hb heq => by
        have h2 := hall e he hb
        have h0 := (mem_ready.1 hr).1
        rw [heq] at h2
        rcases Nat.lt_or_ge i listed.size with h' | h'
        · simp [h'] at h0 h2; rw [h0] at h2; cases h2
        · simp [Array.getElem?_eq_none h'] at h2
      have h2 := wpOp_putIf hoj (hfree j oj hoj hji hjun hnot) (fun cs b => hsel i oi cs b hi) (fun cs b => hsel j oj cs b hoj) hQ hy h1
      have hfree' : ∀ k ok, ops[k]? = some ok → k ≠ i → (listed.setIfInBounds j true).getD k true = false →
          (∀ e ∈ ok.after, Region.binds md e = true → e.on ≠ i) → oi.apart ops ok = true := fun k ok hk hki hun hno => by
        refine hfree k ok hk hki ?_ hno
        by_cases hjk : j = k
        · subst hjk; exact hjun
        · rw [getD_set_ne true hjk] at hun; exact hun
      refine wpOp_mono (fun a' w' h3 => ⟨h3.2.1, ih (listed.setIfInBounds j true) a' w' hfree' (ready_mono hr (Ne.symm hji)) (hcl.next hj) h3.1 (h3.2.1 hjL) ?_⟩) h2
      rw [Array.setIfInBounds_comm _ _ hji]
      exact h3.2.2

theorem wpAnyS_take {i : Nat} {oi : Oper} {v : Value} {fuel : Nat} {listed : Array Bool} {a : Act} {w : World} (hi : ops[i]? = some oi)
    (hc : (Region.noSelect ops && Region.free md ops listed i && (Region.ready md ops listed).contains i && !(i == L) && lastB md ops L && closedB md ops listed) = true)
    (hQ : ∀ c a w, Q (.panic c) (a.put oi.dst v) w → Q (.panic c) a w) (hy : YieldsIf P ops S oi v a) (hS : S w)
    (h : wpAnyS P md ops Q S L fuel (listed.setIfInBounds i true) (a.put oi.dst v) w) : wpAnyS P md ops Q S L (fuel + 1) listed a w := by
  simp only [Bool.and_eq_true] at hc
  obtain ⟨⟨⟨⟨⟨h1, h2⟩, h3⟩, h4⟩, h5⟩, h6⟩ := hc
  exact wpAnyS_first hi (Region.noSelect_spec h1) (by simpa using h4) h5 hQ fuel listed a w (Region.free_spec hi h2) (by simpa using h3) (closed_of h6) hy hS h

/-- Each of those that may come up. -/
def AllReadyS (P : Program) (md : Region.Mode) (ops : Array Oper) (Q : Exit → Act → World → Prop) (S : World → Prop) (L fuel : Nat) (listed : Array Bool) (a : Act) (w : World) (rs : List Nat) : Prop :=
  ∀ i ∈ rs, wpOp P ops Q i (fun a' w' => (i ≠ L → S w') ∧ wpAnyS P md ops Q S L fuel (listed.setIfInBounds i true) a' w') a w
theorem AllReadyS.nil {fuel : Nat} {listed : Array Bool} {a : Act} {w : World} : AllReadyS P md ops Q S L fuel listed a w [] := fun _ h => by cases h
theorem AllReadyS.cons {fuel : Nat} {listed : Array Bool} {a : Act} {w : World} {i : Nat} {o : Oper} {rs : List Nat} (ho : ops[i]? = some o)
    (h : ∀ K' : Act → World → Prop, Shut (∀ a w, (i ≠ L → S w) → wpAnyS P md ops Q S L fuel (listed.setIfInBounds i true) a w → K' a w) → if Region.wanted o (yielded ops a.tmps) = true then Oper.wp P o a w K' Q else K' (a.put o.dst undef) w)
    (hs : AllReadyS P md ops Q S L fuel listed a w rs) : AllReadyS P md ops Q S L fuel listed a w (i :: rs) := fun j hj => by
  rcases List.mem_cons.1 hj with rfl | hj
  · exact wpOp_step ho (fun K' hK => h K' (fun a w hS hW => hK a w ⟨hS, hW⟩))
  · exact hs j hj
theorem wpAnyS_ready {rs : List Nat} {fuel : Nat} {listed : Array Bool} {a : Act} {w : World} (hr : Region.ready md ops listed = rs) (hne : rs ≠ []) (h : AllReadyS P md ops Q S L fuel listed a w rs) : wpAnyS P md ops Q S L (fuel + 1) listed a w :=
  ⟨fun h0 => absurd (hr ▸ h0) hne, hr ▸ h⟩
theorem wpAnyS_done {listed : Array Bool} {a : Act} {w : World} (hr : Region.ready md ops listed = []) (h : Q .normal a w) : ∀ fuel, wpAnyS P md ops Q S L fuel listed a w
  | 0 => ⟨hr, h⟩
  | _ + 1 => ⟨fun _ => h, by rw [hr]; simp⟩
theorem wp_region_S {id : Nat} {a : Act} {w : World} (S : World → Prop) (L : Nat) (hm : P.follows .mixedOrders = true)
    (h : wpAnyS P .any ops Q S L ops.size (Array.replicate ops.size false) a w.drew) : (Code.region id ops true).wp P Q a w :=
  wp_region_any hm (wpAny_of_S (S := S) (L := L) _ _ _ _ h)
end
end Go.Proofs.Qxb6601640a
