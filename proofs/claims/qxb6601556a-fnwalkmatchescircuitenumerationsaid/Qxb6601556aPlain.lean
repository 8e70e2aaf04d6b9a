/-
  The plain model of lint's circle search (walk, unblock), no Go in sight; its first laws.
-/
namespace Go.Proofs.Qxb6601556a.Pl
set_option linter.unusedVariables false
set_option linter.unusedSimpArgs false

/-! ### A finite map as an association list, in the order of first insertion -/
section
variable {α : Type}
def get : List (Int × α) → Int → Option α
  | [], _ => none
  | (a, b) :: r, k => if a = k then some b else get r k
def put : List (Int × α) → Int → α → List (Int × α)
  | [], k, v => [(k, v)]
  | (a, b) :: r, k, v => if a = k then (a, v) :: r else (a, b) :: put r k v
def del : List (Int × α) → Int → List (Int × α)
  | [], _ => []
  | (a, b) :: r, k => if a = k then r else (a, b) :: del r k
def keys (m : List (Int × α)) : List Int := m.map (·.1)

theorem get_put_same (m : List (Int × α)) (k : Int) (v : α) : get (put m k v) k = some v := by
  induction m with
  | nil => simp [put, get]
  | cons p r ih =>
    obtain ⟨a, b⟩ := p
    by_cases h : a = k
    · simp [put, get, h]
    · simp [put, get, h, ih]
theorem get_put_other (m : List (Int × α)) (k x : Int) (v : α) (hx : x ≠ k) : get (put m k v) x = get m x := by
  induction m with
  | nil => simp [put, get, Ne.symm hx]
  | cons p r ih =>
    obtain ⟨a, b⟩ := p
    by_cases h : a = k
    · subst h; simp [put, get, Ne.symm hx]
    · simp [put, get, h, ih]
theorem get_put (m : List (Int × α)) (k x : Int) (v : α) : get (put m k v) x = if x = k then some v else get m x := by
  split
  · rename_i h; subst h; exact get_put_same _ _ _
  · rename_i h; exact get_put_other _ _ _ _ h
theorem get_del_other (m : List (Int × α)) (k x : Int) (hx : x ≠ k) : get (del m k) x = get m x := by
  induction m with
  | nil => simp [del, get]
  | cons p r ih =>
    obtain ⟨a, b⟩ := p
    by_cases h : a = k
    · subst h; simp [del, get, Ne.symm hx]
    · simp [del, get, h, ih]
theorem get_none_iff (m : List (Int × α)) (k : Int) : get m k = none ↔ k ∉ keys m := by
  induction m with
  | nil => simp [get, keys]
  | cons p r ih =>
    obtain ⟨a, b⟩ := p
    by_cases h : a = k
    · simp [get, keys, h]
    · simp [get, h, ih, keys, Ne.symm h]
theorem get_some_mem {m : List (Int × α)} {k : Int} {v : α} (h : get m k = some v) : (k, v) ∈ m := by
  induction m with
  | nil => simp [get] at h
  | cons p r ih =>
    obtain ⟨a, b⟩ := p
    by_cases e : a = k
    · subst e; simp [get] at h; subst h; simp
    · simp [get, e] at h; exact List.mem_cons_of_mem _ (ih h)
theorem get_of_mem {m : List (Int × α)} {k : Int} {v : α} (hn : (keys m).Nodup) (h : (k, v) ∈ m) : get m k = some v := by
  induction m with
  | nil => simp at h
  | cons p r ih =>
    obtain ⟨a, b⟩ := p
    simp only [keys, List.map_cons, List.nodup_cons] at hn
    rcases List.mem_cons.1 h with h | h
    · cases h; simp [get]
    · have : a ≠ k := by
        intro e; subst e
        exact hn.1 (List.mem_map.2 ⟨_, h, rfl⟩)
      simp [get, this]; exact ih hn.2 h
theorem get_del_same (m : List (Int × α)) (k : Int) (hn : (keys m).Nodup) : get (del m k) k = none := by
  induction m with
  | nil => simp [del, get]
  | cons p r ih =>
    obtain ⟨a, b⟩ := p
    simp only [keys, List.map_cons, List.nodup_cons] at hn
    by_cases h : a = k
    · subst h; simp only [del, if_true]; exact (get_none_iff _ _).2 hn.1
    · simp [del, get, h]; exact ih hn.2
theorem mem_keys_put (m : List (Int × α)) (k x : Int) (v : α) : x ∈ keys (put m k v) ↔ x = k ∨ x ∈ keys m := by
  induction m with
  | nil => simp [put, keys]
  | cons p r ih =>
    obtain ⟨a, b⟩ := p
    by_cases h : a = k
    · subst h; simp [put, keys]
    · simp only [put, h, if_false, keys, List.map_cons, List.mem_cons] at ih ⊢
      rw [ih]
      constructor <;> (rintro (h | h | h) <;> simp [h])
theorem mem_keys_del {m : List (Int × α)} {k x : Int} (h : x ∈ keys (del m k)) : x ∈ keys m := by
  induction m with
  | nil => simp [del, keys] at h
  | cons p r ih =>
    obtain ⟨a, b⟩ := p
    by_cases e : a = k
    · simp [del, e] at h; simp [keys] at h ⊢; exact .inr h
    · simp only [del, e, if_false, keys, List.map_cons, List.mem_cons] at h ⊢
      rcases h with h | h
      · exact .inl h
      · exact .inr (ih h)
theorem nodup_put {m : List (Int × α)} (k : Int) (v : α) (h : (keys m).Nodup) : (keys (put m k v)).Nodup := by
  induction m with
  | nil => simp [put, keys]
  | cons p r ih =>
    obtain ⟨a, b⟩ := p
    simp only [keys, List.map_cons, List.nodup_cons] at h
    by_cases e : a = k
    · simp [put, e, keys]; subst e; simpa [keys] using h
    · simp only [put, e, if_false, keys, List.map_cons, List.nodup_cons]
      refine ⟨fun hm => ?_, ih h.2⟩
      rcases (mem_keys_put r k a v).1 hm with h' | h'
      · exact e h'
      · exact h.1 h'
theorem nodup_del {m : List (Int × α)} (k : Int) (h : (keys m).Nodup) : (keys (del m k)).Nodup := by
  induction m with
  | nil => simp [del, keys]
  | cons p r ih =>
    obtain ⟨a, b⟩ := p
    simp only [keys, List.map_cons, List.nodup_cons] at h
    by_cases e : a = k
    · simp [del, e]; exact h.2
    · simp only [del, e, if_false, keys, List.map_cons, List.nodup_cons]
      exact ⟨fun hm => h.1 (mem_keys_del hm), ih h.2⟩
theorem mem_put {m : List (Int × α)} {k : Int} {v : α} {p : Int × α} (h : p ∈ put m k v) : p = (k, v) ∨ p ∈ m := by
  induction m with
  | nil => simp [put] at h; exact .inl h
  | cons q r ih =>
    obtain ⟨a, b⟩ := q
    by_cases e : a = k
    · subst e; simp [put] at h; rcases h with h | h
      · exact .inl h
      · exact .inr (List.mem_cons_of_mem _ h)
    · simp [put, e] at h; rcases h with h | h
      · exact .inr (by simp [h])
      · rcases ih h with h | h
        · exact .inl h
        · exact .inr (List.mem_cons_of_mem _ h)
theorem mem_del {m : List (Int × α)} {k : Int} {p : Int × α} (h : p ∈ del m k) : p ∈ m := by
  induction m with
  | nil => simp [del] at h
  | cons q r ih =>
    obtain ⟨a, b⟩ := q
    by_cases e : a = k
    · simp [del, e] at h; exact List.mem_cons_of_mem _ h
    · simp [del, e] at h; rcases h with h | h
      · simp [h]
      · exact List.mem_cons_of_mem _ (ih h)
end

/-! ### The search -/
structure Ctx where
  nx : Int → List Int
  start : Int
structure S where
  circ : List (List Int)
  bl : List (Int × Bool)
  by_ : List (Int × List Int)

def isB (s : S) (x : Int) : Bool := (get s.bl x).getD false
def wl (s : S) (x : Int) : List Int := (get s.by_ x).getD []
def cnt (m : List (Int × Bool)) : Nat := m.countP (·.2)
def setB (s : S) (v : Int) (b : Bool) : S := { s with bl := put s.bl v b }
def free (s : S) (v : Int) : S := { s with bl := put s.bl v false, by_ := del s.by_ v }

def unb : Nat → S → Int → S
  | 0, s, _ => s
  | f + 1, s, v => (wl s v).foldl (fun s w => if isB s w then unb f s w else s) (free s v)
def unbD (s : S) (v : Int) : S := unb (cnt (put s.bl v false) + 1) s v
def wait1 (v : Int) (s : S) (w : Int) : S := if (wl s w).contains v then s else { s with by_ := put s.by_ w (wl s w ++ [v]) }
def step (c : Ctx) (rec : S → Int → Bool × S) (p : List Int) (a : Bool × S) (w : Int) : Bool × S :=
  if 64 ≤ a.2.circ.length then a
  else if w = c.start then (true, { a.2 with circ := a.2.circ ++ [p ++ [c.start]] })
  else if isB a.2 w then a
  else ((rec a.2 w).1 || a.1, (rec a.2 w).2)
def wk (c : Ctx) : Nat → List Int → S → Int → Bool × S
  | 0, _, s, v => (false, setB s v true)
  | f + 1, p, s, v =>
    let r := (c.nx v).foldl (step c (wk c f (p ++ [v])) (p ++ [v])) (false, setB s v true)
    if r.1 then (true, unbD r.2 v) else (false, (c.nx v).foldl (wait1 v) r.2)

/-! ### Counting what is blocked -/
theorem cnt_put_false_le (m : List (Int × Bool)) (k : Int) : cnt (put m k false) ≤ cnt m := by
  induction m with
  | nil => simp [put, cnt]
  | cons p r ih =>
    obtain ⟨a, b⟩ := p
    by_cases h : a = k
    · simp [put, h, cnt, List.countP_cons]
    · simp [put, h, cnt, List.countP_cons] at ih ⊢; omega
theorem cnt_put_false_lt (m : List (Int × Bool)) (k : Int) (h : get m k = some true) : cnt (put m k false) + 1 = cnt m := by
  induction m with
  | nil => simp [get] at h
  | cons p r ih =>
    obtain ⟨a, b⟩ := p
    by_cases e : a = k
    · simp [get, e] at h; subst h; simp [put, e, cnt, List.countP_cons]
    · simp [get, e] at h
      have := ih h
      simp [put, e, cnt, List.countP_cons] at this ⊢; omega
theorem isB_true {s : S} {x : Int} (h : isB s x = true) : get s.bl x = some true := by
  unfold isB at h
  cases hg : get s.bl x with
  | none => simp [hg] at h
  | some b => simp [hg] at h; rw [h]

theorem foldl_inv {α β : Type} {P : β → Prop} (f : β → α → β) (hf : ∀ b a, P b → P (f b a)) : ∀ (l : List α) (b : β), P b → P (l.foldl f b)
  | [], b, h => h
  | a :: l, b, h => foldl_inv f hf l _ (hf b a h)
theorem foldl_inv_mem {α β : Type} {P : β → Prop} (f : β → α → β) : ∀ (l : List α) (b : β), (∀ b a, a ∈ l → P b → P (f b a)) → P b → P (l.foldl f b)
  | [], b, _, h => h
  | a :: l, b, hf, h => foldl_inv_mem f l _ (fun b x hx => hf b x (List.mem_cons_of_mem _ hx)) (hf b a (List.mem_cons_self ..) h)

theorem cnt_unb_le (f : Nat) : ∀ (s : S) (v : Int), cnt (unb f s v).bl ≤ cnt s.bl := by
  induction f with
  | zero => intro s v; exact Nat.le_refl _
  | succ f ih =>
    intro s v
    unfold unb
    refine foldl_inv (P := fun t : S => cnt t.bl ≤ cnt s.bl) _ (fun t w ht => ?_) _ _ (cnt_put_false_le _ _)
    split
    · exact Nat.le_trans (ih t w) ht
    · exact ht

theorem circ_unb (f : Nat) : ∀ (s : S) (v : Int), (unb f s v).circ = s.circ := by
  induction f with
  | zero => intro s v; rfl
  | succ f ih =>
    intro s v
    unfold unb
    refine foldl_inv (P := fun t : S => t.circ = s.circ) _ (fun t w ht => ?_) _ _ rfl
    split
    · exact (ih t w).trans ht
    · exact ht

/-! ### What a state keeps: keys below n, none twice, lists without repeats -/
structure Sane (n : Int) (s : S) : Prop where
  kb : (keys s.bl).Nodup
  ky : (keys s.by_).Nodup
  rb : ∀ k ∈ keys s.bl, 0 ≤ k ∧ k < n
  ry : ∀ k ∈ keys s.by_, 0 ≤ k ∧ k < n
  ly : ∀ p ∈ s.by_, p.2.Nodup ∧ ∀ x ∈ p.2, 0 ≤ x ∧ x < n
theorem Sane.wl {n : Int} {s : S} (h : Sane n s) (x : Int) : (wl s x).Nodup ∧ ∀ y ∈ wl s x, 0 ≤ y ∧ y < n := by
  unfold Pl.wl
  cases hg : get s.by_ x with
  | none => simp
  | some l => simpa using h.ly _ (get_some_mem hg)
theorem Sane.setB {n : Int} {s : S} (h : Sane n s) {v : Int} (hv : 0 ≤ v ∧ v < n) (b : Bool) : Sane n (setB s v b) :=
  ⟨nodup_put _ _ h.kb, h.ky, fun k hk => by
    rcases (mem_keys_put _ _ _ _).1 hk with rfl | hk
    · exact hv
    · exact h.rb k hk, h.ry, h.ly⟩
theorem Sane.free {n : Int} {s : S} (h : Sane n s) {v : Int} (hv : 0 ≤ v ∧ v < n) : Sane n (free s v) :=
  ⟨nodup_put _ _ h.kb, nodup_del _ h.ky, fun k hk => by
    rcases (mem_keys_put _ _ _ _).1 hk with rfl | hk
    · exact hv
    · exact h.rb k hk, fun k hk => h.ry k (mem_keys_del hk), fun p hp => h.ly p (mem_del hp)⟩
theorem Sane.unb {n : Int} (f : Nat) : ∀ (s : S) (v : Int), Sane n s → 0 ≤ v ∧ v < n → Sane n (unb f s v) := by
  induction f with
  | zero => intro s v h _; exact h
  | succ f ih =>
    intro s v h hv
    unfold Pl.unb
    refine foldl_inv_mem (P := fun t : S => Sane n t) _ _ _ (fun t w hw ht => ?_) (h.free hv)
    split
    · exact ih t w ht ((h.wl v).2 w hw)
    · exact ht
theorem Sane.wait1 {n : Int} {s : S} (h : Sane n s) {v w : Int} (hv : 0 ≤ v ∧ v < n) (hw : 0 ≤ w ∧ w < n) : Sane n (wait1 v s w) := by
  unfold Pl.wait1
  split
  · exact h
  · rename_i hc
    have hwl := h.wl w
    refine ⟨h.kb, nodup_put _ _ h.ky, h.rb, fun k hk => ?_, fun p hp => ?_⟩
    · rcases (mem_keys_put _ _ _ _).1 hk with rfl | hk
      · exact hw
      · exact h.ry k hk
    · rcases mem_put hp with rfl | hp
      · refine ⟨?_, fun x hx => ?_⟩
        · rw [List.nodup_append]
          refine ⟨hwl.1, by simp, fun a ha b hb => ?_⟩
          simp at hb; subst hb
          intro e; subst e
          simp [ha] at hc
        · rcases List.mem_append.1 hx with hx | hx
          · exact hwl.2 x hx
          · simp at hx; subst hx; exact hv
      · exact h.ly p hp
theorem nodup_bound {n : Nat} {l : List Int} (h : l.Nodup) (hl : ∀ x ∈ l, 0 ≤ x ∧ x < (n : Int)) : l.length ≤ n := by
  have hs : l ⊆ (List.range n).map (fun i : Nat => (i : Int)) := by
    intro x hx
    have := hl x hx
    exact List.mem_map.2 ⟨x.toNat, by simp; omega, by omega⟩
  have := h.length_le_of_subset hs
  simpa using this

def CtxOk (n : Int) (c : Ctx) : Prop := ∀ v, ∀ w ∈ c.nx v, 0 ≤ w ∧ w < n

theorem Sane.wk {n : Int} {c : Ctx} (hc : CtxOk n c) (f : Nat) : ∀ (p : List Int) (s : S) (v : Int), Sane n s → 0 ≤ v ∧ v < n → Sane n (wk c f p s v).2 := by
  induction f with
  | zero => intro p s v h hv; exact h.setB hv _
  | succ f ih =>
    intro p s v h hv
    unfold Pl.wk
    have hl : Sane n ((c.nx v).foldl (Pl.step c (Pl.wk c f (p ++ [v])) (p ++ [v])) (false, Pl.setB s v true)).2 := by
      refine foldl_inv_mem (P := fun t : Bool × S => Sane n t.2) _ _ _ (fun t w hw ht => ?_) (h.setB hv _)
      unfold Pl.step
      split
      · exact ht
      · split
        · exact ⟨ht.kb, ht.ky, ht.rb, ht.ry, ht.ly⟩
        · split
          · exact ht
          · exact ih _ _ _ ht (hc v w hw)
    simp only
    split
    · exact Sane.unb _ _ _ hl hv
    · exact foldl_inv_mem (P := fun t : S => Sane n t) _ _ _ (fun t w hw ht => ht.wait1 hv (hc v w hw)) hl

end Go.Proofs.Qxb6601556a.Pl
