/-
  What the stores of 'walk' do to the search in memory: the path, the circles, a waiting list.
-/
import Derived.Test.Qxb6601556aUnblock
namespace Go.Proofs.Qxb6601556a
open Go.RowKit
set_option linter.unusedVariables false
set_option linter.unusedSimpArgs false

section
variable {I : Nat → Prop} {w w2 : World} {B : Base} {L : Lay} {start : Int} {path : List Int} {s : Pl.S}

theorem St.setPath (h : St I w B L start path s) {pv' : Value} {path' : List Int}
    (hbox : w2.heap[B.bs]? = some (.cells #[B.vR, B.vC, L.cv, .int .i64 start, pv', .map (some B.mb), .map (some B.mB)] 54 (0, 0)))
    (keep : ∀ b, b < w.heap.size → b ≠ B.bs → L.pv.ownBlock ≠ some b → w2.heap[b]? = w.heap[b]?) (hsz : w.heap.size ≤ w2.heap.size) (hoi : OI w2 pv' path')
    (hfr : ∀ b, pv'.ownBlock = some b → L.pv.ownBlock = some b ∨ w.heap.size ≤ b) :
    St I w2 B { L with pv := pv' } start path' s ∧ (∀ b, Mut B { L with pv := pv' } b → Mut B L b ∨ w.heap.size ≤ b) := by
  have hmut : ∀ b, Mut B { L with pv := pv' } b → Mut B L b ∨ w.heap.size ≤ b := by
    rintro b (hb | hb | hb | hb | hb | ⟨k, hb⟩)
    · exact .inl (.inl hb)
    · exact .inl (.inr (.inl hb))
    · exact .inl (.inr (.inr (.inl hb)))
    · rcases hfr b hb with h1 | h1
      · exact .inl (.inr (.inr (.inr (.inl h1))))
      · exact .inr h1
    · exact .inl (.inr (.inr (.inr (.inr (.inl hb)))))
    · exact .inl (.inr (.inr (.inr (.inr (.inr ⟨k, hb⟩)))))
  have kI : ∀ {v : Value} {l : List Int}, OI w v l → (∀ b, v.ownBlock = some b → L.pv.ownBlock ≠ some b) → OI w2 v l := fun ho hne =>
    ho.same fun b hb => keep b (ho.lt b hb) (fun e => ho.ne_box h.box (by rw [hb, e])) (hne b hb)
  refine ⟨⟨hbox, h.hmb.of_block (keep _ h.hmb.lt (Ne.symm (h.hmb.ne_box h.box)) (h.pth.ne_map h.hmb)), h.hmB.of_block (keep _ h.hmB.lt (Ne.symm (h.hmB.ne_box h.box)) (h.pth.ne_map h.hmB)), h.hne, h.keys, fun k => kI (h.lst k) (h.sp k), hoi,
    h.crc.same fun b hb => keep b (h.crc.lt b hb) (fun e => h.crc.ne_box h.box (by rw [hb, e])) (fun hp => h.pth.ne_ov h.crc b hp hb), h.rln, fun i hi => ?_, ?_, h.sk, ?_, ?_⟩, hmut⟩
  · refine kI (h.row i hi) fun b hb hp => ?_
    exact h.sr _ (by simp [List.getD, hi]) b hb (.inr (.inr (.inr (.inl hp))))
  · intro k b hb hp
    rcases hfr b hp with h1 | h1
    · exact h.sp k b hb h1
    · have := (h.lst k).lt b hb; omega
  · intro b hI
    have := h.si b hI
    refine ⟨by omega, fun hm => ?_⟩
    rcases hmut b hm with h1 | h1
    · exact this.2 h1
    · omega
  · intro v hv b hb hm
    rcases hmut b hm with h1 | h1
    · exact h.sr v hv b hb h1
    · obtain ⟨i, hi, rfl⟩ := List.mem_iff_getElem.1 hv
      have := (h.row i hi).lt b (by simpa [List.getD, hi] using hb)
      omega

theorem St.addCirc (h : St I w B L start path s) {cv' rv : Value} {c : List Int}
    (hbox : w2.heap[B.bs]? = some (.cells #[B.vR, B.vC, cv', .int .i64 start, L.pv, .map (some B.mb), .map (some B.mB)] 54 (0, 0)))
    (keep : ∀ b, b < w.heap.size → b ≠ B.bs → L.cv.ownBlock ≠ some b → w2.heap[b]? = w.heap[b]?) (hsz : w.heap.size ≤ w2.heap.size) (hov : OV w2 cv' (L.rows ++ [rv])) (hrv : OI w2 rv c)
    (hfr : ∀ b, cv'.ownBlock = some b → L.cv.ownBlock = some b ∨ w.heap.size ≤ b) (hrf : ∀ b, rv.ownBlock = some b → w.heap.size ≤ b) :
    St I w2 B { L with cv := cv', rows := L.rows ++ [rv] } start path { s with circ := s.circ ++ [c] } ∧ (∀ b, Mut B { L with cv := cv', rows := L.rows ++ [rv] } b → Mut B L b ∨ w.heap.size ≤ b) := by
  have hmut : ∀ b, Mut B { L with cv := cv', rows := L.rows ++ [rv] } b → Mut B L b ∨ w.heap.size ≤ b := by
    rintro b (hb | hb | hb | hb | hb | ⟨k, hb⟩)
    · exact .inl (.inl hb)
    · exact .inl (.inr (.inl hb))
    · exact .inl (.inr (.inr (.inl hb)))
    · exact .inl (.inr (.inr (.inr (.inl hb))))
    · rcases hfr b hb with h1 | h1
      · exact .inl (.inr (.inr (.inr (.inr (.inl h1)))))
      · exact .inr h1
    · exact .inl (.inr (.inr (.inr (.inr (.inr ⟨k, hb⟩)))))
  have kI : ∀ {v : Value} {l : List Int}, OI w v l → OI w2 v l := fun ho =>
    ho.same fun b hb => keep b (ho.lt b hb) (fun e => ho.ne_box h.box (by rw [hb, e])) (ho.ne_ov h.crc b hb)
  refine ⟨⟨hbox, h.hmb.of_block (keep _ h.hmb.lt (Ne.symm (h.hmb.ne_box h.box)) (h.crc.ne_map h.hmb)), h.hmB.of_block (keep _ h.hmB.lt (Ne.symm (h.hmB.ne_box h.box)) (h.crc.ne_map h.hmB)), h.hne, h.keys, fun k => kI (h.lst k), kI h.pth, hov, by simp [h.rln], fun i hi => ?_, h.sp, h.sk, ?_, ?_⟩, hmut⟩
  · have hi' : i < L.rows.length + 1 := by simpa using hi
    by_cases hlt : i < L.rows.length
    · have e1 : (L.rows ++ [rv]).getD i (.slice none 0 0) = L.rows.getD i (.slice none 0 0) := by simp [List.getD, hlt, List.getElem?_append_left]
      have e2 : (s.circ ++ [c]).getD i [] = s.circ.getD i [] := by
        have : i < s.circ.length := by rw [← h.rln]; exact hlt
        simp [List.getD, this, List.getElem?_append_left]
      show OI w2 ((L.rows ++ [rv]).getD i (.slice none 0 0)) ((s.circ ++ [c]).getD i [])
      rw [e1, e2]
      exact kI (h.row i hlt)
    · have e : i = L.rows.length := by omega
      have e1 : (L.rows ++ [rv]).getD i (.slice none 0 0) = rv := by subst e; simp [List.getD]
      have e2 : (s.circ ++ [c]).getD i [] = c := by rw [e, h.rln]; simp [List.getD]
      show OI w2 ((L.rows ++ [rv]).getD i (.slice none 0 0)) ((s.circ ++ [c]).getD i [])
      rw [e1, e2]
      exact hrv
  · intro b hI
    have := h.si b hI
    refine ⟨by omega, fun hm => ?_⟩
    rcases hmut b hm with h1 | h1
    · exact this.2 h1
    · omega
  · intro v hv b hb hm
    rcases List.mem_append.1 hv with hv | hv
    · rcases hmut b hm with h1 | h1
      · exact h.sr v hv b hb h1
      · obtain ⟨i, hi, rfl⟩ := List.mem_iff_getElem.1 hv
        have := (h.row i hi).lt b (by simpa [List.getD, hi] using hb)
        omega
    · simp only [List.mem_singleton] at hv
      subst hv
      have hge := hrf b hb
      have hne : ¬ Mut B L b := fun hm => by have := h.lt b hm; omega
      rcases hm with h1 | h1 | h1 | h1 | h1 | ⟨k, h1⟩
      · exact hne (.inl h1)
      · exact hne (.inr (.inl h1))
      · exact hne (.inr (.inr (.inl h1)))
      · exact hne (.inr (.inr (.inr (.inl h1))))
      · exact hrv.ne_ov hov b hb h1
      · exact hne (.inr (.inr (.inr (.inr (.inr ⟨k, h1⟩)))))

theorem lv_put (L : Lay) (v : Int) (u : Value) (k : Int) : lv { L with lists := Pl.put L.lists v u } k = if k = v then u else lv L k := by
  unfold lv
  simp only [Pl.get_put]
  split <;> simp

theorem St.putBy (h : St I w B L start path s) {x v : Int} {u : Value} (hm : VMap w2 B.mB (Pl.put L.lists x u)) (keep : ∀ b, b < w.heap.size → b ≠ B.mB → (lv L x).ownBlock ≠ some b → w2.heap[b]? = w.heap[b]?) (hsz : w.heap.size ≤ w2.heap.size)
    (hoi : OI w2 u (Pl.wl s x ++ [v])) (hfr : ∀ b, u.ownBlock = some b → (lv L x).ownBlock = some b ∨ w.heap.size ≤ b) :
    St I w2 B { L with lists := Pl.put L.lists x u } start path { s with by_ := Pl.put s.by_ x (Pl.wl s x ++ [v]) } ∧ (∀ b, Mut B { L with lists := Pl.put L.lists x u } b → Mut B L b ∨ w.heap.size ≤ b) := by
  have hlv := lv_put L x u
  have hwl : ∀ k, Pl.wl { s with by_ := Pl.put s.by_ x (Pl.wl s x ++ [v]) } k = if k = x then Pl.wl s x ++ [v] else Pl.wl s k := by
    intro k
    show (Pl.get (Pl.put s.by_ x (Pl.wl s x ++ [v])) k).getD [] = _
    rw [Pl.get_put]
    split
    · rfl
    · rfl
  have hmut : ∀ b, Mut B { L with lists := Pl.put L.lists x u } b → Mut B L b ∨ w.heap.size ≤ b := by
    rintro b (hb | hb | hb | hb | hb | ⟨k, hb⟩)
    · exact .inl (.inl hb)
    · exact .inl (.inr (.inl hb))
    · exact .inl (.inr (.inr (.inl hb)))
    · exact .inl (.inr (.inr (.inr (.inl hb))))
    · exact .inl (.inr (.inr (.inr (.inr (.inl hb)))))
    · rw [hlv] at hb
      split at hb
      · rcases hfr b hb with h1 | h1
        · exact .inl (.inr (.inr (.inr (.inr (.inr ⟨x, h1⟩)))))
        · exact .inr h1
      · exact .inl (.inr (.inr (.inr (.inr (.inr ⟨k, hb⟩)))))
  have kI : ∀ {v : Value} {l : List Int}, OI w v l → (∀ b, v.ownBlock = some b → (lv L x).ownBlock ≠ some b) → OI w2 v l := fun ho hne =>
    ho.same fun b hb => keep b (ho.lt b hb) (fun e => ho.ne_map h.hmB (by rw [hb, e])) (hne b hb)
  refine ⟨⟨(keep _ (h.lt _ (.inl rfl)) (h.hmB.ne_box h.box) ((h.lst x).ne_box h.box)).trans h.box, h.hmb.of_block (keep _ h.hmb.lt h.hne ((h.lst x).ne_map h.hmb)), hm, h.hne, keys_put_eq h.keys _ _ _, fun k => ?_, kI h.pth (fun b hb hx => h.sp x b hx hb),
    h.crc.same fun b hb => keep b (h.crc.lt b hb) (fun e => h.crc.ne_map h.hmB (by rw [hb, e])) (fun hp => (h.lst x).ne_ov h.crc b hp hb), h.rln, fun i hi => ?_, ?_, ?_, ?_, ?_⟩, hmut⟩
  · rw [hlv, hwl]
    split
    · exact hoi
    · rename_i hk
      exact kI (h.lst k) fun b hb hx => hk (h.sk k x b hb hx)
  · refine kI (h.row i hi) fun b hb hp => ?_
    exact h.sr _ (by simp [List.getD, hi]) b hb (.inr (.inr (.inr (.inr (.inr ⟨x, hp⟩)))))
  · intro k b hb hp
    rw [hlv] at hb
    split at hb
    · rcases hfr b hb with h1 | h1
      · exact h.sp x b h1 hp
      · have := h.pth.lt b hp; omega
    · exact h.sp k b hb hp
  · intro k k' b hb hb'
    rw [hlv] at hb hb'
    split at hb
    · rename_i e
      split at hb'
      · rename_i e'; rw [e, e']
      · rename_i e'
        rcases hfr b hb with h1 | h1
        · rw [e]; exact h.sk x k' b h1 hb'
        · have := (h.lst k').lt b hb'; omega
    · rename_i e
      split at hb'
      · rename_i e'
        rcases hfr b hb' with h1 | h1
        · rw [e']; exact h.sk k x b hb h1
        · have := (h.lst k).lt b hb; omega
      · exact h.sk k k' b hb hb'
  · intro b hI
    have := h.si b hI
    refine ⟨by omega, fun hm => ?_⟩
    rcases hmut b hm with h1 | h1
    · exact this.2 h1
    · omega
  · intro v hv b hb hm
    rcases hmut b hm with h1 | h1
    · exact h.sr v hv b hb h1
    · obtain ⟨i, hi, rfl⟩ := List.mem_iff_getElem.1 hv
      have := (h.row i hi).lt b (by simpa [List.getD, hi] using hb)
      omega
end

end Go.Proofs.Qxb6601556a
