import Derived.Test.Qxb6601556aLeaf
namespace Go.Proofs.Qxb6601556a
open Go.RowKit
set_option linter.unusedVariables false
set_option linter.unusedSimpArgs false

section
variable {w : World} {ops : Array Oper} {rest : List Oper} {o : Oper} {a : Act} {Q : Exit → Act → World → Prop}

theorem wpList_append_oi (hgd : o.guard = none) (s x : Operand) (ho : o.op = .call { callee := .builtin .append, args := #[s, x], argTypes := #[23, 23] })
    (v : Value) (l : List Int) (hs : a.eval s = v) (hoi : OI w v l) (B : Nat) (y : Int) (c : Nat) (hx : a.eval x = .slice (some ⟨B, 0, none⟩) 1 c) (hB : w.heap[B]? = some (.cells #[.int .i64 y] 3 (0, 0))) (hlen : l.length ≤ 1000000000)
    (h : ∀ g cap w', OI w' (.slice (some ⟨g, 0, none⟩) (l.length + 1) cap) (l ++ [y]) → w.grownBy w' v.ownBlock → (v.ownBlock = some g ∨ g = w.heap.size) → wpList Try.prog ops Q rest (a.put o.dst (.slice (some ⟨g, 0, none⟩) (l.length + 1) cap)) w') :
    wpList Try.prog ops Q (o :: rest) a w := by
  obtain ⟨i0, hi, hz0, hz1, hz2⟩ := info_parts Try.info3
  refine wpList_append_lies w hgd s x 23 ho 0 3 i0 (.int .i64 0) 1 8 Try.underlying23 hi hz0 hz1 hz2 rfl (by decide) v l.length (l.map (Value.int .i64)) hs hoi ⟨B, 0, none⟩ 1 c [.int .i64 y] hx rfl (World.news_of_block hB) (by intro u hu; simp at hu; subst hu; rfl) (by decide) (by unfold maxLen; omega) (by omega) (Nat.zero_le _) w.heap.size rfl ?_
  intro g cap w' h1 h2 h3 h4
  exact h g cap w' (by simpa [OI] using h1) h2 h3

theorem step_append_oi {K : Act → World → Prop} {E : Prop} (hgd : o.guard = none) (s x : Operand) (ho : o.op = .call { callee := .builtin .append, args := #[s, x], argTypes := #[23, 23] })
    (v : Value) (l : List Int) (hs : a.eval s = v) (hoi : OI w v l) (B : Nat) (y : Int) (c : Nat) (hx : a.eval x = .slice (some ⟨B, 0, none⟩) 1 c) (hB : w.heap[B]? = some (.cells #[.int .i64 y] 3 (0, 0))) (hlen : l.length ≤ 1000000000)
    (h : ∀ g cap w', OI w' (.slice (some ⟨g, 0, none⟩) (l.length + 1) cap) (l ++ [y]) → w.grownBy w' v.ownBlock → (v.ownBlock = some g ∨ g = w.heap.size) → K (a.put o.dst (.slice (some ⟨g, 0, none⟩) (l.length + 1) cap)) w') :
    if Region.wanted o (yielded ops a.tmps) = true then Oper.wp Try.prog o a w K Q else E := by
  obtain ⟨i0, hi, hz0, hz1, hz2⟩ := info_parts Try.info3
  refine step_append_lies w hgd s x 23 ho 0 3 i0 (.int .i64 0) 1 8 Try.underlying23 hi hz0 hz1 hz2 rfl (by decide) v l.length (l.map (Value.int .i64)) hs hoi ⟨B, 0, none⟩ 1 c [.int .i64 y] hx rfl (World.news_of_block hB) (by intro u hu; simp at hu; subst hu; rfl) (by decide) (by unfold maxLen; omega) (by omega) (Nat.zero_le _) w.heap.size rfl ?_
  intro g cap w' h1 h2 h3 h4
  exact h g cap w' (by simpa [OI] using h1) h2 h3

theorem step_append_ov {K : Act → World → Prop} {E : Prop} (hgd : o.guard = none) (s x : Operand) (ho : o.op = .call { callee := .builtin .append, args := #[s, x], argTypes := #[22, 22] })
    (v : Value) (l : List Value) (hs : a.eval s = v) (hoi : OV w v l) (B : Nat) (y : Value) (hy : y.oneCell' = true) (c : Nat) (hx : a.eval x = .slice (some ⟨B, 0, none⟩) 1 c) (hB : w.heap[B]? = some (.cells #[y] 23 (0, 0))) (hlen : l.length ≤ 1000000000)
    (h : ∀ g cap w', OV w' (.slice (some ⟨g, 0, none⟩) (l.length + 1) cap) (l ++ [y]) → w.grownBy w' v.ownBlock → (v.ownBlock = some g ∨ g = w.heap.size) → K (a.put o.dst (.slice (some ⟨g, 0, none⟩) (l.length + 1) cap)) w') :
    if Region.wanted o (yielded ops a.tmps) = true then Oper.wp Try.prog o a w K Q else E := by
  obtain ⟨i0, hi, hz0, hz1, hz2⟩ := info_parts Try.info23
  refine step_append_lies w hgd s x 22 ho 0 23 i0 (.slice none 0 0) 1 24 Try.underlying22 hi hz0 hz1 hz2 rfl (by decide) v l.length l hs hoi ⟨B, 0, none⟩ 1 c [y] hx rfl (World.news_of_block hB) (by intro u hu; simp at hu; subst hu; exact hy) (by decide) (by unfold maxLen; omega) (by omega) (Nat.zero_le _) w.heap.size rfl ?_
  intro g cap w' h1 h2 h3 h4
  exact h g cap w' (by simpa [OV] using h1) h2 h3

/-- 'append([]int(nil), path...)': a copy of the path in a block of its own. -/
theorem step_append_copy {K : Act → World → Prop} {E : Prop} (hgd : o.guard = none) (s x : Operand) (ho : o.op = .call { callee := .builtin .append, args := #[s, x], argTypes := #[23, 23] })
    (hs : a.eval s = .slice none 0 0) (g0 cap0 : Nat) (l : List Int) (hx : a.eval x = .slice (some ⟨g0, 0, none⟩) l.length cap0) (hoi : OI w (.slice (some ⟨g0, 0, none⟩) l.length cap0) l) (h0 : 0 < l.length) (hlen : l.length ≤ 1000000000)
    (h : ∀ cap w', OI w' (.slice (some ⟨w.heap.size, 0, none⟩) l.length cap) l → w.grownBy w' none → K (a.put o.dst (.slice (some ⟨w.heap.size, 0, none⟩) l.length cap)) w') :
    if Region.wanted o (yielded ops a.tmps) = true then Oper.wp Try.prog o a w K Q else E := by
  obtain ⟨i0, hi, hz0, hz1, hz2⟩ := info_parts Try.info3
  have hsh := ownsRow_shape hoi
  obtain ⟨aa, cap, e1, _, _, _, _, hc⟩ := hsh
  refine step_append_lies w hgd s x 23 ho 0 3 i0 (.int .i64 0) 1 8 Try.underlying23 hi hz0 hz1 hz2 rfl (by decide) (.slice none 0 0) 0 [] hs (World.ownsRow_nil w 0 3 1) ⟨g0, 0, none⟩ l.length cap0 (l.map (Value.int .i64)) hx (by simp) ?_ (ints_oneCell .i64 l) h0 (by unfold maxLen; omega) (by omega) (Nat.zero_le _) w.heap.size rfl ?_
  · intro j u hu
    obtain ⟨g, hg, hcell⟩ := hc j u hu
    cases e1
    cases hg
    simpa [Addr.add_lit] using hcell
  · intro g cap w' h1 h2 h3 h4
    rcases h3 with h3 | rfl
    · cases h3
    · rw [Nat.zero_add] at h1 ⊢
      exact h cap w' (by simpa [OI] using h1) h2
end

end Go.Proofs.Qxb6601556a
