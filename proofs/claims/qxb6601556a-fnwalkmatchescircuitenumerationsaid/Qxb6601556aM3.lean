/-
  What function 3 holds behind ZZWalk, and the plain facts of its checks.
-/
import Derived.Test.Qxb6601556aClosure
import Derived.Test.Qxb6601556aSrch3
import Derived.Test.Qxb6601556aSuf
namespace Go.Proofs.Qxb6601556a
open Go.RowKit
set_option linter.unusedVariables false
set_option linter.unusedSimpArgs false

section
variable {w : World} {ops : Array Oper} {rest : List Oper} {o : Oper} {a : Act} {Q : Exit → Act → World → Prop}
theorem wpList_lookok_bl (hg : o.guard = none) (m x : Operand) (hop : o.op = Op.lookup 32 m x true) (r : Nat) (M : List (Int × Bool)) (hm : a.eval m = .map (some r)) (hown : VMap w r (blV M)) (k : Int) (hx : a.eval x = .int .i64 k)
    (hK : wpList Try.prog ops Q rest (a.put o.dst (.tuple #[.bool ((Pl.get M k).getD false), .bool (Pl.get M k).isSome])) w) : wpList Try.prog ops Q (o :: rest) a w := by
  refine wpList_plain hg fun K' hK' => ?_
  have hrun := hown.lookOk (P := Try.prog) Try.underlying32 Try.underlying3 (Try.zero4 w) k
  rw [get_blV] at hrun
  have e : (Pl.get (blV M) k).isSome = (Pl.get M k).isSome := by unfold blV; rw [get_map]; cases Pl.get M k <;> rfl
  rw [e] at hrun
  unfold Oper.wp
  simp [execOp, hop, hm, hx, hrun, Result.andThen]
  exact hK' _ _ hK
theorem wpList_lookok_by (hg : o.guard = none) (m x : Operand) (hop : o.op = Op.lookup 33 m x true) (r : Nat) (M : List (Int × Value)) (hm : a.eval m = .map (some r)) (hown : VMap w r M) (k : Int) (hx : a.eval x = .int .i64 k)
    (hK : wpList Try.prog ops Q rest (a.put o.dst (.tuple #[(Pl.get M k).getD (.slice none 0 0), .bool (Pl.get M k).isSome])) w) : wpList Try.prog ops Q (o :: rest) a w := by
  refine wpList_plain hg fun K' hK' => ?_
  have hrun := hown.lookOk (P := Try.prog) Try.underlying33 Try.underlying3 (Try.zero23 w) k
  unfold Oper.wp
  simp [execOp, hop, hm, hx, hrun, Result.andThen]
  exact hK' _ _ hK
theorem wpList_len_map (hg : o.guard = none) (m : Operand) (t key elem : TypeId) (hop : o.op = Op.call { callee := Callee.builtin Builtin.len, args := #[m], argTypes := #[t] }) (ht : Try.prog.underlying t = some (.map key elem)) (r : Nat) (M : List (Int × Value)) (hm : a.eval m = .map (some r)) (hown : VMap w r M)
    (hK : wpList Try.prog ops Q rest (a.put o.dst (.int .i64 M.length)) w) : wpList Try.prog ops Q (o :: rest) a w := by
  refine wpList_plain hg fun K' hK' => ?_
  have hrun := hown.size (P := Try.prog) ht o.type
  unfold Oper.wp
  simp [execOp, hop, resolve, invoke, builtin, hm, hrun, Result.andThen]
  exact hK' _ _ hK
end

structure E3 (w : World) (R : List (List Int)) (comp : List Int) (stn : Nat) (vR vC : Value) (rv : List Value) (bm mb mB gq : Nat) (q : List Int) (s : Pl.S) (lists : List (Int × Value)) (bud : Int) (ao : Option Addr) (co : Nat) (out : List (List Int)) : Prop where
  m : MBox w bm vR vC stn R.length
  c7 : w.cell? ⟨bm, 7, none⟩ = some (.int .i64 bud)
  c8 : w.cell? ⟨bm, 8, none⟩ = some (.slice ao out.length co)
  g : Graph w vR vC rv R comp
  hb : VMap w mb (blV s.bl)
  hB : VMap w mB lists
  ks : Pl.keys lists = Pl.keys s.by_
  ls : ∀ k, OI w ((Pl.get lists k).getD (.slice none 0 0)) (Pl.wl s k)
  vi : OB w gq R.length q
theorem E3.new {w w' : World} {R : List (List Int)} {comp : List Int} {stn : Nat} {vR vC : Value} {rv : List Value} {bm mb mB gq : Nat} {q : List Int} {s : Pl.S} {lists : List (Int × Value)} {bud : Int} {ao : Option Addr} {co : Nat} {out : List (List Int)}
    (h : E3 w R comp stn vR vC rv bm mb mB gq q s lists bud ao co out) (hc : Chg (fun _ => False) w w') : E3 w' R comp stn vR vC rv bm mb mB gq q s lists bud ao co out :=
  ⟨h.m.new hc, hc.cellEq h.c7 (fun h => h), hc.cellEq h.c8 (fun h => h), h.g.new hc, h.hb.of_block (hc.block _ h.hb.lt (fun h => h)), h.hB.of_block (hc.block _ h.hB.lt (fun h => h)), h.ks, fun k => (h.ls k).chg hc (fun _ _ h => h), h.vi.chg hc (fun h => h)⟩

/-- The plain facts. -/
structure P3 (R : List (List Int)) (comp : List Int) (stn : Nat) (path : List Int) (C : List (List Int)) (v : Int) (out : List (List Int)) (fd : Bool) (s : Pl.S) (q : List Int) : Prop where
  f : Pl.Fin (ctxOf R comp stn) R.length path C v out (fd, s)
  q : ∀ z, z ∈ q ↔ Pl.VisP (ctxOf R comp stn) v C.length z

theorem edge_iff {R : List (List Int)} {comp : List Int} {stn : Nat} (D : Dom R comp stn) (x : Nat) (y : Int) : edgeB R comp stn R.length x y = true ↔ y ∈ (ctxOf R comp stn).nx (x : Int) := by
  rw [nx_eq]
  constructor
  · intro h
    simp only [edgeB, Bool.and_eq_true] at h
    have hm := hasI_true h.2
    unfold nextL
    rw [List.mem_filter]
    exact ⟨hm, by rw [← inB_okTo (D.t x y hm)]; exact h.1⟩
  · intro h
    exact edge_of_next D h

theorem isSome_keys {α β : Type} {m : List (Int × α)} {m' : List (Int × β)} (h : Pl.keys m = Pl.keys m') (k : Int) : (Pl.get m k).isSome = (Pl.get m' k).isSome := by
  have h1 := Pl.get_none_iff m k
  have h2 := Pl.get_none_iff m' k
  rw [h] at h1
  cases e1 : Pl.get m k with
  | none => rw [h2.2 (h1.1 e1)]; rfl
  | some a =>
    cases e2 : Pl.get m' k with
    | none => rw [h1.2 (h2.1 e2)] at e1; cases e1
    | some b => rfl

/-- How many of the first k ints are keys. -/
def keyN {α : Type} (m : List (Int × α)) (k : Nat) : Nat := (List.range k).countP fun i : Nat => (Pl.get m (i : Int)).isSome
theorem keyN_succ {α : Type} (m : List (Int × α)) (k : Nat) : keyN m (k + 1) = keyN m k + if (Pl.get m (k : Int)).isSome then 1 else 0 := by
  unfold keyN
  rw [List.range_succ, List.countP_append]
  simp [List.countP_cons]
theorem keyN_le {α : Type} (m : List (Int × α)) (k : Nat) : keyN m k ≤ k := by
  have := List.countP_le_length (l := List.range k) (p := fun i : Nat => (Pl.get m (i : Int)).isSome)
  simpa [keyN] using this

theorem count_eq {l : List Int} {n : Nat} {p : Nat → Bool} (hnd : l.Nodup) (hr : ∀ x ∈ l, 0 ≤ x ∧ x < (n : Int)) (hp : ∀ i, i < n → (p i = true ↔ (i : Int) ∈ l)) : (List.range n).countP p = l.length := by
  have h1 : (List.range n).countP p = ((List.range n).filter p).length := List.countP_eq_length_filter
  rw [h1]
  have hnd2 : (((List.range n).filter p).map (fun i : Nat => (i : Int))).Nodup := by
    have hs := (List.filter_sublist (p := p) (l := List.range n)).nodup List.nodup_range
    exact List.Pairwise.map _ (fun a b (hne : a ≠ b) => by intro e; exact hne (by omega)) hs
  have e1 : ((List.range n).filter p).length = (((List.range n).filter p).map (fun i : Nat => (i : Int))).length := by simp
  rw [e1]
  refine Nat.le_antisymm (hnd2.length_le_of_subset fun x hx => ?_) (hnd.length_le_of_subset fun x hx => ?_)
  · obtain ⟨i, hi, rfl⟩ := List.mem_map.1 hx
    rw [List.mem_filter] at hi
    exact (hp i (by simpa using hi.1)).1 hi.2
  · have h2 := hr x hx
    refine List.mem_map.2 ⟨x.toNat, ?_, by omega⟩
    rw [List.mem_filter]
    refine ⟨by simp; omega, (hp _ (by omega)).2 ?_⟩
    have : ((x.toNat : Nat) : Int) = x := by omega
    rw [this]; exact hx
theorem mem_keys_some {α : Type} (m : List (Int × α)) (k : Int) : (Pl.get m k).isSome = true ↔ k ∈ Pl.keys m := by
  have h1 := Pl.get_none_iff m k
  cases e : Pl.get m k with
  | none => simp [h1.1 e]
  | some a =>
    simp
    cases Classical.em (k ∈ Pl.keys m) with
    | inl h => exact h
    | inr h => rw [h1.2 h] at e; cases e
theorem keyN_all {α : Type} {m : List (Int × α)} {n : Nat} (hnd : (Pl.keys m).Nodup) (hr : ∀ x ∈ Pl.keys m, 0 ≤ x ∧ x < (n : Int)) : keyN m n = m.length := by
  have := count_eq (p := fun i : Nat => (Pl.get m (i : Int)).isSome) hnd hr (fun i _ => mem_keys_some m i)
  unfold keyN
  rw [this]; simp [Pl.keys]

section
variable {R : List (List Int)} {comp : List Int} {stn : Nat} {path : List Int} {C : List (List Int)} {v : Int} {out : List (List Int)} {fd : Bool} {s : Pl.S} {q : List Int}
theorem P3.waits (h : P3 R comp stn path C v out fd s q) (D : Dom R comp stn) (hf : fd = false) (y : Int) : waitN R comp stn q y R.length = (Pl.wl s y).length := by
  have hw := h.f.sane.wl y
  refine count_eq hw.1 hw.2 (fun i hi => ?_)
  simp only [Bool.and_eq_true]
  rw [edge_iff D]
  constructor
  · rintro ⟨h1, h2⟩
    exact h.f.lfull hf y i ((h.q _).1 (hasI_true h1)) h2
  · intro hm
    have := h.f.lists y i hm
    exact ⟨by have := (h.q (i : Int)).2 this.1; simpa [hasI] using this, this.2⟩
theorem wl_some {s : Pl.S} {y : Int} (h : 0 < (Pl.wl s y).length) : (Pl.get s.by_ y).isSome = true := by
  unfold Pl.wl at h
  cases e : Pl.get s.by_ y with
  | none => simp [e] at h
  | some a => rfl
end

end Go.Proofs.Qxb6601556a
