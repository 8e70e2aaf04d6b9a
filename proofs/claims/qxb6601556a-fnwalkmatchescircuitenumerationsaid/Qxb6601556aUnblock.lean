import Derived.Test.Qxb6601556aState
namespace Go.Proofs.Qxb6601556a
open Go.RowKit
set_option linter.unusedVariables false
set_option linter.unusedSimpArgs false

/-- Only the two maps have turned. -/
def OnlyMaps (B : Base) (b : Nat) : Prop := b = B.mb ∨ b = B.mB

def unbFold (f : Nat) (s : Pl.S) (v : Int) (k : Nat) : Pl.S := ((Pl.wl s v).take k).foldl (fun s w => if Pl.isB s w then Pl.unb f s w else s) (Pl.free s v)

theorem unbFold_succ (f : Nat) (s : Pl.S) (v : Int) (k : Nat) (h : k < (Pl.wl s v).length) :
    unbFold f s v (k + 1) = if Pl.isB (unbFold f s v k) ((Pl.wl s v).getD k 0) then Pl.unb f (unbFold f s v k) ((Pl.wl s v).getD k 0) else unbFold f s v k := by
  unfold unbFold
  rw [List.take_succ_eq_append_getElem h, List.foldl_append]
  simp [h]
theorem unbFold_all (f : Nat) (s : Pl.S) (v : Int) : unbFold f s v (Pl.wl s v).length = Pl.unb (f + 1) s v := by
  unfold unbFold
  rw [List.take_length]; rfl
theorem unbFold_sane {n : Int} (f : Nat) (s : Pl.S) (v : Int) (k : Nat) (hs : Pl.Sane n s) (hv : 0 ≤ v ∧ v < n) : Pl.Sane n (unbFold f s v k) := by
  unfold unbFold
  refine Pl.foldl_inv_mem (P := fun t : Pl.S => Pl.Sane n t) _ _ _ (fun t w hw ht => ?_) (hs.free hv)
  split
  · exact Pl.Sane.unb _ _ _ ht ((hs.wl v).2 w (List.mem_of_mem_take hw))
  · exact ht
theorem unbFold_cnt (f : Nat) (s : Pl.S) (v : Int) (k : Nat) : Pl.cnt (unbFold f s v k).bl ≤ Pl.cnt (Pl.put s.bl v false) := by
  unfold unbFold
  refine Pl.foldl_inv (P := fun t : Pl.S => Pl.cnt t.bl ≤ Pl.cnt (Pl.put s.bl v false)) _ (fun t w ht => ?_) _ _ (Nat.le_refl _)
  split
  · exact Nat.le_trans (Pl.cnt_unb_le _ _ _) ht
  · exact ht

def UnbC (N f : Nat) : Prop := ∀ (I : Nat → Prop) (B : Base) (L : Lay) (start : Int) (path : List Int) (s : Pl.S) (v : Int) (w : World), St I w B L start path s → Pl.Sane N s → 0 ≤ v ∧ v < (N : Int) → Pl.cnt (Pl.put s.bl v false) ≤ f →
    Calls Try.prog 29 #[.pointer (some ⟨B.bs, 0, none⟩), .int .i64 v] w fun e w' => e = .returned (.tuple #[]) ∧ ∃ lists', St I w' B { L with lists := lists' } start path (Pl.unb (f + 1) s v) ∧ Chg (OnlyMaps B) w w' ∧
      (∀ b, Mut B { L with lists := lists' } b → Mut B L b)

theorem only_trans {B : Base} {w0 w1 w2 : World} {r : Nat} (h : Chg (OnlyMaps B) w0 w1) (hg : w1.grownBy w2 (some r)) (hr : r = B.mb ∨ r = B.mB) : Chg (OnlyMaps B) w0 w2 :=
  h.grown hg (fun k _ e => by cases e; exact hr)

set_option maxHeartbeats 1000000 in
theorem unblock_step (N : Nat) (hN : N ≤ 256) (f : Nat) (ih : ∀ f', f = f' + 1 → UnbC N f') : UnbC N f := by
  intro I B L start path s v w hst hsane hv hcnt
  have IH := hideP ih
  clear ih
  obtain ⟨c0, c1, c2, c3, c4, c5, c6, fz⟩ := hst.cell
  clear c0 c1 c2 c3 c4 fz
  obtain ⟨aw, cw, hlvq, hw1, hw2, hw3, hw4, hw5⟩ := (hst.lst v).shape
  have HL := hideP hlvq
  have HS := hsane.wl v
  have hwlen : (Pl.wl s v).length ≤ N := Pl.nodup_bound HS.1 HS.2
  have HB : ∀ b, (lv L v).ownBlock = some b → ¬ OnlyMaps B b := by
    intro b hb h
    rcases h with rfl | rfl
    · exact (hst.lst v).ne_map hst.hmb hb
    · exact (hst.lst v).ne_map hst.hmB hb
  have HOI := hst.lst v
  rw [hlvq] at HB HOI
  clear hlvq hw3 hw4
  go_enter Try.func29, Try.ntmps29
  go_wp2_with (first
    | (at_mapUpdate; refine wpList_store_v rfl _ _ _ 32 rfl 3 4 Try.underlying32 Try.underlying3 B.mb _ rfl hst.hmb v (.bool false) rfl rfl ?_; intro w1 hv1 hg1 hz1; have hst1 := hst.setBl v false hv1 hg1; have hch1 := only_trans (Chg.refl (OnlyMaps B) w) hg1 (.inl rfl); obtain ⟨_, _, _, _, _, c51, c61, _⟩ := hst1.cell; clear c5 c6 hv1 hg1)
    | (at_lookup; refine wpList_look_by rfl _ _ rfl B.mB L rfl hst1.hmB v rfl ?_; rw [HL.out])
    | (at_delete; refine wpList_drop_v rfl _ _ 33 3 rfl 23 Try.underlying33 Try.underlying3 B.mB _ rfl hst1.hmB v rfl ?_; intro w2 hv2 hg2 hz2; have hst2 := hst1.delBy hsane.ky v hv2 hg2; have hch2 := only_trans hch1 hg2 (.inr rfl); clear c51 c61 hv2 hg2 hst1 hch1))
  go_loopw [25, 6] (fun i _ wr => ∃ k : Nat, ∃ ls : List (Int × Value), k ≤ (Pl.wl s v).length ∧ i = .int .i64 k ∧ St I wr B { L with lists := ls } start path (unbFold f s v k) ∧ Chg (OnlyMaps B) w wr ∧ (∀ b, Mut B { L with lists := ls } b → Mut B L b)) (fun i _ _ => (Pl.wl s v).length - (intOf i).toNat)
  case atStart => exact ⟨0, _, Nat.zero_le _, rfl, hst2, hch2, fun b hb => Mut_del (by rw [hst.keys]; exact hsane.ky) hb⟩
  case round =>
    obtain ⟨k, ls, hk, rfl, hstk, hchk, hmut⟩ := hrel
    clear hst2 hch2
    by_cases hlt : k < (Pl.wl s v).length
    · have hoi := HOI.chg hchk HB
      obtain ⟨g, cap, hsl, hg, hcells⟩ := hoi.at k hlt
      cases hsl
      have hcell := hcells k hlt
      have HF := hideP (unbFold_succ f s v k hlt)
      have hsk := unbFold_sane f s v k hsane hv
      have hck := unbFold_cnt f s v k
      obtain ⟨_, _, _, _, _, c5, c6, _⟩ := hstk.cell
      have hxr : 0 ≤ (Pl.wl s v).getD k 0 ∧ (Pl.wl s v).getD k 0 < (N : Int) := HS.2 _ (by simp [hlt])
      clear hcells hoi
      generalize hx : (Pl.wl s v).getD k 0 = x at *
      clear hx
      generalize ht : unbFold f s v k = t at *
      clear ht
      by_cases hbx : Pl.isB t x = true
      · obtain ⟨f', rfl⟩ : ∃ f', f = f' + 1 := by
          have := Pl.cnt_put_false_lt _ _ (Pl.isB_true hbx)
          exact ⟨f - 1, by omega⟩
        have hcx : Pl.cnt (Pl.put t.bl x false) ≤ f' := by
          have := Pl.cnt_put_false_lt _ _ (Pl.isB_true hbx)
          omega
        go_wp2_with (first
          | (at_lookup; refine wpList_look_bl rfl _ _ rfl B.mb t rfl hstk.hmb x rfl ?_; rw [hbx])
          | (go_at_call 29; refine (IH.out f' rfl I B { L with lists := ls } start path t x _ hstk hsk hxr hcx).mono ?_; rintro e w' ⟨rfl, ls', hst', hch', hm'⟩))
        go_roundw
        case rel =>
          refine ⟨k + 1, ls', by omega, by go_num, ?_, hchk.trans hch' (fun i _ h => h), fun b hb => hmut b (hm' b hb)⟩
          rw [HF.out, if_pos hbx]; exact hst'
        case measure => simp [intOf]; omega
      · have hbx' : Pl.isB t x = false := by simpa using hbx
        go_wp2_with (first
          | (at_lookup; refine wpList_look_bl rfl _ _ rfl B.mb t rfl hstk.hmb x rfl ?_; rw [hbx']))
        go_roundw
        case rel =>
          refine ⟨k + 1, ls, by omega, by go_num, ?_, hchk, hmut⟩
          rw [HF.out, if_neg hbx]; exact hstk
        case measure => simp [intOf]; omega
    · go_wp2_with fail
      go_end0
      refine ⟨rfl, ls, ?_, hchk, hmut⟩
      have : k = (Pl.wl s v).length := by omega
      rw [← unbFold_all, ← this]; exact hstk

theorem unblock_any (N : Nat) (hN : N ≤ 256) (f : Nat) : UnbC N f := by
  induction f with
  | zero => exact unblock_step N hN 0 (fun f' h => by omega)
  | succ f ih => exact unblock_step N hN (f + 1) (fun f' h => by cases h; exact ih)

end Go.Proofs.Qxb6601556a
