/-
  counters.addWords 32, o's fields narrower than c's.
-/
import Derived.Test.Qxb6601640aAW
import Derived.Test.Qxb6601640aOrders
namespace Go.Proofs.Qxb6601640a
open Go.RowKit
set_option linter.unusedVariables false
set_option linter.unusedSimpArgs false

/-- o's word for c's word t, of narrower fields, ad counts on. -/
def ynar (Wo W p : Nat) (lo : List Nat) (ad : Int) (t : Nat) : Nat :=
  wide Wo W (lo.getD ((((t * p : Nat) : Int) + ad).toNat * Wo / 64) 0 / 2 ^ ((((t * p : Nat) : Int) + ad).toNat * Wo % 64)) p

theorem Nar.le {b1 W1 b2 W2 p2 : Nat} (h : Nar b1 W1 b2 W2 p2) : W1 ≤ W2 := by
  rcases h with ⟨rfl, rfl, rfl, rfl, rfl⟩ | ⟨rfl, rfl, rfl, rfl, rfl⟩ | ⟨rfl, rfl, rfl, rfl, rfl⟩ | ⟨rfl, rfl, rfl, rfl, rfl⟩ | ⟨rfl, rfl, rfl, rfl, rfl⟩ | ⟨rfl, rfl, rfl, rfl, rfl⟩ <;> decide
theorem Nar.wp {b1 W1 b2 W2 p2 : Nat} (h : Nar b1 W1 b2 W2 p2) : W2 * p2 = 64 := by
  rcases h with ⟨rfl, rfl, rfl, rfl, rfl⟩ | ⟨rfl, rfl, rfl, rfl, rfl⟩ | ⟨rfl, rfl, rfl, rfl, rfl⟩ | ⟨rfl, rfl, rfl, rfl, rfl⟩ | ⟨rfl, rfl, rfl, rfl, rfl⟩ | ⟨rfl, rfl, rfl, rfl, rfl⟩ <;> decide
theorem ynar_lt {bo Wo b W p : Nat} (h : Nar bo Wo b W p) (lo : List Nat) (ad : Int) (t : Nat) : ynar Wo W p lo ad t < 18446744073709551616 := by
  have := wide_lt h.le (lo.getD ((((t * p : Nat) : Int) + ad).toNat * Wo / 64) 0 / 2 ^ ((((t * p : Nat) : Int) + ad).toNat * Wo % 64)) p
  rw [h.wp] at this
  exact this

theorem Fld.nums {full b pl W p B T : Nat} (hL : Lay full b pl W) (hF : Fld b W p B T) : bits BinOp.and IntKind.u8 (pl : Int) 3 = (pl : Int) ∧ ((2 : Int) ^ pl = (p : Int)) ∧ pl ≤ 3 ∧ b ≤ 6 ∧ 1 ≤ p ∧ p ≤ 8 ∧ 8 ≤ W ∧ W ≤ 64 := by
  obtain ⟨-, rfl, rfl⟩ := hL
  rcases hF with ⟨rfl, rfl, rfl, rfl, rfl⟩ | ⟨rfl, rfl, rfl, rfl, rfl⟩ | ⟨rfl, rfl, rfl, rfl, rfl⟩ | ⟨rfl, rfl, rfl, rfl, rfl⟩ <;> decide

/-- What region 18's loads read. -/
def AwS (fb c B T d u b : Nat) (w' : World) : Prop := w'.cell? ⟨fb, 0, none⟩ = some (.int .u64 (B : Int)) ∧ w'.cell? ⟨fb, 1, none⟩ = some (.int .u64 (T : Int)) ∧ w'.cell? ⟨fb, 2, none⟩ = some (.int .u64 (d : Int)) ∧ w'.cell? ⟨fb, 3, none⟩ = some (.int .u64 (u : Int)) ∧ w'.cell? ⟨c, 2, none⟩ = some (.int .u8 (b : Int))
theorem awS_of {w' : World} {fb c B T d u full b pl : Nat} {v : Value} (h1 : w'.heap[fb]? = some (.cells #[.int .u64 (B : Int), .int .u64 (T : Int), .int .u64 (d : Int), .int .u64 (u : Int)] 57)) (h2 : Box w' c v full b pl) : AwS fb c B T d u b w' :=
  ⟨by simp [World.cell?, h1], by simp [World.cell?, h1], by simp [World.cell?, h1], by simp [World.cell?, h1], h2.cells.2.2.1⟩

set_option maxRecDepth 100000 in
set_option maxHeartbeats 4000000 in
theorem addWords_nar (c o g go : Nat) (lc lo : List Nat) (full b pl W p B T fullo bo plo Wo : Nat) (t0 t1 e : Nat) (ai ad : Int) (hai : ai = (t0 : Int) * (p : Int)) (hL : Lay full b pl W) (hF : Fld b W p B T) (hLo : Lay fullo bo plo Wo) (hN : Nar bo Wo b W p) (w : World)
    (hB : Box w c (.slice (some ⟨g, 0, none⟩) lc.length lc.length) full b pl) (hBo : Box w o (.slice (some ⟨go, 0, none⟩) lo.length lo.length) fullo bo plo) (ho : OBk w g lc) (hoo : OBk w go lo) (hX : WB lc) (hXo : WB lo)
    (hal : go ≠ g) (hl : lc.length ≤ 100000000) (hlo : lo.length ≤ 100000000) (h01 : t0 ≤ t1) (ht1 : t1 ≤ lc.length) (hend : ∀ t, t0 ≤ t → t ≤ t1 → (t * p < e ↔ t < t1)) (hd0 : 0 ≤ ((t0 * p : Nat) : Int) + ad) (hd1 : ∀ t, t < t1 → (((t * p : Nat) : Int) + ad).toNat * Wo / 64 < lo.length)
    (hadb : ad ≤ 1000000000) (heb : e ≤ 1000000000) :
    Calls Try.prog 32 #[.pointer (some ⟨c, 0, none⟩), .pointer (some ⟨o, 0, none⟩), .int .i64 ai, .int .i64 e, .int .i64 ad] w fun r w' => AWr W p lc (ynar Wo W p lo ad) g t0 t1 w r w' := by
  obtain ⟨c0, c1, c2, c3⟩ := hB.cells
  obtain ⟨o0, o1, o2, o3⟩ := hBo.cells
  have hfl := fun q => fields_any c _ full b pl W p B T hL hF (w.drewN q) hB
  have hbl := hB.lt
  have hol := hBo.lt
  unfold FV FO at hfl
  obtain ⟨e1, e2, hpl3, hb6, hp1, hp8, hW8, hW64⟩ := hF.nums hL
  have hbne : ((bo : Int) == (b : Int)) = false := by
    rw [beq_eq_false_iff_ne]
    rcases hN with ⟨rfl, rfl, rfl, rfl, rfl⟩ | ⟨rfl, rfl, rfl, rfl, rfl⟩ | ⟨rfl, rfl, rfl, rfl, rfl⟩ | ⟨rfl, rfl, rfl, rfl, rfl⟩ | ⟨rfl, rfl, rfl, rfl, rfl⟩ | ⟨rfl, rfl, rfl, rfl, rfl⟩ <;> decide
  have D := hF.wd
  have HPOP := hideP (fun x y => pop_newly hF x y)
  have HYL := hideP (fun t => ynar_lt hN lo ad t)
  have HO := hideP ho
  have HOO := hideP hoo
  have HD := hideP D
  have HB := hideP hB
  have HBO := hideP hBo
  have HEND := hideP hend
  have hgl := ho.lt
  have hgol := hoo.lt
  clear D hend
  go_enter Try.func32, Try.ntmps32
  go_wp2_with fail
  go_quiet (fail)
  go_wp2_with fail
  refine (hfl nq).mono ?_
  rintro r w1 ⟨rfl, rfl⟩
  go_wp2_with fail
  obtain ⟨hc1, hfb⟩ := aw_setup w nq (.cells #[.int .u64 (B : Int), .int .u64 (T : Int), .int .u64 ((W - 1 : Nat) : Int), .int .u64 ((64 - W : Nat) : Int)] 57)
  generalize (((w.drewN nq).alloc (.cells #[.int .u64 (B : Int), .int .u64 (T : Int), .int .u64 ((W - 1 : Nat) : Int), .int .u64 ((64 - W : Nat) : Int)] 57)).alloc (.cells #[.int .u64 (B : Int), .int .u64 (T : Int), .int .u64 ((W - 1 : Nat) : Int), .int .u64 ((64 - W : Nat) : Int)] 57)) = w1 at *
  have c2' := hc1.cellEq c2 (fun h => h)
  have o2' := hc1.cellEq o2 (fun h => h)
  clear hfl o2 o3 o1 c1 c3 c0 c2 o0
  go_quiet (fail)
  go_wp2_with fail
  have hc2 : Chg (fun _ => False) w (w1.drewN nq) := hc1.drewN nq
  have hfb2 : (w1.drewN nq).heap[w.heap.size + 1]? = some (.cells #[.int .u64 (B : Int), .int .u64 (T : Int), .int .u64 ((W - 1 : Nat) : Int), .int .u64 ((64 - W : Nat) : Int)] 57) := hfb
  clear hc1 hfb c2' o2'
  generalize w1.drewN nq = w2 at *
  rw [← hai]
  go_loopw [2, 11] (fun i fv wr => ∃ k ti : Nat, k ≤ t1 - t0 ∧ i = .int .i64 ti ∧ Hid (ti = (t0 + k) * p) ∧ fv = .int .i64 ((fil W p lc (ynar Wo W p lo ad) t0 k : Nat) : Int) ∧ Hid (OBk wr g (mg lc (ynar Wo W p lo ad) t0 (t0 + k))) ∧ Hid (Chg (fun b => b = g) w wr) ∧ Hid (wr.heap[w.heap.size + 1]? = some (.cells #[.int .u64 (B : Int), .int .u64 (T : Int), .int .u64 ((W - 1 : Nat) : Int), .int .u64 ((64 - W : Nat) : Int)] 57)) ∧ Hid (w.heap.size + 1 < wr.heap.size) ∧ Hid (∀ k', t0 ≤ k' → k' < t0 + k → Fits W p (lc.getD k' 0) (ynar Wo W p lo ad k'))) (fun i _ _ => t1 * p - (intOf i).toNat)
  case atStart =>
    refine ⟨0, t0 * p, Nat.zero_le _, by rw [hai]; simp, rfl, rfl, ?_, ?_, hfb2, ?_, ?_⟩
    · rw [mg_start _ _ _ _ (by omega)]; exact HO.out.chg hc2 (fun h => h)
    · exact hc2.mono (fun _ _ h => h.elim)
    · rcases Nat.lt_or_ge (w.heap.size + 1) w2.heap.size with h | h
      · exact h
      · rw [Array.getElem?_eq_none h] at hfb2; cases hfb2
    · intro k' h1 h2; omega
  case round =>
    obtain ⟨k, ti, hk, rfl, HTI, rfl, HOk, HCk, HFk, HSk, HTk⟩ := hrel
    obtain ⟨t, ht⟩ : ∃ t, t0 + k = t := ⟨_, rfl⟩
    rw [ht] at HTI HOk HTk
    have ht1' : t0 + k ≤ t := by omega
    have ht2' : t ≤ t0 + k := by omega
    have HTT := hideP ht
    clear ht
    have htik : ti = t * p := HTI.out
    have hend := HEND.out t (by omega) (by omega)
    rw [← htik] at hend
    by_cases hlt : k < t1 - t0
    · have hie : (ti : Int) < (e : Int) := by omega
      have q3 : (ti : Int) / (p : Int) = ((t : Nat) : Int) := by
        rw [htik, ← Int.natCast_ediv, Nat.mul_div_cancel _ (by omega)]
      have hbig : t * p ≤ 800000000 := Nat.le_trans (Nat.mul_le_mul (show t ≤ 100000000 by omega) hp8) (by decide)
      have hj0 : 0 ≤ (ti : Int) + ad := by
        have : t0 * p ≤ t * p := Nat.mul_le_mul_right _ (by omega)
        omega
      obtain ⟨j, hj⟩ : ∃ j : Nat, (ti : Int) + ad = (j : Int) := ⟨((ti : Int) + ad).toNat, by omega⟩
      have hjb : j ≤ 2000000000 := by omega
      have hjw : j * Wo / 64 < lo.length := by
        have := hd1 t (by omega)
        rw [← htik, hj] at this
        simpa using this
      have hyk : ynar Wo W p lo ad t = wide Wo W (lo.getD (j * Wo / 64) 0 / 2 ^ (j * Wo % 64)) p := by
        unfold ynar
        rw [← htik, hj]
        simp
      have hgo : OBk wr go lo := HOO.out.chg HCk.out hal
      have hbo : Box wr o _ fullo bo plo := HBO.out.chg HCk.out (box_ne HBO.out HO.out)
      have hbc : Box wr c _ full b pl := HB.out.chg HCk.out (box_ne HB.out HO.out)
      have hwa := fun q => wordAs_any o go lo fullo bo plo Wo b W p j hLo hN (wr.drewN q) hbo hgo hXo (by omega) hjw
      rw [← hyk] at hwa
      have hyl := HYL.out t
      have hmx : (mg lc (ynar Wo W p lo ad) t0 t).getD (0 + t) 0 = lc.getD t 0 := by rw [Nat.zero_add, mg_get _ _ _ _ _ (by omega), if_neg (by omega)]
      have hwb := mg_wb HD.out.wp hX HYL.out HTk.out
      have hml : 0 + t < (mg lc (ynar Wo W p lo ad) t0 t).length := by rw [mg_len]; omega
      have htl : t < lc.length := by omega
      have hS0 : (AwS (w.heap.size + 1) c B T (W - 1) (64 - W) b) wr.drew := awS_of (w' := wr.drew) HFk.out hbc
      have hki : ((t : Nat) : Int) < (lc.length : Int) := by omega
      have hwj : IntKind.i64.wrap (j : Int) = (j : Int) := by simp [IntKind.wrap, IntKind.bits, IntKind.signed]; omega
      clear htik hend hyk hbc hj0 hbig
      by_cases hfit : Fits W p (lc.getD t 0) (ynar Wo W p lo ad t)
      · have hca := fun q => add_fits HD.out (d := W - 1) (u := 64 - W) g lc.length lc.length 0 t (ynar Wo W p lo ad t) (mg lc (ynar Wo W p lo ad) t0 t) (wr.drewN q) HOk.out hml htl (by omega) hwb hyl (by rw [hmx]; exact hfit)
        rw [hmx, Nat.zero_add, mg_set _ _ _ _ (by omega) (by omega)] at hca
        unfold FV at hca
        generalize hyy : ynar Wo W p lo ad t = y at *
        generalize hxx : lc.getD t 0 = xv at *
        have HXX := hideP hxx
        clear hxx
        go_wp2_with fail
        refine wp_region_S (AwS (w.heap.size + 1) c B T (W - 1) (64 - W) b) 15 (by kernel_rfl) ?_
        refine wpAnyS_take (i := 0) (v := ?_) rfl (by kernel_rfl) (fun _ _ _ h => h) (Or.inl ⟨by rfl, ?_⟩) hS0 ?_
        rotate_left
        · intro w0 hS1; simp only [AwS] at hS1; go_simp; first | done | with_reducible rfl
        try simp only [Act.put, List.setIfInBounds_toArray, List.set_cons_zero, List.set_cons_succ]
        refine wpAnyS_take (i := 1) (v := ?_) rfl (by kernel_rfl) (fun _ _ _ h => h) (Or.inl ⟨by rfl, ?_⟩) hS0 ?_
        rotate_left
        · intro w0 hS1; simp only [AwS] at hS1; go_simp; first | done | with_reducible rfl
        try simp only [Act.put, List.setIfInBounds_toArray, List.set_cons_zero, List.set_cons_succ]
        refine wpAnyS_take (i := 2) (v := ?_) rfl (by kernel_rfl) (fun _ _ _ h => h) (Or.inl ⟨by rfl, ?_⟩) hS0 ?_
        rotate_left
        · intro w0 hS1; simp only [AwS] at hS1; go_simp; first | done | with_reducible rfl
        try simp only [Act.put, List.setIfInBounds_toArray, List.set_cons_zero, List.set_cons_succ]
        refine wpAnyS_take (i := 3) (v := ?_) rfl (by kernel_rfl) (fun _ _ _ h => h) (Or.inl ⟨by rfl, ?_⟩) hS0 ?_
        rotate_left
        · intro w0 hS1; simp only [AwS] at hS1; go_simp; first | done | with_reducible rfl
        try simp only [Act.put, List.setIfInBounds_toArray, List.set_cons_zero, List.set_cons_succ]
        refine wpAnyS_take (i := 4) (v := ?_) rfl (by kernel_rfl) (fun _ _ _ h => h) (Or.inl ⟨by rfl, ?_⟩) hS0 ?_
        rotate_left
        · intro w0 hS1; simp only [AwS] at hS1; go_simp; first | done | with_reducible rfl
        try simp only [Act.put, List.setIfInBounds_toArray, List.set_cons_zero, List.set_cons_succ]
        refine wpAnyS_take (i := 5) (v := ?_) rfl (by kernel_rfl) (fun _ _ _ h => h) (Or.inl ⟨by rfl, ?_⟩) hS0 ?_
        rotate_left
        · intro w0 hS1; simp only [AwS] at hS1; go_simp; first | done | with_reducible rfl
        try simp only [Act.put, List.setIfInBounds_toArray, List.set_cons_zero, List.set_cons_succ]
        refine wpAnyS_take (i := 6) (v := ?_) rfl (by kernel_rfl) (fun _ _ _ h => h) (Or.inl ⟨by rfl, ?_⟩) hS0 ?_
        rotate_left
        · intro w0 hS1; simp only [AwS] at hS1; go_simp; first | done | with_reducible rfl
        try simp only [Act.put, List.setIfInBounds_toArray, List.set_cons_zero, List.set_cons_succ]
        refine wpAnyS_take (i := 7) (v := ?_) rfl (by kernel_rfl) (fun _ _ _ h => h) (Or.inl ⟨by rfl, ?_⟩) hS0 ?_
        rotate_left
        · intro w0 hS1; simp only [AwS] at hS1; go_simp; first | done | with_reducible rfl
        try simp only [Act.put, List.setIfInBounds_toArray, List.set_cons_zero, List.set_cons_succ]
        refine wpAnyS_take (i := 8) (v := ?_) rfl (by kernel_rfl) (fun _ _ _ h => h) (Or.inl ⟨by rfl, ?_⟩) hS0 ?_
        rotate_left
        · intro w0 hS1; simp only [AwS] at hS1; go_simp; first | done | with_reducible rfl
        try simp only [Act.put, List.setIfInBounds_toArray, List.set_cons_zero, List.set_cons_succ]
        refine wpAnyS_take (i := 9) (v := ?_) rfl (by kernel_rfl) (fun _ _ _ h => h) (Or.inl ⟨by rfl, ?_⟩) hS0 ?_
        rotate_left
        · intro w0 hS1; simp only [AwS] at hS1; go_simp; first | done | with_reducible rfl
        try simp only [Act.put, List.setIfInBounds_toArray, List.set_cons_zero, List.set_cons_succ]
        refine wpAnyS_take (i := 10) (v := ?_) rfl (by kernel_rfl) (fun _ _ _ h => h) (Or.inl ⟨by rfl, ?_⟩) hS0 ?_
        rotate_left
        · intro w0 hS1; simp only [AwS] at hS1; go_simp; first | done | with_reducible rfl
        try simp only [Act.put, List.setIfInBounds_toArray, List.set_cons_zero, List.set_cons_succ]
        refine wpAnyS_take (i := 11) (v := ?_) rfl (by kernel_rfl) (fun _ _ _ h => h) (Or.inl ⟨by rfl, ?_⟩) hS0 ?_
        rotate_left
        · intro w0 hS1; simp only [AwS] at hS1; go_simp; first | done | with_reducible rfl
        try simp only [Act.put, List.setIfInBounds_toArray, List.set_cons_zero, List.set_cons_succ]
        refine wpAnyS_take (i := 12) (v := ?_) rfl (by kernel_rfl) (fun _ _ _ h => h) (Or.inl ⟨by rfl, ?_⟩) hS0 ?_
        rotate_left
        · intro w0 hS1; simp only [AwS] at hS1; go_simp; first | done | with_reducible rfl
        try simp only [Act.put, List.setIfInBounds_toArray, List.set_cons_zero, List.set_cons_succ]
        refine wpAnyS_ready (rs := [13]) (by kernel_rfl) (by simp) ?_
        refine AllReadyS.cons rfl (fun K hK => ?_) AllReadyS.nil
        go_simp
        refine (hwa 1).mono ?_
        rintro r w3 ⟨rfl, q, hw3⟩
        simp only []
        refine hK.out _ _ (fun _ => by rw [hw3]; exact hS0) ?_
        rw [hw3]
        clear hK K hw3
        try simp only [Act.put, List.setIfInBounds_toArray, List.set_cons_zero, List.set_cons_succ]
        refine wpAnyS_ready (rs := [14]) (by kernel_rfl) (by simp) ?_
        refine AllReadyS.cons rfl (fun K hK => ?_) AllReadyS.nil
        go_simp
        refine (hca (1 + q)).mono ?_
        rintro r w4 ⟨rfl, ob4, ch4⟩
        simp only []
        have ch4' : Chg (fun b => b = g) wr w4 := ⟨ch4.os, ch4.tape, ch4.output, ch4.size, ch4.block⟩
        have hF4 : w4.heap[w.heap.size + 1]? = some (.cells #[.int .u64 (B : Int), .int .u64 (T : Int), .int .u64 ((W - 1 : Nat) : Int), .int .u64 ((64 - W : Nat) : Int)] 57) := (ch4'.block _ HSk.out (by show ¬ (w.heap.size + 1 = g); omega)).trans HFk.out
        have hbc4 : Box w4 c _ full b pl := HB.out.chg (HCk.out.trans ch4' (fun _ _ h => h)) (box_ne HB.out HO.out)
        have hS4 := awS_of hF4 hbc4
        refine hK.out _ _ (fun _ => hS4) ?_
        clear hK K
        try simp only [Act.put, List.setIfInBounds_toArray, List.set_cons_zero, List.set_cons_succ]
        refine wpAnyS_ready (rs := [15]) (by kernel_rfl) (by simp) ?_
        refine AllReadyS.cons rfl (fun K hK => ?_) AllReadyS.nil
        go_simp
        refine hK.out _ _ (fun h => absurd rfl h) ?_
        clear hK K
        refine wpAnyS_done (by kernel_rfl) ?_ _
        obtain ⟨m0, m1, m2, m3, -⟩ := hS4
        have H4 := hideP hF4
        have HO4 := hideP ob4
        have HC4 := hideP (HCk.out.trans ch4' (fun _ _ h => h))
        have hs4 := ch4'.size
        have hcn := count_any (newly T xv y) B T W _ hW8 hW64 (hn := HPOP.out _ _) (hn8 := Nat.le_trans (newc_le _ _ _ _) hp8)
        unfold FV FO at hcn
        have hnne : (((newly T xv y : Nat) : Int) == 18446744073709551615) = false := by
          have := newly_ne HD.out xv y
          rw [beq_eq_false_iff_ne]; omega
        have hfs : fil W p lc (ynar Wo W p lo ad) t0 (k + 1) = fil W p lc (ynar Wo W p lo ad) t0 k + newc W p xv y := by
          rw [← hyy, ← HXX.out, ← HTT.out]; rfl
        have hfb1 := fil_le W p hp8 lc (ynar Wo W p lo ad) t0 (k + 1)
        rw [hfs] at hfb1
        have HFS := hideP hfs
        have HFIT := hideP hfit
        have HYY := hideP hyy
        have HSz := HSk.out
        clear hfs hwb hml hmx hca hwa hF4 hbc4 ob4 ch4 ch4' hfit hyy hgo hbo hS0
        generalize newly T xv y = nw at *
        generalize newc W p xv y = nc at *
        generalize fil W p lc (ynar Wo W p lo ad) t0 k = fk at *
        go_wp2_with fail
        refine (hcn w4).mono ?_
        rintro r w5 ⟨rfl, hw5⟩
        have hc5 : Chg (fun _ => False) w4 w5 := by rw [hw5]; exact (Chg.refl _ w4).alloc _
        clear hw5 hcn m0 m1 m2 m3
        have hti2 : ti + p = (t0 + (k + 1)) * p := by rw [HTI.out, ← HTT.out, ← Nat.add_assoc, Nat.add_mul (t0 + k), Nat.one_mul]
        have HTI2 := hideP hti2
        clear hti2
        go_wp2_with fail
        go_roundw
        case rel =>
          have h5 := hc5.size
          refine ⟨k + 1, ti + p, hlt, by go_num, HTI2.out, ?_, ?_, HC4.out.trans hc5 (fun _ _ h => h.elim), ?_, ?_, ?_⟩
          · rw [HFS.out]; simp
          · rw [show t0 + (k + 1) = t + 1 by omega]; exact HO4.out.chg hc5 (fun h => h)
          · exact (hc5.block _ (by omega) (fun h => h)).trans H4.out
          · show w.heap.size + 1 < w5.heap.size
            omega
          · intro k' h1 h2
            by_cases hk' : k' = t
            · rw [hk', HYY.out, HXX.out]; exact HFIT.out
            · exact HTk.out k' h1 (by omega)
        case measure =>
          have h1 : ti + p ≤ t1 * p := by rw [HTI2.out]; exact Nat.mul_le_mul_right _ (by omega)
          simp [intOf]; omega
      · have hca := fun q => add_over HD.out (d := W - 1) (u := 64 - W) g lc.length lc.length 0 t (ynar Wo W p lo ad t) (mg lc (ynar Wo W p lo ad) t0 t) (wr.drewN q) HOk.out hml htl (by omega) hwb hyl (by rw [hmx]; exact hfit)
        unfold FV at hca
        generalize hyy : ynar Wo W p lo ad t = y at *
        go_wp2_with fail
        refine wp_region_S (AwS (w.heap.size + 1) c B T (W - 1) (64 - W) b) 15 (by kernel_rfl) ?_
        refine wpAnyS_take (i := 0) (v := ?_) rfl (by kernel_rfl) (fun _ _ _ h => h) (Or.inl ⟨by rfl, ?_⟩) hS0 ?_
        rotate_left
        · intro w0 hS1; simp only [AwS] at hS1; go_simp; first | done | with_reducible rfl
        try simp only [Act.put, List.setIfInBounds_toArray, List.set_cons_zero, List.set_cons_succ]
        refine wpAnyS_take (i := 1) (v := ?_) rfl (by kernel_rfl) (fun _ _ _ h => h) (Or.inl ⟨by rfl, ?_⟩) hS0 ?_
        rotate_left
        · intro w0 hS1; simp only [AwS] at hS1; go_simp; first | done | with_reducible rfl
        try simp only [Act.put, List.setIfInBounds_toArray, List.set_cons_zero, List.set_cons_succ]
        refine wpAnyS_take (i := 2) (v := ?_) rfl (by kernel_rfl) (fun _ _ _ h => h) (Or.inl ⟨by rfl, ?_⟩) hS0 ?_
        rotate_left
        · intro w0 hS1; simp only [AwS] at hS1; go_simp; first | done | with_reducible rfl
        try simp only [Act.put, List.setIfInBounds_toArray, List.set_cons_zero, List.set_cons_succ]
        refine wpAnyS_take (i := 3) (v := ?_) rfl (by kernel_rfl) (fun _ _ _ h => h) (Or.inl ⟨by rfl, ?_⟩) hS0 ?_
        rotate_left
        · intro w0 hS1; simp only [AwS] at hS1; go_simp; first | done | with_reducible rfl
        try simp only [Act.put, List.setIfInBounds_toArray, List.set_cons_zero, List.set_cons_succ]
        refine wpAnyS_take (i := 4) (v := ?_) rfl (by kernel_rfl) (fun _ _ _ h => h) (Or.inl ⟨by rfl, ?_⟩) hS0 ?_
        rotate_left
        · intro w0 hS1; simp only [AwS] at hS1; go_simp; first | done | with_reducible rfl
        try simp only [Act.put, List.setIfInBounds_toArray, List.set_cons_zero, List.set_cons_succ]
        refine wpAnyS_take (i := 5) (v := ?_) rfl (by kernel_rfl) (fun _ _ _ h => h) (Or.inl ⟨by rfl, ?_⟩) hS0 ?_
        rotate_left
        · intro w0 hS1; simp only [AwS] at hS1; go_simp; first | done | with_reducible rfl
        try simp only [Act.put, List.setIfInBounds_toArray, List.set_cons_zero, List.set_cons_succ]
        refine wpAnyS_take (i := 6) (v := ?_) rfl (by kernel_rfl) (fun _ _ _ h => h) (Or.inl ⟨by rfl, ?_⟩) hS0 ?_
        rotate_left
        · intro w0 hS1; simp only [AwS] at hS1; go_simp; first | done | with_reducible rfl
        try simp only [Act.put, List.setIfInBounds_toArray, List.set_cons_zero, List.set_cons_succ]
        refine wpAnyS_take (i := 7) (v := ?_) rfl (by kernel_rfl) (fun _ _ _ h => h) (Or.inl ⟨by rfl, ?_⟩) hS0 ?_
        rotate_left
        · intro w0 hS1; simp only [AwS] at hS1; go_simp; first | done | with_reducible rfl
        try simp only [Act.put, List.setIfInBounds_toArray, List.set_cons_zero, List.set_cons_succ]
        refine wpAnyS_take (i := 8) (v := ?_) rfl (by kernel_rfl) (fun _ _ _ h => h) (Or.inl ⟨by rfl, ?_⟩) hS0 ?_
        rotate_left
        · intro w0 hS1; simp only [AwS] at hS1; go_simp; first | done | with_reducible rfl
        try simp only [Act.put, List.setIfInBounds_toArray, List.set_cons_zero, List.set_cons_succ]
        refine wpAnyS_take (i := 9) (v := ?_) rfl (by kernel_rfl) (fun _ _ _ h => h) (Or.inl ⟨by rfl, ?_⟩) hS0 ?_
        rotate_left
        · intro w0 hS1; simp only [AwS] at hS1; go_simp; first | done | with_reducible rfl
        try simp only [Act.put, List.setIfInBounds_toArray, List.set_cons_zero, List.set_cons_succ]
        refine wpAnyS_take (i := 10) (v := ?_) rfl (by kernel_rfl) (fun _ _ _ h => h) (Or.inl ⟨by rfl, ?_⟩) hS0 ?_
        rotate_left
        · intro w0 hS1; simp only [AwS] at hS1; go_simp; first | done | with_reducible rfl
        try simp only [Act.put, List.setIfInBounds_toArray, List.set_cons_zero, List.set_cons_succ]
        refine wpAnyS_take (i := 11) (v := ?_) rfl (by kernel_rfl) (fun _ _ _ h => h) (Or.inl ⟨by rfl, ?_⟩) hS0 ?_
        rotate_left
        · intro w0 hS1; simp only [AwS] at hS1; go_simp; first | done | with_reducible rfl
        try simp only [Act.put, List.setIfInBounds_toArray, List.set_cons_zero, List.set_cons_succ]
        refine wpAnyS_take (i := 12) (v := ?_) rfl (by kernel_rfl) (fun _ _ _ h => h) (Or.inl ⟨by rfl, ?_⟩) hS0 ?_
        rotate_left
        · intro w0 hS1; simp only [AwS] at hS1; go_simp; first | done | with_reducible rfl
        try simp only [Act.put, List.setIfInBounds_toArray, List.set_cons_zero, List.set_cons_succ]
        refine wpAnyS_ready (rs := [13]) (by kernel_rfl) (by simp) ?_
        refine AllReadyS.cons rfl (fun K hK => ?_) AllReadyS.nil
        go_simp
        refine (hwa 1).mono ?_
        rintro r w3 ⟨rfl, q, hw3⟩
        simp only []
        refine hK.out _ _ (fun _ => by rw [hw3]; exact hS0) ?_
        rw [hw3]
        clear hK K hw3
        try simp only [Act.put, List.setIfInBounds_toArray, List.set_cons_zero, List.set_cons_succ]
        refine wpAnyS_ready (rs := [14]) (by kernel_rfl) (by simp) ?_
        refine AllReadyS.cons rfl (fun K hK => ?_) AllReadyS.nil
        go_simp
        refine (hca (1 + q)).mono ?_
        rintro r w4 ⟨rfl, ch4⟩
        simp only []
        have ch4' : Chg (fun _ => False) wr w4 := ⟨ch4.os, ch4.tape, ch4.output, ch4.size, ch4.block⟩
        have hF4 : w4.heap[w.heap.size + 1]? = some (.cells #[.int .u64 (B : Int), .int .u64 (T : Int), .int .u64 ((W - 1 : Nat) : Int), .int .u64 ((64 - W : Nat) : Int)] 57) := (ch4'.block _ HSk.out (fun h => h)).trans HFk.out
        have hbc4 : Box w4 c _ full b pl := HB.out.chg (HCk.out.trans ch4' (fun _ _ h => h.elim)) (box_ne HB.out HO.out)
        refine hK.out _ _ (fun _ => awS_of hF4 hbc4) ?_
        clear hK K
        try simp only [Act.put, List.setIfInBounds_toArray, List.set_cons_zero, List.set_cons_succ]
        refine wpAnyS_ready (rs := [15]) (by kernel_rfl) (by simp) ?_
        refine AllReadyS.cons rfl (fun K hK => ?_) AllReadyS.nil
        go_simp
        refine hK.out _ _ (fun h => absurd rfl h) ?_
        clear hK K
        refine wpAnyS_done (by kernel_rfl) ?_ _
        have HFIT := hideP hfit
        have HYY := hideP hyy
        have hfb1 := fil_le W p hp8 lc (ynar Wo W p lo ad) t0 k
        generalize hfk0 : fil W p lc (ynar Wo W p lo ad) t0 k = fk at *
        have HFK := hideP hfk0
        have HC4 := hideP ch4'
        clear hfk0 hwb hml hmx hca hwa hF4 hbc4 ch4 ch4' hfit hyy hgo hbo hS0
        go_wp2_with fail
        go_ret2
        have hts : t = t0 + k := HTT.out.symm
        refine ⟨t, ?_, by omega, by omega, HTk.out, fun _ => by rw [HYY.out]; exact HFIT.out, HOk.out.chg HC4.out (fun h => h), HCk.out.trans HC4.out (fun _ _ h => h.elim)⟩
        rw [show t - t0 = k by omega, HFK.out, ← HTI.out]
        rfl
    · have hie : ¬ ((ti : Int) < (e : Int)) := by omega
      obtain rfl : k = t1 - t0 := by omega
      have hts : t = t1 := by omega
      subst hts
      have hfb1 := fil_le W p hp8 lc (ynar Wo W p lo ad) t0 (t - t0)
      generalize hfk0 : fil W p lc (ynar Wo W p lo ad) t0 (t - t0) = fk at *
      have HFK := hideP hfk0
      clear hfk0 htik
      go_wp2_with fail
      go_ret2
      refine ⟨t, ?_, by omega, Nat.le_refl _, HTk.out, fun h => absurd h (Nat.lt_irrefl _), HOk.out, HCk.out⟩
      rw [HFK.out, ← HTI.out]
      rfl

end Go.Proofs.Qxb6601640a
