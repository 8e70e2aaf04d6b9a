/-
  FnAddAllMatchesCountModel: the walk.
-/
import Derived.Test.Qxb6601640aTail5
import Derived.Deep.DeepCutAuto
namespace Go.Proofs.Qxb6601640a
open Go.RowKit
set_option linter.unusedVariables false
set_option linter.unusedSimpArgs false

set_option maxRecDepth 1000000 in
set_option maxHeartbeats 8000000 in
theorem law5_main (a a' : Option Addr) (cap cap' : Nat) (lc lo : List Nat) (cfull cb cp ofull ob op : Nat) (jI kI nI : Int) (w : World) (hr : RowW w a lc) (hr' : RowW w a' lo) (hnil : a = none → lc.length = 0) (hnil' : a' = none → lo.length = 0) (hX : WB lc) (hXo : WB lo)
    (hn : lc.length ≤ 65536) (hm : lo.length ≤ 65536) (h1 : cfull < 18446744073709551616) (h2 : cb < 256) (h3 : cp < 256) (h4 : ofull < 18446744073709551616) (h5 : ob < 256) (h6 : op < 256)
    (bj : -9223372036854775808 ≤ jI ∧ jI ≤ 9223372036854775807) (bk : -9223372036854775808 ≤ kI ∧ kI ≤ 9223372036854775807) (bn : -9223372036854775808 ≤ nI ∧ nI ≤ 9223372036854775807) :
    Calls Try.prog 5 #[.slice a lc.length cap, .int .u64 cfull, .int .u8 cb, .int .u8 cp, .slice a' lo.length cap', .int .u64 ofull, .int .u8 ob, .int .u8 op, .int .i64 jI, .int .i64 kI, .int .i64 nI] w fun r w' => r = .returned (.bool true) ∧ Below w.heap.size w w' := by
  have g1 : ¬ ((lc.length : Int) > 65536) := by omega
  have g2 : ¬ ((lo.length : Int) > 65536) := by omega
  go_enter Try.func5, Try.ntmps5
  go_wp2_with fail
  refine (zz18_any a a' cap cap' lc.length lo.length cfull cb cp ofull ob op jI kI nI w (by omega) (by omega)).mono ?_
  rintro r w' ⟨rfl, hw'⟩
  rw [hw', show decide (lc.length ≤ 1048576 ∧ lo.length ≤ 1048576 ∧ lc.length + lo.length ≤ 1048576) = true by rw [decide_eq_true_iff]; omega]
  clear hw'
  go_wp2_with fail
  refine (prem19_any a a' cap cap' lc lo cfull cb cp ofull ob op jI kI nI w hr hr' hX hXo hn hm h1 h2 h3 h4 h5 h6 bj bk bn).mono ?_
  rintro r w' ⟨hv, hw'⟩
  rw [hw']
  clear hw'
  rcases hv with rfl | ⟨rfl, hP⟩
  · go_wp2_with fail
    go_ret
    exact ⟨rfl, Below.refl _ _⟩
  obtain ⟨j, k, n, rfl, rfl, rfl, d, Wc, pc, Wo, po, bs, Ws, ps, P⟩ := hP
  clear bj bk bn
  go_wp2_with fail
  refine (cloneWords_any a cap lc w hr hnil (by omega)).mono ?_
  rintro r w1 ⟨v1, rfl, o1, c1, f1⟩
  obtain ⟨a1, hv1, z1, r1, b1⟩ := o1.shape
  subst hv1
  go_wp2_with fail
  refine (cloneWords_any a' cap' lo w1 (hr'.chg c1 (fun _ _ h => h)) hnil' (by omega)).mono ?_
  rintro r w2 ⟨v2, rfl, o2, c2, f2⟩
  obtain ⟨a2, hv2, z2, r2, b2⟩ := o2.shape
  subst hv2
  have r12 := r1.chg c2 (fun _ _ h => h)
  go_wp2_with fail
  refine (cloneWords_any a1 lc.length lc w2 r12 z1 (by omega)).mono ?_
  rintro r w3 ⟨v3, rfl, o3, c3, f3⟩
  obtain ⟨a3, hv3, z3, r3, b3⟩ := o3.shape
  subst hv3
  have r23 := r2.chg c3 (fun _ _ h => h)
  go_wp2_with fail
  refine (cloneWords_any a2 lo.length lo w3 r23 z2 (by omega)).mono ?_
  rintro r w4 ⟨v4, rfl, o4, c4, f4⟩
  obtain ⟨a4, hv4, z4, r4, b4⟩ := o4.shape
  subst hv4
  go_wp2_with fail
  refine (ZZMake_any _ a1 lc.length lc.length rfl cfull cb cp w4).mono ?_
  rintro r w5 ⟨rfl, hBc, c5, s5⟩
  go_wp2_with fail
  refine (ZZMake_any _ a2 lo.length lo.length rfl ofull ob op w5).mono ?_
  rintro r w6 ⟨rfl, hBo, c6, s6⟩
  rw [s5] at hBo s6
  have c14 : Chg (fun _ => False) w1 w4 := (c2.trans c3 (fun _ _ h => h)).trans c4 (fun _ _ h => h)
  have c16 : Chg (fun _ => False) w1 w6 := (c14.trans c5 (fun _ _ h => h)).trans c6 (fun _ _ h => h)
  have c26 : Chg (fun _ => False) w2 w6 := ((c3.trans c4 (fun _ _ h => h)).trans c5 (fun _ _ h => h)).trans c6 (fun _ _ h => h)
  have c36 : Chg (fun _ => False) w3 w6 := (c4.trans c5 (fun _ _ h => h)).trans c6 (fun _ _ h => h)
  have c46 : Chg (fun _ => False) w4 w6 := c5.trans c6 (fun _ _ h => h)
  have o16 := o1.chg c16 (fun _ _ h => h)
  have o26 := o2.chg c26 (fun _ _ h => h)
  have hBc6 := hBc.chg c6 (fun h => h)
  have l1 := o1.lt
  have l2 := o2.lt
  have l3 := o3.lt
  have l4 := o4.lt
  have sz := c14.size
  have sz1 := c1.size
  have sz2 := c2.size
  have sz3 := c3.size
  have sz4 := c4.size
  obtain ⟨N, hN⟩ : ∃ N, lc.length * pc = N := ⟨_, rfl⟩
  obtain ⟨M, hM⟩ : ∃ M, lo.length * po = M := ⟨_, rfl⟩
  have hNb : N ≤ 524288 := by rw [← hN]; exact Nat.mul_le_mul hn P.pc8
  have hMb : M ≤ 524288 := by rw [← hM]; exact Nat.mul_le_mul hm P.po8
  have hjn : j + n ≤ N := by rw [← hN]; exact P.jn
  have hkn : k + n ≤ M := by rw [← hM]; exact P.kn
  obtain ⟨hper, hcb3, hcb6, hWc64, hpc0⟩ := wid_per P.layc.wid P.wp
  obtain ⟨-, hbs3, hbs6, -, hps0⟩ := wid_per P.wids P.wps
  have hper' : (64 : Int) / 2 ^ cb = (pc : Int) := by rw [← hper, Nat.min_eq_left (by omega)]
  have hlN : (lc.length : Int) * (pc : Int) = (N : Int) := by rw [← hN]; simp
  have hdk := P.dd
  have hjhi : j + n ≤ (j + n + ps - 1) / ps * ps := by
    have := Nat.div_add_mod (j + n + ps - 1) ps
    have h2 := Nat.mod_lt (j + n + ps - 1) hps0
    rw [Nat.mul_comm] at this
    omega
  have hjlo : j / ps * ps ≤ j := Nat.div_mul_le_self _ _
  have hsum : ∀ m, j ≤ m → m < j + n → cnt Wc lc m + ocOf Wo lo d m < 18446744073709551616 := fun m h7 h8 => (P.all m (by omega) (by omega)).1 ⟨h7, h8⟩
  have hd1 := P.hd1
  rw [hM] at hd1
  have hcall := addAll_two w4.heap.size (w4.heap.size + 1) j k n cfull cb cp Wc pc ofull ob op Wo po bs Ws ps (.slice a1 lc.length lc.length) (.slice a2 lo.length lo.length) lc lo P.layc P.wp P.layo P.wpo w6 hBc6 o16 hX hBo o26 hXo (by omega) (fun h => by have := l1 _ h; omega) (fun h => by have := l2 _ h; omega) (fun x hx h => by have := l1 _ h; have := f2 _ hx; omega) N M hN hM (by omega) (by omega) (by omega) hjn (by omega) P.bsd d P.dd P.h8 P.hd0 hd1 (fun m h7 h8 h9 => (P.all m h7 h8).2 h9) hsum
  have hb06 : Below w.heap.size w w6 := (c1.trans c16 (fun _ _ h => h)).below (Nat.le_refl _) (fun _ h => h.elim)
  have r36 : RowW w6 a3 lc := r3.chg c36 (fun _ _ h => h)
  have r46 : RowW w6 a4 lo := r4.chg c46 (fun _ _ h => h)
  have r26 : RowW w6 a2 lo := r2.chg c26 (fun _ _ h => h)
  have HCALL := hideP hcall
  have HP := hideP P
  have HSUM := hideP hsum
  have HBO := hideP hBo
  have HD1 := hideP hd1
  clear hcall hBc hBc6 hBo o16 o26 hd1 hsum
  go_wp2_with fail
  refine (ZZAddAll_of (P := fun f w' => Hid (∃ aL L b2 W2 p2, T5 w' a1 a2 a3 a4 aL lc lo L cfull cb ofull ob op j n d Wc pc Wo po N M f bs w4.heap.size b2 W2 p2 ∧ Below w.heap.size w w')) (HCALL.out.mono ?_)).mono ?_
  · rintro r w' ⟨f, i, b', W', p', v', l', hr', hA, he1, he2, hbb, hle, hf⟩
    obtain ⟨aL, hvL, -, rL, -⟩ := hA.ow.shape
    have hbx := hA.box
    rw [hvL] at hbx
    have nf : ∀ x, x < w6.heap.size → x ≠ w4.heap.size → (Value.slice a1 lc.length lc.length).ownBlock ≠ some x → ¬ (x = w4.heap.size ∨ (Value.slice a1 lc.length lc.length).ownBlock = some x ∨ w6.heap.size ≤ x) := fun x h7 h8 h9 h10 => by
      rcases h10 with h | h | h
      · exact h8 h
      · exact h9 h
      · omega
    refine ⟨f, hr', aL, l', b', W', p', ⟨⟨hA.wid, hA.wp, hA.len, hA.wb, hbb, hle, fun m hm => ?_, ?_⟩, hbx, HBO.out.chg hA.ch (nf _ (by omega) (by omega) (fun h => by have := l1 _ h; omega)), ?_, ?_, ?_, rL, hX, hXo, HP.out.layc.wid, HP.out.layo.wid, HP.out.wp, HP.out.wpo, hN, hM, HSUM.out⟩, ?_⟩
    · rw [hA.cn m hm]
      by_cases hin : j ≤ m ∧ m < j + n
      · rw [if_pos hin, if_pos (by omega)]
      · rw [if_neg hin]
        by_cases h7 : j / ps * ps ≤ m ∧ m < i
        · rw [if_pos h7, (HP.out.all m h7.1 (by omega)).2 hin, Nat.add_zero]
        · rw [if_neg h7]
    · rw [hf]
      exact marks_seg hjlo he1 he2 (fun m h7 h8 h9 => (HP.out.all m h7 h8).2 h9)
    · exact r36.chg hA.ch (fun x hx => nf _ (by have := l3 _ (b3 x hx); omega) (by have := l3 _ (b3 x hx); omega) (fun h => by have := l1 _ h; have := f3 _ (b3 x hx); omega))
    · exact r46.chg hA.ch (fun x hx => nf _ (by have := l4 _ (b4 x hx); omega) (by have := l4 _ (b4 x hx); omega) (fun h => by have := l1 _ h; have := f4 _ (b4 x hx); omega))
    · exact r26.chg hA.ch (fun x hx => nf _ (by have := l2 _ (b2 x hx); omega) (by have := l2 _ (b2 x hx); omega) (fun h => by have := l1 _ h; have := f2 _ (b2 x hx); omega))
    · exact hb06.trans (hA.ch.below hb06.size (fun x h => by
        rcases h with h | h | h
        · omega
        · exact f1 x h
        · omega))
  rintro r w7 ⟨FI, rfl, H⟩
  obtain ⟨aL, L, b2', W2, p2, hT, hb7⟩ := H.out
  have HT := hideP hT
  have hjd : 0 ≤ (j : Int) + d := by omega
  have hjM : (j : Int) + (n : Int) + d ≤ (M : Int) := by omega
  have HBSD := hideP HP.out.bsd
  clear H hT HCALL HP HSUM HBO HD1 c1 c2 c3 c4 c5 c6 c14 c16 c26 c36 c46 o1 o2 o3 o4 l1 l2 l3 l4 f1 f2 f3 f4 b1 b2 b3 b4 r1 r2 r3 r4 r12 r23 r36 r46 r26 hr hr' z1 z2 z3 z4 hb06 hX hXo P hper hN hM
  rcases HBSD.out with ⟨hle, rfl, rfl, rfl⟩ | ⟨hlt, rfl, rfl, rfl⟩
  · have b1 : ¬ ((ob : Int) > (bs : Int)) := by omega
    clear HBSD
    simp only []
    iterate 77 go_step
    exact law5_tail21 _ _ _ _ _ _ _ _ _ _ _ _ _ _ _ _ _ _ _ _ _ _ _ _ _ _ _ _ _ _ _ _ _ _ _ _ _ _ _ _ _ _ _ _ _ _ _ _ _ _ _ _ _ _ _ _ _ _ _ _ _ _ _ _ _ _ _ _ _ _ _ _ _ _ _ _ _ _ _ _ _ _ _ _ _ _ _ _ _ _ _ _ _ _ _ _ _ _ _ _ _ _ _ _ _ _ _ _ _ _ _ _ _ _ _ _ _ _ _ _ _ _ _ _ _ _ _ _ _ _ _ _ _ _ _ _ _ _ _ _ _ _ _ _ _ _ _ _ _ _ _ _ _ _ _ _ _ _ _ _ _ _ _ _ _ _ _ _ _ _ _ _ _ _ _ _ _ _ _ _ _ _ _ _ _ _ _ _ _ _ _ _ _ _ _ _ _ _ _ _ _ _ _ _ _ _ _ _ _ _ _ _ _ _ _ _ _ _ _ _ _ _ _ _ _ _ _ _  a1 a2 a3 a4 aL lc lo L cfull bs cp ofull ob op j k n d Ws ps Wo po N M FI bs w4.heap.size b2' W2 p2 w w7 HT hn hm hNb hMb hjn hjd hjM hbs3 hb7
  · have b1 : (bs : Int) > (cb : Int) := by omega
    clear HBSD
    simp only []
    iterate 84 go_step
    exact law5_tail21 _ _ _ _ _ _ _ _ _ _ _ _ _ _ _ _ _ _ _ _ _ _ _ _ _ _ _ _ _ _ _ _ _ _ _ _ _ _ _ _ _ _ _ _ _ _ _ _ _ _ _ _ _ _ _ _ _ _ _ _ _ _ _ _ _ _ _ _ _ _ _ _ _ _ _ _ _ _ _ _ _ _ _ _ _ _ _ _ _ _ _ _ _ _ _ _ _ _ _ _ _ _ _ _ _ _ _ _ _ _ _ _ _ _ _ _ _ _ _ _ _ _ _ _ _ _ _ _ _ _ _ _ _ _ _ _ _ _ _ _ _ _ _ _ _ _ _ _ _ _ _ _ _ _ _ _ _ _ _ _ _ _ _ _ _ _ _ _ _ _ _ _ _ _ _ _ _ _ _ _ _ _ _ _ _ _ _ _ _ _ _ _ _ _ _ _ _ _ _ _ _ _ _ _ _ _ _ _ _ _ _ _ _ _ _ _ _ _ _ _ _ _ _ _ _ _ _ _  a1 a2 a3 a4 aL lc lo L cfull cb cp ofull bs op j k n d Wc pc Ws ps N M FI bs w4.heap.size b2' W2 p2 w w7 HT hn hm hNb hMb hjn hjd hjM hbs3 hb7

set_option maxRecDepth 1000000 in
set_option maxHeartbeats 2000000 in
theorem law5_all (a a' : Option Addr) (cap cap' : Nat) (lc lo : List Nat) (cfull cb cp ofull ob op : Nat) (jI kI nI : Int) (w : World) (hr : RowW w a lc) (hr' : RowW w a' lo) (hnil : a = none → lc.length = 0) (hnil' : a' = none → lo.length = 0) (hX : WB lc) (hXo : WB lo)
    (hn : lc.length ≤ 9223372036854775807) (hm : lo.length ≤ 9223372036854775807) (h1 : cfull < 18446744073709551616) (h2 : cb < 256) (h3 : cp < 256) (h4 : ofull < 18446744073709551616) (h5 : ob < 256) (h6 : op < 256)
    (bj : -9223372036854775808 ≤ jI ∧ jI ≤ 9223372036854775807) (bk : -9223372036854775808 ≤ kI ∧ kI ≤ 9223372036854775807) (bn : -9223372036854775808 ≤ nI ∧ nI ≤ 9223372036854775807) :
    Calls Try.prog 5 #[.slice a lc.length cap, .int .u64 cfull, .int .u8 cb, .int .u8 cp, .slice a' lo.length cap', .int .u64 ofull, .int .u8 ob, .int .u8 op, .int .i64 jI, .int .i64 kI, .int .i64 nI] w fun r w' => r = .returned (.bool true) ∧ Below w.heap.size w w' := by
  by_cases hs : lc.length ≤ 65536 ∧ lo.length ≤ 65536
  · exact law5_main a a' cap cap' lc lo cfull cb cp ofull ob op jI kI nI w hr hr' hnil hnil' hX hXo hs.1 hs.2 h1 h2 h3 h4 h5 h6 bj bk bn
  · go_enter Try.func5, Try.ntmps5
    go_wp2_with fail
    refine (zz18_any a a' cap cap' lc.length lo.length cfull cb cp ofull ob op jI kI nI w (by omega) (by omega)).mono ?_
    rintro r w' ⟨rfl, hw'⟩
    rw [hw']
    clear hw'
    generalize decide (lc.length ≤ 1048576 ∧ lo.length ≤ 1048576 ∧ lc.length + lo.length ≤ 1048576) = z
    cases z
    · go_wp2_with fail
      go_ret
      exact ⟨rfl, Below.refl _ _⟩
    · by_cases h7 : lc.length ≤ 65536
      · have g1 : ¬ ((lc.length : Int) > 65536) := by omega
        have g2 : (lo.length : Int) > 65536 := by omega
        go_wp2_with fail
        go_ret
        exact ⟨rfl, Below.refl _ _⟩
      · have g1 : (lc.length : Int) > 65536 := by omega
        go_wp2_with fail
        go_ret
        exact ⟨rfl, Below.refl _ _⟩

end Go.Proofs.Qxb6601640a
