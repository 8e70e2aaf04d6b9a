/-
  FnAddWordsMatchesCountModel: the walk.
-/
import Derived.Test.Qxb6601640aTail7
import Derived.Deep.DeepCutAuto
namespace Go.Proofs.Qxb6601640a
open Go.RowKit
set_option linter.unusedVariables false
set_option linter.unusedSimpArgs false

/-- Do the first s fields' sums fit? -/
def fitB (W : Nat) (lc : List Nat) (oc : Nat → Nat) (q : Nat) : Nat → Bool
  | 0 => true
  | s + 1 => fitB W lc oc q s && decide (cnt W lc (q + s) + oc (q + s) < 2 ^ W)
theorem fitB_iff (W : Nat) (lc : List Nat) (oc : Nat → Nat) (q n : Nat) : fitB W lc oc q n = true ↔ ∀ s, s < n → cnt W lc (q + s) + oc (q + s) < 2 ^ W := by
  induction n with
  | zero => simp [fitB]
  | succ n ih =>
    simp only [fitB, Bool.and_eq_true, decide_eq_true_eq, ih]
    constructor
    · rintro ⟨h1, h2⟩ s hs
      by_cases he : s = n
      · rw [he]; exact h2
      · exact h1 s (by omega)
    · intro h
      exact ⟨fun s hs => h s (by omega), h n (by omega)⟩

set_option maxRecDepth 1000000 in
set_option maxHeartbeats 4000000 in
theorem law7_main (a a' : Option Addr) (cap cap' : Nat) (lc lo : List Nat) (cfull cb cp ofull ob op i e : Nat) (d : Int) (w : World) (hr : RowW w a lc) (hr' : RowW w a' lo) (hnil : a = none → lc.length = 0) (hnil' : a' = none → lo.length = 0) (hX : WB lc) (hXo : WB lo)
    (hn : lc.length ≤ 65536) (hm : lo.length ≤ 65536) (h1 : cfull < 18446744073709551616) (h2 : cb < 256) (h3 : cp < 256) (h4 : ofull < 18446744073709551616) (h5 : ob < 256) (h6 : op < 256)
    (hi : i ≤ 9223372036854775807) (he : e ≤ 9223372036854775807) (hd : -9223372036854775808 ≤ d ∧ d ≤ 9223372036854775807) :
    Calls Try.prog 7 #[.slice a lc.length cap, .int .u64 cfull, .int .u8 cb, .int .u8 cp, .slice a' lo.length cap', .int .u64 ofull, .int .u8 ob, .int .u8 op, .int .i64 i, .int .i64 e, .int .i64 d] w fun r w' => r = .returned (.bool true) ∧ Below w.heap.size w w' := by
  have g1 : ¬ ((lc.length : Int) > 65536) := by omega
  have g2 : ¬ ((lo.length : Int) > 65536) := by omega
  go_enter Try.func7, Try.ntmps7
  go_wp2_with fail
  refine (zz25_any a a' cap cap' lc.length lo.length cfull cb cp ofull ob op i e d w (by omega) (by omega)).mono ?_
  rintro r w' ⟨rfl, hw'⟩
  rw [hw', show decide (lc.length ≤ 1048576 ∧ lo.length ≤ 1048576 ∧ lc.length + lo.length ≤ 1048576) = true by rw [decide_eq_true_iff]; omega]
  clear hw'
  go_wp2_with fail
  refine (prem26_pos a a' cap cap' lc.length lo.length cfull cb cp ofull ob op i e d w hn hm h1 h2 h3 h4 h5 h6 hi he hd).mono ?_
  rintro r w' ⟨hv, hw'⟩
  rw [hw']
  clear hw'
  rcases hv with rfl | ⟨rfl, W, p, Wo, po, P⟩
  · go_wp2_with fail
    go_ret
    exact ⟨rfl, Below.refl _ _⟩
  clear hi he hd
  go_wp2_with fail
  refine (cloneWords_any a cap lc w hr hnil (by omega)).mono ?_
  rintro r w1 ⟨v1, rfl, o1, c1, f1⟩
  obtain ⟨a1, hv1, z1, r1, b1⟩ := o1.shape
  subst hv1
  go_wp2_with fail
  refine (cloneWords_any a' cap' lo w1 (hr'.chg c1 (fun _ _ h => h)) hnil' (by omega)).mono ?_
  rintro r w2 ⟨v2, rfl, o2, c2, f2⟩
  obtain ⟨a2, hv2, z2, r2, b2⟩ := o2.shape
  subst hv2
  have r12 := r1.chg c2 (fun _ _ h => h)
  go_wp2_with fail
  refine (cloneWords_any a1 lc.length lc w2 r12 z1 (by omega)).mono ?_
  rintro r w3 ⟨v3, rfl, o3, c3, f3⟩
  obtain ⟨a3, hv3, z3, r3, b3⟩ := o3.shape
  subst hv3
  have r23 := r2.chg c3 (fun _ _ h => h)
  go_wp2_with fail
  refine (cloneWords_any a2 lo.length lo w3 r23 z2 (by omega)).mono ?_
  rintro r w4 ⟨v4, rfl, o4, c4, f4⟩
  obtain ⟨a4, hv4, z4, r4, b4⟩ := o4.shape
  subst hv4
  go_wp2_with fail
  refine (ZZMake_any _ a1 lc.length lc.length rfl cfull cb cp w4).mono ?_
  rintro r w5 ⟨rfl, hBc, c5, s5⟩
  go_wp2_with fail
  refine (ZZMake_any _ a2 lo.length lo.length rfl ofull ob op w5).mono ?_
  rintro r w6 ⟨rfl, hBo, c6, s6⟩
  rw [s5] at hBo s6
  have c14 : Chg (fun _ => False) w1 w4 := (c2.trans c3 (fun _ _ h => h)).trans c4 (fun _ _ h => h)
  have c16 : Chg (fun _ => False) w1 w6 := (c14.trans c5 (fun _ _ h => h)).trans c6 (fun _ _ h => h)
  have c26 : Chg (fun _ => False) w2 w6 := ((c3.trans c4 (fun _ _ h => h)).trans c5 (fun _ _ h => h)).trans c6 (fun _ _ h => h)
  have c36 : Chg (fun _ => False) w3 w6 := (c4.trans c5 (fun _ _ h => h)).trans c6 (fun _ _ h => h)
  have c46 : Chg (fun _ => False) w4 w6 := c5.trans c6 (fun _ _ h => h)
  have o16 := o1.chg c16 (fun _ _ h => h)
  have o26 := o2.chg c26 (fun _ _ h => h)
  have hBc6 := hBc.chg c6 (fun h => h)
  have l1 := o1.lt
  have l2 := o2.lt
  have l3 := o3.lt
  have sz := c14.size
  have sz2 := c2.size
  have sz3 := c3.size
  have sz4 := c4.size
  obtain ⟨y, hYC, hyl, hcall⟩ := addWords_all P hn hm hX hXo
  have hcal := hcall w4.heap.size (w4.heap.size + 1) _ _ w6 hBc6 hBo o16 o26 (fun b hb hb2 => by have := l1 b hb; have := f2 b hb2; omega)
  have hb06 : Below w.heap.size w w6 := (c1.trans c16 (fun _ _ h => h)).below (Nat.le_refl _) (fun _ h => h.elim)
  have HCAL := hideP hcal
  have HYC := hideP hYC
  have HYL := hideP hyl
  clear hcal hcall hYC hyl
  go_wp2_with fail
  refine (ZZAddWords_of (P := fun u v w' => ∃ ts FI : Nat, u = .int .i64 ((ts * p : Nat) : Int) ∧ v = .int .i64 (FI : Int) ∧ Hid (∃ L, R7 W p lc (ocOf Wo lo d) L (i / p) ((e + p - 1) / p) ts FI ∧ OW w' (.slice a1 lc.length lc.length) L ∧ Chg (fun b => (Value.slice a1 lc.length lc.length).ownBlock = some b) w6 w')) (HCAL.out.mono ?_)).mono ?_
  · rintro r w' ⟨ts, h1, h2, h3, h4, h5, h6, h7⟩
    exact ⟨_, _, h1, ts, _, rfl, rfl, _, R7.of HYC.out hX HYL.out h2 h3 h4 h5, h6, h7⟩
  rintro r w7 ⟨u, v, rfl, ts, FI, rfl, rfl, H⟩
  obtain ⟨L, hR7, oL, c7⟩ := H.out
  have n1 : ∀ b, (Value.slice a1 lc.length lc.length).ownBlock = some b → b < w1.heap.size := l1
  have hBc7 : Box w7 w4.heap.size _ cfull cb cp := hBc6.chg c7 (fun h => by have := n1 _ h; omega)
  have hBo7 : Box w7 (w4.heap.size + 1) _ ofull ob op := hBo.chg c7 (fun h => by have := n1 _ h; omega)
  have r37 : RowW w7 a3 lc := (r3.chg c36 (fun _ _ h => h)).chg c7 (fun x hx h => by have := n1 _ h; have := f3 _ (b3 x hx); omega)
  have r47 : RowW w7 a4 lo := (r4.chg c46 (fun _ _ h => h)).chg c7 (fun x hx h => by have := n1 _ h; have := f4 _ (b4 x hx); omega)
  have r27 : RowW w7 a2 lo := ((r2.chg c26 (fun _ _ h => h))).chg c7 (fun x hx h => by have := n1 _ h; have := f2 _ (b2 x hx); omega)
  have hb07 : Below w.heap.size w w7 := hb06.trans (c7.below hb06.size (fun k hk => f1 k hk))
  obtain ⟨aL, hvL, -, rL, -⟩ := oL.shape
  have haL : aL = a1 := by
    simp only [Value.slice.injEq] at hvL
    exact hvL.1.symm
  rw [haL] at rL
  clear hvL haL oL c7 H HCAL HYC HYL c1 c2 c3 c4 c5 c6 c14 c16 c26 c36 c46 o16 o26 o1 o2 o3 o4 hBc6 hBc hBo l1 l2 l3 f1 f2 f3 f4 b1 b2 b3 b4 r1 r2 r3 r4 r12 r23 hr hr' n1 z1 z2 z3 z4
  have HR7 := hideP hR7
  have HBc := hideP hBc7
  have HBo := hideP hBo7
  clear hR7 hBc7 hBo7
  have hper := P.per
  have p1 := P.p1
  have p8 := P.p8
  have hwp := P.wp
  have hwpo := P.wpo
  have hWc := P.lc.wid
  have hWo := P.lo.wid
  have hfull := P.lc.full
  obtain ⟨t0, ht0⟩ : ∃ t0, i / p = t0 := ⟨_, rfl⟩
  obtain ⟨t1, ht1⟩ : ∃ t1, (e + p - 1) / p = t1 := ⟨_, rfl⟩
  have hi0 : t0 * p = i := by
    have : p ∣ i := Int.natCast_dvd_natCast.1 P.pi
    rw [← ht0, Nat.div_mul_cancel this]
  rw [ht0, ht1] at HR7
  obtain ⟨H, hH⟩ : ∃ H, t1 * p = H := ⟨_, rfl⟩
  obtain ⟨N, hN⟩ : ∃ N, lc.length * p = N := ⟨_, rfl⟩
  obtain ⟨M, hM⟩ : ∃ M, lo.length * po = M := ⟨_, rfl⟩
  have hNi : (lc.length : Int) * (p : Int) = (N : Int) := by rw [← hN]; simp
  have hNb : N ≤ 524288 := by rw [← hN]; exact Nat.mul_le_mul hn p8
  have heN : e ≤ N := by rw [← hN]; exact P.en
  have hHM : (H : Int) + d ≤ (M : Int) := by
    have := P.hi
    rw [ht1, hH, hM] at this
    exact this
  have hHN : H ≤ N := by
    have h3 : t1 ≤ lc.length := by
      rcases Nat.lt_or_ge lc.length t1 with h | h
      · have h4 : (lc.length + 1) * p ≤ t1 * p := Nat.mul_le_mul_right _ h
        have h5 := Nat.div_mul_le_self (e + p - 1) p
        rw [ht1] at h5
        rw [Nat.add_mul] at h4
        omega
      · exact h
    rw [← hH, ← hN]
    exact Nat.mul_le_mul_right _ h3
  obtain ⟨ST, hST⟩ : ∃ ST, ts * p = ST := ⟨_, rfl⟩
  rw [hST]
  have hSTH : ST ≤ H := by rw [← hST, ← hH]; exact Nat.mul_le_mul_right _ HR7.out.le1
  have hiST : i ≤ ST := by rw [← hST, ← hi0]; exact Nat.mul_le_mul_right _ HR7.out.le0
  have hd1 := P.d1
  have hd2 := P.d2
  have hid := P.id
  have hrw := roundUp_any e p t1 w7 (by omega) (by omega) p8 ht1
  rw [hH] at hrw
  have hle : Wo ≤ W := by
    have h1 := P.ob
    rcases hWc with ⟨rfl, rfl⟩ | ⟨rfl, rfl⟩ | ⟨rfl, rfl⟩ | ⟨rfl, rfl⟩ <;> rcases hWo with ⟨rfl, rfl⟩ | ⟨rfl, rfl⟩ | ⟨rfl, rfl⟩ | ⟨rfl, rfl⟩ <;> omega
  have HT : Hid (T7 w7 a1 a2 a3 a4 lc lo L cfull cb cp ofull ob op i d W p Wo po N H M ST FI t0 t1 ts w4.heap.size) :=
    ⟨HR7.out, HBc.out, HBo.out, r37, r47, r27, rL, hX, hXo, hWc, hWo, hfull, hwp, hwpo, hle, hi0, hH, hN, hM, hST⟩
  have hb7 := hb07
  clear P hi0 hH hN hM hST hwp hwpo hfull ht0 ht1 HR7 HBc HBo r37 r47 r27 rL hWc hWo hle hX hXo hb07 hb06
  go_wp2_with fail
  refine hrw.mono ?_
  rintro r w' ⟨rfl, hw'⟩
  rw [hw']
  clear hw' hrw
  go_wp2_with fail
  go_loop [32, 33, 34, 35] (fun sv qv _ _ => ∃ k qn : Nat, qv = .int .i64 qn ∧ Hid (qn = k * p) ∧ Hid (t0 ≤ k ∧ k ≤ ts) ∧ qn ≤ ST ∧ i ≤ qn ∧ sv = .int .i64 H) (fun _ qv _ _ => H - (intOf qv).toNat)
  case atStart =>
    refine ⟨t0, i, rfl, ?_, ⟨Nat.le_refl _, HT.out.r.le0⟩, hiST, Nat.le_refl _, rfl⟩
    exact HT.out.i0.symm
  case round =>
    obtain ⟨k, qn, rfl, HQ, HK, hqS, hiq, rfl⟩ := hrel
    by_cases hlt : qn < H
    · have hli : (qn : Int) < (H : Int) := by omega
      have hkt1 : k < t1 := by
        have h1 := HQ.out
        have h2 := HT.out.hH
        rcases Nat.lt_or_ge k t1 with h | h
        · exact h
        · have := Nat.mul_le_mul_right p h
          omega
      have hqp : qn + p ≤ H := by
        have h1 := HQ.out
        have h2 := HT.out.hH
        have := Nat.mul_le_mul_right p (show k + 1 ≤ t1 by omega)
        rw [Nat.add_mul, Nat.one_mul] at this
        omega
      go_wp2_with fail
      go_loop [34, 35] (fun fv tv => ∃ s : Nat, s ≤ p ∧ tv = .int .i64 s ∧ fv = .bool (fitB W lc (ocOf Wo lo d) qn s)) (fun _ tv => p - (intOf tv).toNat)
      case atStart => exact ⟨0, Nat.zero_le _, rfl, rfl⟩
      case round =>
        obtain ⟨s, hs, rfl, rfl⟩ := hrel
        by_cases hsp : s < p
        · have hsi : (s : Int) < (p : Int) := by omega
          have k1 := HT.out.c3 hn ((qn : Int) + (s : Int)) (by omega) (by omega)
          have k2 := HT.out.c4 hm ((qn : Int) + (s : Int) + d) (by omega) (by omega)
          have e1 : ((qn : Int) + (s : Int)).toNat = qn + s := by omega
          have e2 : cnt Wo lo ((qn : Int) + (s : Int) + d).toNat = ocOf Wo lo d (qn + s) := by unfold ocOf; congr 1
          have hstep : fitB W lc (ocOf Wo lo d) qn (s + 1) = (fitB W lc (ocOf Wo lo d) qn s && decide (cnt W lc (qn + s) + ocOf Wo lo d (qn + s) < 2 ^ W)) := rfl
          have hyl : ocOf Wo lo d (qn + s) ≤ cfull := by
            have h1 := cnt_lt Wo lo (((qn + s : Nat) : Int) + d).toNat
            have h2 : 2 ^ Wo ≤ 2 ^ W := Nat.pow_le_pow_right (by decide) HT.out.le
            have h3 := HT.out.full
            unfold ocOf
            omega
          have hf2 : cfull + 1 = 2 ^ W := by have h3 := HT.out.full; have := Nat.two_pow_pos W; omega
          rw [e1] at k1
          rw [e2] at k2
          generalize hx : cnt W lc (qn + s) = x at *
          generalize hy : ocOf Wo lo d (qn + s) = yv at *
          rw [← hf2] at hstep
          generalize fitB W lc (ocOf Wo lo d) qn s = b0 at *
          have HSTEP := hideP hstep
          clear e1 e2 hstep hf2 hx hy
          by_cases hov : x + yv < cfull + 1
          · have g1 : ¬ ((x : Int) > (cfull : Int) - (yv : Int)) := by omega
            go_wp2_with fail
            refine k1.mono ?_
            rintro r w' ⟨rfl, hw'⟩
            rw [hw']
            clear hw'
            go_wp2_with fail
            refine k2.mono ?_
            rintro r w' ⟨rfl, hw'⟩
            rw [hw']
            clear hw'
            go_wp2_with fail
            go_round
            case rel => exact ⟨s + 1, by omega, by go_num, by rw [HSTEP.out, decide_eq_true hov, Bool.and_true]⟩
            case measure => simp [intOf]; omega
          · have g1 : (x : Int) > (cfull : Int) - (yv : Int) := by omega
            go_wp2_with fail
            refine k1.mono ?_
            rintro r w' ⟨rfl, hw'⟩
            rw [hw']
            clear hw'
            go_wp2_with fail
            refine k2.mono ?_
            rintro r w' ⟨rfl, hw'⟩
            rw [hw']
            clear hw'
            go_wp2_with fail
            go_round
            case rel => exact ⟨s + 1, by omega, by go_num, by rw [HSTEP.out, decide_eq_false hov, Bool.and_false]⟩
            case measure => simp [intOf]; omega
        · have hsi : ¬ ((s : Int) < (p : Int)) := by omega
          obtain rfl : s = p := by omega
          have hfb := fitB_iff W lc (ocOf Wo lo d) qn s
          by_cases hkts : k < ts
          · have hft : fitB W lc (ocOf Wo lo d) qn s = true := by
              rw [hfb, HQ.out]
              exact HT.out.r.fit k HK.out.1 hkts
            rw [hft]
            have hnq : qn + s = (k + 1) * s := by rw [HQ.out, Nat.add_mul, Nat.one_mul]
            have HNQ := hideP hnq
            have hqS2 : qn + s ≤ ST := by
              rw [hnq, ← HT.out.hST]
              exact Nat.mul_le_mul_right _ hkts
            clear hfb hft hnq
            go_wp2_with fail
            go_round
            case rel => exact ⟨k + 1, qn + s, by go_num, HNQ.out, ⟨by have := HK.out.1; omega, hkts⟩, hqS2, by omega, rfl⟩
            case measure => simp [intOf]; omega
          · have hke : k = ts := by have := HK.out.2; omega
            have hft : fitB W lc (ocOf Wo lo d) qn s = false := by
              rw [Bool.eq_false_iff]
              intro h
              rw [hfb, HQ.out, hke] at h
              exact HT.out.r.not (by omega) h
            rw [hft]
            obtain rfl : ST = qn := by rw [HQ.out, hke]; exact HT.out.hST.symm
            clear hfb hft hke
            iterate 50 go_step
            exact law7_tail31 _ _ _ _ _ _ _ _ _ _ _ _ _ _ _ _ _ _ _ _ _ _ _ _ _ _ _ _ _ _ _ _ _ _ _ _ _ _ _ _ _ _ _ _ _ _ _ _ _ _ _ _ _ _ _ _ _ _ _ _ _ _ _ _ _ _ _ _ _ _ _ _ _ _ _ _ _ _ _ _ _ _ _ _ _ _ _ _ _ _ _ _ _ _ _ _ _ _ _ _ _ _ _ _ _ _ _ _ _ _ _ _ _ _ _ _ _ _ _ _ _ _ _ _ _ _ _ _ _ _ _ _ _ _ _ _ _ _ _ _ _ _ _ _ _ _ _ _ _ _ _ _ _ _ _ _ _ _ _ _ _ _ _ _ _ _ _ _ _ _ _ _ _ _ _ _ _ _ _ _ _ _ _ _ _ _ _ _ _ _ _ _ _ _ _ _ _ _ _ _ _ _ _ _ _ _ _ _ _ _ _ _ _ _ _ _ _ _ _ _ _ _ _ _ _ _ _ _ _ _ _ _ _ _ _ _ _ _ _ _ _ a1 a2 a3 a4 lc lo L cfull cb cp ofull ob op i e d W s Wo po N H M ST FI t0 t1 ts w4.heap.size w w7 HT hn hm h1 hNb hSTH hHN hiST hid hHM hd1 hd2 hb7
    · have hli : ¬ ((qn : Int) < (H : Int)) := by omega
      obtain rfl : H = ST := by omega
      iterate 22 go_step
      exact law7_tail31 _ _ _ _ _ _ _ _ _ _ _ _ _ _ _ _ _ _ _ _ _ _ _ _ _ _ _ _ _ _ _ _ _ _ _ _ _ _ _ _ _ _ _ _ _ _ _ _ _ _ _ _ _ _ _ _ _ _ _ _ _ _ _ _ _ _ _ _ _ _ _ _ _ _ _ _ _ _ _ _ _ _ _ _ _ _ _ _ _ _ _ _ _ _ _ _ _ _ _ _ _ _ _ _ _ _ _ _ _ _ _ _ _ _ _ _ _ _ _ _ _ _ _ _ _ _ _ _ _ _ _ _ _ _ _ _ _ _ _ _ _ _ _ _ _ _ _ _ _ _ _ _ _ _ _ _ _ _ _ _ _ _ _ _ _ _ _ _ _ _ _ _ _ _ _ _ _ _ _ _ _ _ _ _ _ _ _ _ _ _ _ _ _ _ _ _ _ _ _ _ _ _ _ _ _ _ _ _ _ _ _ _ _ _ _ _ _ _ _ _ _ _ _ _ _ _ _ _ _ _ _ _ _ _ _ _ _ _ _ _ _ a1 a2 a3 a4 lc lo L cfull cb cp ofull ob op i e d W p Wo po N H M H FI t0 t1 ts w4.heap.size w w7 HT hn hm h1 hNb hSTH hHN hiST hid hHM hd1 hd2 hb7

end Go.Proofs.Qxb6601640a
