/-
  FnAddAllSelfMergeDoubles: the walk.
-/
import Derived.Test.Qxb6601640aPrem6
namespace Go.Proofs.Qxb6601640a
open Go.RowKit
set_option linter.unusedVariables false
set_option linter.unusedSimpArgs false

/-- What the run holds behind the merge, plainly. -/
structure R6 (C : Nat → Nat) (N j n b0 b W p : Nat) (l : List Nat) : Prop where
  wid : Wid b W
  wp : W * p = 64
  len : l.length * p = N
  wb : WB l
  ge : b0 ≤ b
  least : Least C C j n b0 b
  cn : ∀ m, m < N → cnt W l m = if j ≤ m ∧ m < j + n then C m + C m else C m

theorem marks_zero {f : Nat → Bool} (h : ∀ x, f x = false) (n : Nat) : marks f n = 0 := by
  induction n with
  | zero => rfl
  | succ n ih =>
    show marks f n + (if f n = true then 1 else 0) = 0
    rw [ih, h n]; rfl

theorem wid_per {b W p : Nat} (h : Wid b W) (hp : W * p = 64) : (64 : Int) / 2 ^ min b 64 = (p : Int) ∧ 3 ≤ b ∧ b ≤ 6 ∧ W ≤ 64 ∧ 0 < p := by
  rcases h with ⟨rfl, rfl⟩ | ⟨rfl, rfl⟩ | ⟨rfl, rfl⟩ | ⟨rfl, rfl⟩
  · obtain rfl : p = 8 := by omega
    decide
  · obtain rfl : p = 4 := by omega
    decide
  · obtain rfl : p = 2 := by omega
    decide
  · obtain rfl : p = 1 := by omega
    decide

set_option maxRecDepth 1000000 in
set_option maxHeartbeats 8000000 in
theorem law6_main (a : Option Addr) (cap : Nat) (l : List Nat) (full b pl : Nat) (jI nI : Int) (w : World) (hr : RowW w a l) (hnil : a = none → l.length = 0) (hX : WB l) (hlen : l.length ≤ 131072) (h1 : full < 18446744073709551616) (h2 : b < 256) (h3 : pl < 256)
    (hj : -9223372036854775808 ≤ jI ∧ jI ≤ 9223372036854775807) (hn : -9223372036854775808 ≤ nI ∧ nI ≤ 9223372036854775807) :
    Calls Try.prog 6 #[.slice a l.length cap, .int .u64 full, .int .u8 b, .int .u8 pl, .int .i64 jI, .int .i64 nI] w fun r w' => r = .returned (.bool true) ∧ Below w.heap.size w w' := by
  have g1 : ¬ ((l.length : Int) > 131072) := by omega
  go_enter Try.func6, Try.ntmps6
  go_wp2_with fail
  refine (zz23_any a l.length cap full b pl jI nI w (by omega)).mono ?_
  rintro r w' ⟨rfl, hw'⟩
  rw [hw', show decide (l.length ≤ 1048576) = true by simp; omega]
  clear hw'
  go_wp2_with fail
  refine (prem24_any a cap l full b pl jI nI w hr hX hlen h1 h2 h3 hj hn).mono ?_
  rintro r w' ⟨hv, hw'⟩
  rw [hw']
  clear hw'
  rcases hv with rfl | ⟨rfl, hP⟩
  · go_wp2_with fail
    go_ret
    exact ⟨rfl, Below.refl _ _⟩
  obtain ⟨j, n, W, p, rfl, rfl, P⟩ := hP
  clear hj hn
  go_wp2_with fail
  refine (cloneWords_any a cap l w hr hnil (by omega)).mono ?_
  rintro r w1 ⟨v1, rfl, o1, c1, f1⟩
  obtain ⟨a1, hv1, z1, r1, b1⟩ := o1.shape
  subst hv1
  go_wp2_with fail
  refine (cloneWords_any a1 l.length l w1 r1 z1 (by omega)).mono ?_
  rintro r w2 ⟨v2, rfl, o2, c2, f2⟩
  obtain ⟨a2, hv2, z2, r2, b2⟩ := o2.shape
  subst hv2
  go_wp2_with fail
  refine (ZZMake_any _ a1 l.length l.length rfl full b pl w2).mono ?_
  rintro r w3 ⟨rfl, hB, c3, s3⟩
  obtain ⟨N, hN⟩ : ∃ N, l.length * p = N := ⟨_, rfl⟩
  have hNb : N ≤ 1048576 := by rw [← hN]; exact Nat.mul_le_mul hlen P.p8
  have hjn : j + n ≤ N := by rw [← hN]; exact P.jn
  obtain ⟨hper, hb3, hb6, hW64, hp0⟩ := wid_per P.lay.wid P.wp
  have hper' : (64 : Int) / 2 ^ b = (p : Int) := by rw [← hper, Nat.min_eq_left (by omega)]
  have hup : (j + n + p - 1) / p * p ≤ N := up_room hN hp0 hjn
  have hjhi : j + n ≤ (j + n + p - 1) / p * p := by
    have := Nat.div_add_mod (j + n + p - 1) p
    have h2 := Nat.mod_lt (j + n + p - 1) hp0
    rw [Nat.mul_comm] at this
    omega
  have hjlo : j / p * p ≤ j := Nat.div_mul_le_self _ _
  have o13 : OW w3 (.slice a1 l.length l.length) l := (o1.chg c2 (fun _ _ h => h)).chg c3 (fun _ _ h => h)
  have r23 : RowW w3 a2 l := r2.chg c3 (fun _ _ h => h)
  have l1 := o1.lt
  have l2 := o2.lt
  have sz2 := c2.size
  have sz3 := c3.size
  have c03 : Chg (fun _ => False) w w3 := (c1.trans c2 (fun _ _ h => h)).trans c3 (fun _ _ h => h)
  have hsum : ∀ m, j ≤ m → m < j + n → cnt W l m + cnt W l m < 18446744073709551616 := fun m h7 h8 => by
    have := (P.all m (by omega) (by omega)).1 ⟨h7, h8⟩
    omega
  have hcall := addAll_self w2.heap.size j n b pl full W p (.slice a1 l.length l.length) l P.lay P.wp w3 hB o13 hX N hN (by omega) hjn (fun m h7 h8 h9 => (P.all m h7 h8).2 h9) hsum
  have HCALL := hideP hcall
  have hs1 := c1.size
  have HP := hideP P
  have hwidb := P.lay.wid
  have hpw := P.wp
  clear hcall hB o13
  go_wp2_with fail
  refine (ZZAddAll_of (P := fun f w' => f = 0 ∧ Hid (∃ b2 W2 p2 v2 l2, R6 (cnt W l) N j n b b2 W2 p2 l2 ∧ Box w' w2.heap.size v2 (2 ^ W2 - 1) b2 (6 - b2) ∧ OW w' v2 l2 ∧ RowW w' a2 l ∧ Below w.heap.size w w')) (HCALL.out.mono ?_)).mono ?_
  · rintro r w' ⟨f, i, b', W', p', v', l', hr', hA, he1, he2, hbb, hle, hf⟩
    refine ⟨f, hr', ?_, b', W', p', v', l', ⟨hA.wid, hA.wp, hA.len, hA.wb, hbb, hle, fun m hm => ?_⟩, hA.box, hA.ow, ?_, ?_⟩
    · rw [hf]
      exact marks_zero (fun x => by unfold isN; rw [decide_eq_false_iff_not]; exact fun h => h.2 h.1) _
    · rw [hA.cn m hm]
      by_cases hin : j ≤ m ∧ m < j + n
      · rw [if_pos hin, if_pos (by omega)]
      · rw [if_neg hin]
        by_cases h7 : j / p * p ≤ m ∧ m < i
        · rw [if_pos h7, (HP.out.all m h7.1 (by omega)).2 hin]
        · rw [if_neg h7]
    · refine r23.chg hA.ch (fun x hx h => ?_)
      have hf2 := f2 _ (b2 x hx)
      have hl2 := l2 _ (b2 x hx)
      rcases h with h | h | h
      · omega
      · have := l1 _ h; omega
      · omega
    · exact ((c03.mono (G := fun x => w.heap.size ≤ x) (fun _ _ h => h.elim)).trans hA.ch (fun x hx h => by
        rcases h with h | h | h
        · omega
        · exact f1 x h
        · omega)).below (Nat.le_refl _) (fun _ h => h)
  rintro r w4 ⟨f, rfl, rfl, H⟩
  obtain ⟨bb, W2, p2, v2, l2', hR, hB4, ow4, r24, hbel⟩ := H.out
  obtain ⟨aL, hvL, -, rL, -⟩ := ow4.shape
  subst hvL
  obtain ⟨hper2, hbb3, hbb6, hW264, hp20⟩ := wid_per hR.wid hR.wp
  have hper2' : (64 : Int) / 2 ^ bb = (p2 : Int) := by rw [← hper2, Nat.min_eq_left (by omega)]
  have hl2N : (l2'.length : Int) * (p2 : Int) = (N : Int) := by
    have := hR.len
    rw [← this]; simp
  have hlN : (l.length : Int) * (p : Int) = (N : Int) := by rw [← hN]; simp
  have hl2b : l2'.length ≤ 1048576 := by
    have := hR.len
    have h7 : l2'.length * 1 ≤ l2'.length * p2 := Nat.mul_le_mul_left _ hp20
    omega
  obtain ⟨e, he⟩ : ∃ e, j + n = e := ⟨_, rfl⟩
  have hei : (j : Int) + (n : Int) = (e : Int) := by omega
  have k0 := fun (m : Int) (h0 : 0 ≤ m) (hm : m < (N : Int)) => countAt_int a2 l.length l b W m w4 r24 hwidb h0 (in_word hpw hp0 (by rw [hN]; omega)) (by omega) hX
  have HR := hideP hR
  have HB4 := hideP hB4
  have HRL := hideP rL
  have HR24 := hideP r24
  have HK0 := hideP k0
  have HSUM := hideP hsum
  have HE := hideP he
  have HN := hideP hN
  clear H hR hB4 ow4 rL r24 k0 hsum he c1 c2 c3 o1 o2 f1 f2 b1 b2 r1 r2 z1 z2 l1 l2 HCALL c03 r23 hr P hN
  go_wp2_with fail
  go_loop [17, 18, 19] (fun tv mv _ => ∃ m mx : Nat, mv = .int .i64 m ∧ tv = .int .u64 mx ∧ j ≤ m ∧ m ≤ e ∧ mx < 18446744073709551616 ∧ Hid (∀ m', j ≤ m' → m' < m → cnt W l m' + cnt W l m' ≤ mx) ∧ Hid (mx = 0 ∨ ∃ m', j ≤ m' ∧ m' < e ∧ mx = cnt W l m' + cnt W l m')) (fun _ mv _ => e - (intOf mv).toNat)
  case atStart => exact ⟨j, 0, rfl, rfl, Nat.le_refl _, by have := HE.out; omega, by decide, fun m' h7 h8 => absurd h8 (by omega), .inl rfl⟩
  case round =>
    obtain ⟨m, mx, rfl, rfl, hm1, hm2, hmx, HM1, HM2⟩ := hrel
    have hE := HE.out
    by_cases hlt : m < e
    · have hli : (m : Int) < (e : Int) := by omega
      have kc := HK0.out (m : Int) (by omega) (by omega)
      have hs := HSUM.out m hm1 (by omega)
      rw [Int.toNat_natCast] at kc
      have HN1 : Hid (mx < cnt W l m + cnt W l m → ∀ m', j ≤ m' → m' < m + 1 → cnt W l m' + cnt W l m' ≤ cnt W l m + cnt W l m) := fun h7 m' h8 h9 => by
        by_cases h10 : m' = m
        · rw [h10]; exact Nat.le_refl _
        · have := HM1.out m' h8 (by omega); omega
      have HN2 : Hid (¬ (mx < cnt W l m + cnt W l m) → ∀ m', j ≤ m' → m' < m + 1 → cnt W l m' + cnt W l m' ≤ mx) := fun h7 m' h8 h9 => by
        by_cases h10 : m' = m
        · rw [h10]; omega
        · exact HM1.out m' h8 (by omega)
      have HN3 : Hid (∃ m', j ≤ m' ∧ m' < e ∧ cnt W l m + cnt W l m = cnt W l m' + cnt W l m') := ⟨m, hm1, hlt, rfl⟩
      generalize cnt W l m = v at *
      by_cases hgt : mx < v + v
      · have g2 : (v : Int) + (v : Int) > (mx : Int) := by omega
        have H1 := hideP (HN1.out hgt)
        clear HN1 HN2
        go_wp2_with fail
        refine kc.mono ?_
        rintro r w' ⟨rfl, hw'⟩
        rw [hw']
        clear hw'
        go_wp2_with fail
        go_round
        case rel => exact ⟨m + 1, v + v, by go_num, by go_num, by omega, by omega, by omega, H1.out, .inr HN3.out⟩
        case measure => simp [intOf]; omega
      · have g2 : ¬ ((v : Int) + (v : Int) > (mx : Int)) := by omega
        have H1 := hideP (HN2.out hgt)
        clear HN1 HN2
        go_wp2_with fail
        refine kc.mono ?_
        rintro r w' ⟨rfl, hw'⟩
        rw [hw']
        clear hw'
        go_wp2_with fail
        go_round
        case rel => exact ⟨m + 1, mx, by go_num, by go_num, by omega, by omega, by omega, H1.out, HM2.out⟩
        case measure => simp [intOf]; omega
    · have hli : ¬ ((m : Int) < (e : Int)) := by omega
      obtain rfl : m = e := by omega
      have hv2 : mx < 2 ^ W2 := by
        rcases HM2.out with h | ⟨m', h7, h8, h9⟩
        · rw [h]; exact Nat.two_pow_pos W2
        · have := HR.out.cn m' (by omega)
          rw [if_pos ⟨h7, by omega⟩] at this
          rw [h9, ← this]
          exact cnt_lt _ _ _
      have hll : ∀ b' W', Wid b' W' → b ≤ b' → b' < bb → 2 ^ W' ≤ mx := fun b' W' h7 h8 h9 => by
        obtain ⟨m', h10, h11, h12⟩ := HR.out.least b' W' h7 h8 h9
        have := HM1.out m' h10 (by omega)
        omega
      have hnar := narrowest_any b bb W2 mx HR.out.wid HR.out.ge hb3 hv2 hmx hll w4
      have hmask := fun w' => maskOf_any bb W2 HR.out.wid w'
      have hBx := HB4.out
      have HNAR := hideP hnar
      have HMASK := hideP hmask
      have hsub : (6 : Int) - (bb : Int) = ((6 - bb : Nat) : Int) := by omega
      generalize hfl : 2 ^ W2 - 1 = fl2 at *
      clear hnar hmask hv2 hll hE
      go_wp2_with fail
      refine HNAR.out.mono ?_
      rintro r w' ⟨rfl, hw'⟩
      rw [hw']
      clear hw'
      go_wp2_with fail
      refine (ZZFields_any _ _ _ _ _ w4 hBx).mono ?_
      rintro r w5 ⟨rfl, q5, hw5⟩
      have rL5 : RowW w5 aL l2' := by rw [hw5]; exact HRL.out
      have r25 : RowW w5 a2 l := by rw [hw5]; exact HR24.out
      have hbel5 : Below w.heap.size w w5 := by
        rw [hw5]
        exact hbel.trans (((Chg.refl (fun _ => False) w4).drewN q5).below hbel.size (fun _ h => h.elim))
      clear hw5 hBx HB4 HRL HR24
      go_wp2_with fail
      refine (HMASK.out _).mono ?_
      rintro r w' ⟨rfl, hw'⟩
      rw [hw']
      clear hw'
      go_wp2_with fail
      go_loop [25, 26] (fun mv _ => ∃ k : Nat, k ≤ N ∧ mv = .int .i64 k) (fun mv _ => N - (intOf mv).toNat)
      case atStart => exact ⟨0, Nat.zero_le _, rfl⟩
      case round =>
        obtain ⟨k, hk, rfl⟩ := hrel
        by_cases hlt2 : k < N
        · have hki : (k : Int) < (N : Int) := by omega
          have k1 := countAt_any a2 l.length l b k W w5 r25 hwidb (in_word hpw hp0 (by rw [HN.out]; exact hlt2)) (by omega) hX
          have k3 := countAt_any aL l2'.length l2' bb k W2 w5 rL5 HR.out.wid (in_word HR.out.wp hp20 (by rw [HR.out.len]; exact hlt2)) (by omega) HR.out.wb
          have hcn := HR.out.cn k hlt2
          by_cases hin : j ≤ k ∧ k < j + n
          · rw [if_pos hin] at hcn
            rw [hcn] at k3
            have hs := HSUM.out k hin.1 hin.2
            have hE2 := HE.out
            have g2 : (j : Int) ≤ (k : Int) := by omega
            have g3 : (k : Int) < (m : Int) := by omega
            clear hcn hin hE2
            generalize cnt W l k = x at *
            go_wp2_with fail
            refine k1.mono ?_
            rintro r w' ⟨rfl, hw'⟩
            rw [hw']
            clear hw'
            go_wp2_with fail
            refine k3.mono ?_
            rintro r w' ⟨rfl, hw'⟩
            rw [hw']
            clear hw'
            go_wp2_with fail
            go_round
            case rel => exact ⟨k + 1, by omega, by go_num⟩
            case measure => simp [intOf]; omega
          · rw [if_neg hin] at hcn
            rw [hcn] at k3
            have hE2 := HE.out
            clear hcn
            generalize cnt W l k = x at *
            by_cases hge : j ≤ k
            · have g2 : (j : Int) ≤ (k : Int) := by omega
              have g3 : ¬ ((k : Int) < (m : Int)) := by omega
              clear hin hE2
              go_wp2_with fail
              refine k1.mono ?_
              rintro r w' ⟨rfl, hw'⟩
              rw [hw']
              clear hw'
              go_wp2_with fail
              refine k3.mono ?_
              rintro r w' ⟨rfl, hw'⟩
              rw [hw']
              clear hw'
              go_wp2_with fail
              go_round
              case rel => exact ⟨k + 1, by omega, by go_num⟩
              case measure => simp [intOf]; omega
            · have g2 : ¬ ((j : Int) ≤ (k : Int)) := by omega
              clear hin hE2
              go_wp2_with fail
              refine k1.mono ?_
              rintro r w' ⟨rfl, hw'⟩
              rw [hw']
              clear hw'
              go_wp2_with fail
              refine k3.mono ?_
              rintro r w' ⟨rfl, hw'⟩
              rw [hw']
              clear hw'
              go_wp2_with fail
              go_round
              case rel => exact ⟨k + 1, by omega, by go_num⟩
              case measure => simp [intOf]; omega
        · have hki : ¬ ((k : Int) < (N : Int)) := by omega
          go_wp2_with fail
          go_ret
          exact ⟨rfl, hbel5⟩

set_option maxRecDepth 1000000 in
theorem law6_all (a : Option Addr) (cap : Nat) (l : List Nat) (full b pl : Nat) (jI nI : Int) (w : World) (hr : RowW w a l) (hnil : a = none → l.length = 0) (hX : WB l) (hlen : l.length ≤ 9223372036854775807) (h1 : full < 18446744073709551616) (h2 : b < 256) (h3 : pl < 256)
    (hj : -9223372036854775808 ≤ jI ∧ jI ≤ 9223372036854775807) (hn : -9223372036854775808 ≤ nI ∧ nI ≤ 9223372036854775807) :
    Calls Try.prog 6 #[.slice a l.length cap, .int .u64 full, .int .u8 b, .int .u8 pl, .int .i64 jI, .int .i64 nI] w fun r w' => r = .returned (.bool true) ∧ Below w.heap.size w w' := by
  by_cases hs : l.length ≤ 131072
  · exact law6_main a cap l full b pl jI nI w hr hnil hX hs h1 h2 h3 hj hn
  · have g1 : (l.length : Int) > 131072 := by omega
    go_enter Try.func6, Try.ntmps6
    go_wp2_with fail
    refine (zz23_any a l.length cap full b pl jI nI w (by omega)).mono ?_
    rintro e w' ⟨rfl, hw'⟩
    rw [hw']
    clear hw'
    generalize decide (l.length ≤ 1048576) = z
    cases z
    · go_wp2_with fail
      go_ret
      exact ⟨rfl, Below.refl _ _⟩
    · go_wp2_with fail
      go_ret
      exact ⟨rfl, Below.refl _ _⟩

end Go.Proofs.Qxb6601640a
