/-
  addAll 31 of a run into itself; ZZAddAll 20; narrowestFrom 21.
-/
import Derived.Test.Qxb6601640aAA2
namespace Go.Proofs.Qxb6601640a
open Go.RowKit
set_option linter.unusedVariables false
set_option linter.unusedSimpArgs false

theorem call_self (w0 : World) (c : Nat) (F : Nat → Prop) (N : Nat) (C0 : Nat → Nat) (i0 e bs : Nat) (heN : e ≤ N) (hNb : N ≤ 2000000) : CallAW w0 c c F N C0 C0 i0 e 0 bs := by
  intro wr t b W p v l hA hb hi0 hte
  obtain ⟨p', B, T, hF⟩ := hA.wid.fld
  have hW0 : 0 < W := Nat.pos_of_ne_zero (fun e => by have := hA.wp; rw [e] at this; simp at this)
  obtain rfl : p' = p := Nat.eq_of_mul_eq_mul_left hW0 (hF.wd.wp.trans hA.wp.symm)
  have hp0 : 0 < p' := Nat.pos_of_ne_zero (fun e => by have := hA.wp; rw [e] at this; simp at this)
  obtain ⟨t1, ht1⟩ : ∃ t1, (e + p' - 1) / p' = t1 := ⟨_, rfl⟩
  have hup : e ≤ t1 * p' := by
    have := Nat.div_add_mod (e + p' - 1) p'
    have h2 := Nat.mod_lt (e + p' - 1) hp0
    rw [ht1, Nat.mul_comm] at this
    omega
  have hlow : t1 * p' < e + p' := by
    have := Nat.div_mul_le_self (e + p' - 1) p'
    rw [ht1] at this
    omega
  have htt : t < t1 := Nat.lt_of_mul_lt_mul_right (Nat.lt_of_lt_of_le hte hup)
  have h1n : t1 ≤ l.length := by
    rcases Nat.lt_or_ge l.length t1 with h | h
    · have h4 : (l.length + 1) * p' ≤ t1 * p' := Nat.mul_le_mul_right _ h
      rw [Nat.add_mul, hA.len] at h4
      omega
    · exact h
  have hlb : l.length ≤ 2000000 := by
    have h4 : l.length * 1 ≤ l.length * p' := Nat.mul_le_mul_left _ hp0
    rw [hA.len] at h4
    omega
  have ht1N : t1 * p' ≤ N := by rw [← hA.len]; exact Nat.mul_le_mul_right _ h1n
  have hL : Lay (2 ^ W - 1) b (6 - b) W := ⟨hA.wid, rfl, rfl⟩
  rw [ht1]
  refine ⟨ysame l 0, ⟨hA.wp, fun t' h0 h1 s hs => ?_⟩, ysame_lt hA.wb 0, ?_⟩
  · rw [fl_ysame hA.wp l 0 t' s hs (by omega)]
    have e1 : (((t' * p' + s : Nat) : Int) + 0 * (p' : Int)).toNat = t' * p' + s := by omega
    have h3 := Nat.mul_le_mul_right p' h0
    have h4 := Nat.mul_le_mul_right p' (show t' + 1 ≤ t1 from h1)
    rw [Nat.add_mul, Nat.one_mul] at h4
    rw [e1, hA.cn _ (by omega), if_neg (by omega)]
  · obtain ⟨g, rfl, hg⟩ := hA.ow.pos (by omega)
    have e2 : (t1 - 1) * p' < e := by
      have : t1 * p' = (t1 - 1) * p' + p' := by
        conv => lhs; rw [show t1 = (t1 - 1) + 1 by omega]
        rw [Nat.add_mul, Nat.one_mul]
      omega
    refine (addWords_same c c g g l l (2 ^ W - 1) b (6 - b) W p' B T t t1 e 0 ((t * p' : Nat) : Int) 0 (by simp) (by simp) hL hF wr hA.box hA.box hg hg hA.wb hA.wb (fun _ => ⟨rfl, rfl⟩) (by omega) (by omega) htt h1n e2 hup (by omega) (by omega)).mono ?_
    rintro r w' ⟨ts, h1, h2, h3, h4, h5, h6, h7⟩
    exact ⟨ts, h1, h2, h3, h4, h5, .inr ⟨g, by rw [mg_len], h6⟩, h7.mono (fun x _ h => by rw [h]; rfl)⟩

set_option maxRecDepth 100000 in
set_option maxHeartbeats 2000000 in
theorem addAll_self (c j n b pl full W p : Nat) (v : Value) (l : List Nat) (hL : Lay full b pl W) (hwp : W * p = 64) (w : World) (hB : Box w c v full b pl) (ho : OW w v l) (hX : WB l) (N : Nat) (hN : l.length * p = N) (hNb : N ≤ 2000000) (hjn : j + n ≤ N)
    (hout : ∀ m, j / p * p ≤ m → m < (j + n + p - 1) / p * p → ¬ (j ≤ m ∧ m < j + n) → cnt W l m = 0) (hfit : ∀ m, j ≤ m → m < j + n → cnt W l m + cnt W l m < 18446744073709551616) :
    Calls Try.prog 31 #[.pointer (some ⟨c, 0, none⟩), .pointer (some ⟨c, 0, none⟩), .int .i64 j, .int .i64 j, .int .i64 n] w fun r w' => AAr w c (fun x => x = c ∨ v.ownBlock = some x ∨ w.heap.size ≤ x) N (cnt W l) (cnt W l) (j / p * p) ((j + n + p - 1) / p * p) (j + n) j n b r w' := by
  obtain ⟨p', B, T, hF⟩ := hL.wid.fld
  have hW0 : 0 < W := Nat.pos_of_ne_zero (fun e => by rw [e] at hwp; simp at hwp)
  obtain rfl : p' = p := Nat.eq_of_mul_eq_mul_left hW0 (hF.wd.wp.trans hwp.symm)
  obtain ⟨c0, c1, c2, c3⟩ := hB.cells
  have hcl := hB.lt
  obtain ⟨hw, rfl, rfl⟩ := hL
  have g1 : ¬ ((b : Int) > (b : Int)) := by omega
  have HS0 : ∀ q, Hid (AS w (w.drewN q) c (fun x => x = c ∨ v.ownBlock = some x ∨ w.heap.size ≤ x) N (cnt W l) (cnt W l) (j / p' * p') (j / p' * p') b W p' v l) := fun q =>
    ⟨hw, hwp, hN, hX, hB, ho, fun x hx => .inr (.inl hx), (Chg.refl _ w).drewN q, fun m hm => by rw [if_neg (by omega)]⟩
  have HCALL := hideP (call_self w c (fun x => x = c ∨ v.ownBlock = some x ∨ w.heap.size ≤ x) N (cnt W l) (j / p' * p') (j + n) b hjn hNb)
  have HOUT := hideP hout
  have HFIT := hideP hfit
  clear hout hfit hB ho hX
  go_enter Try.func31, Try.ntmps31
  go_wp2_with fail
  go_quiet (fail)
  iterate 6 go_step
  exact addAll_tail3 _ _ _ _ _ _ _ _ _ _ _ _ _ _ _ _ _ _ _ _ _ _ _ _ _ _ _ _ _ _ _ _ _ _ _ _ _ _ _ _ _ _ _ _ _ _ _ _ _ _ _ _ _ _ _ _ _ _ _ _ _ _  c c j j n N _ _ b W p' B T 0 _ _ _ w (w.drewN nq) v l (HS0 nq) rfl rfl hF (by omega) hjn hNb (by omega) (.inl rfl) (fun x hx => .inr (.inr hx)) hcl HOUT HFIT HCALL

theorem ZZAddAll_of {c o : Nat} {j k n : Int} {w : World} {P : Nat → World → Prop} (h : Calls Try.prog 31 #[.pointer (some ⟨c, 0, none⟩), .pointer (some ⟨o, 0, none⟩), .int .i64 j, .int .i64 k, .int .i64 n] w fun r w' => ∃ f : Nat, r = .returned (.int .i64 f) ∧ P f w') :
    Calls Try.prog 20 #[.pointer (some ⟨c, 0, none⟩), .pointer (some ⟨o, 0, none⟩), .int .i64 j, .int .i64 k, .int .i64 n] w fun r w' => ∃ f : Nat, r = .returned (.int .i64 f) ∧ P f w' := by
  go_enter Try.func20, Try.ntmps20
  go_wp2_with fail
  refine h.mono ?_
  rintro e w2 ⟨z, rfl, hQ⟩
  go_wp2_with fail
  go_ret
  exact ⟨z, rfl, hQ⟩

set_option maxHeartbeats 1000000 in
theorem narrowest_any (b0 b W v : Nat) (hw : Wid b W) (h0 : b0 ≤ b) (h3 : 3 ≤ b0) (hv : v < 2 ^ W) (hv64 : v < 18446744073709551616) (hl : ∀ b' W', Wid b' W' → b0 ≤ b' → b' < b → 2 ^ W' ≤ v) (w : World) :
    Calls Try.prog 21 #[.int .u8 b0, .int .u64 v] w fun r w' => r = .returned (.int .u8 b) ∧ w' = w := by
  have hb6 : b ≤ 6 := by rcases hw with ⟨h, -⟩ | ⟨h, -⟩ | ⟨h, -⟩ | ⟨h, -⟩ <;> omega
  have HL := hideP hl
  clear hl
  go_enter Try.func21, Try.ntmps21
  go_wp2_with fail
  go_loop [0] (fun bv => ∃ x : Nat, b0 ≤ x ∧ x ≤ b ∧ bv = .int .u8 x) (fun bv => 7 - (intOf bv).toNat)
  case atStart => exact ⟨b0, Nat.le_refl _, h0, rfl⟩
  case round =>
    obtain ⟨x, h1, h2, rfl⟩ := hrel
    obtain ⟨Wx, hwx⟩ : ∃ Wx, Wid x Wx := by
      have : x = 3 ∨ x = 4 ∨ x = 5 ∨ x = 6 := by omega
      rcases this with rfl | rfl | rfl | rfl
      · exact ⟨_, .inl ⟨rfl, rfl⟩⟩
      · exact ⟨_, .inr (.inl ⟨rfl, rfl⟩)⟩
      · exact ⟨_, .inr (.inr (.inl ⟨rfl, rfl⟩))⟩
      · exact ⟨_, .inr (.inr (.inr ⟨rfl, rfl⟩))⟩
    have hm := fun w => maskOf_any x Wx hwx w
    have hpw := Nat.two_pow_pos Wx
    by_cases hlt : x < b
    · have g1 : (x : Int) < 6 := by omega
      have hbig := HL.out x Wx hwx h1 hlt
      have g2 : (v : Int) > ((2 ^ Wx - 1 : Nat) : Int) := by omega
      generalize 2 ^ Wx - 1 = mk at *
      go_wp2_with fail
      refine (hm _).mono ?_
      rintro r w' ⟨rfl, hw'⟩
      rw [hw']
      clear hw'
      go_wp2_with fail
      go_round
      case rel => exact ⟨x + 1, by omega, by omega, by go_num⟩
      case measure => simp [intOf]; omega
    · obtain rfl : x = b := by omega
      have hWW := hwx.uniq hw
      subst hWW
      by_cases h6 : x = 6
      · subst h6
        go_wp2_with fail
        go_ret
        exact ⟨rfl, rfl⟩
      · have g1 : (x : Int) < 6 := by omega
        have g2 : ¬ ((v : Int) > ((2 ^ Wx - 1 : Nat) : Int)) := by omega
        generalize 2 ^ Wx - 1 = mk at *
        go_wp2_with fail
        refine (hm _).mono ?_
        rintro r w' ⟨rfl, hw'⟩
        rw [hw']
        clear hw'
        go_wp2_with fail
        go_ret
        exact ⟨rfl, rfl⟩

end Go.Proofs.Qxb6601640a
