/-
  addAll 31 of a run into another.
-/
import Derived.Test.Qxb6601640aSelf
namespace Go.Proofs.Qxb6601640a
open Go.RowKit
set_option linter.unusedVariables false
set_option linter.unusedSimpArgs false

theorem call_two (w0 : World) (c o : Nat) (F : Nat → Prop) (N : Nat) (C0 : Nat → Nat) (i0 e hi bs ps : Nat) (d : Int) (vo : Value) (lo : List Nat) (fullo bo plo Wo po M : Nat) (heN : e ≤ N) (hNb : N ≤ 2000000) (hBo : Box w0 o vo fullo bo plo) (hoo : OW w0 vo lo) (hLo : Lay fullo bo plo Wo) (hwpo : Wo * po = 64) (hM : lo.length * po = M) (hMb : M ≤ 2000000) (hXo : WB lo)
    (hFo : ¬ F o) (hFv : ∀ x, vo.ownBlock = some x → ¬ F x) (hbo : bo ≤ bs) (h8 : (8 : Int) ∣ d) (hd0 : 0 ≤ (i0 : Int) + d) (hps : ps = 8 ∨ ps = 4 ∨ ps = 2 ∨ ps = 1) (hhi : hi = (e + ps - 1) / ps * ps) (hd1 : (hi : Int) + d ≤ (M : Int)) (hpd : ∀ b W p, bs ≤ b → Wid b W → W * p = 64 → p ∣ ps) : CallAW w0 c o F N C0 (ocOf Wo lo d) i0 e d bs := by
  intro wr t b W p v l hA hb hi0 hte
  obtain ⟨p', B, T, hF⟩ := hA.wid.fld
  have hW0 : 0 < W := Nat.pos_of_ne_zero (fun e => by have := hA.wp; rw [e] at this; simp at this)
  obtain rfl : p' = p := Nat.eq_of_mul_eq_mul_left hW0 (hF.wd.wp.trans hA.wp.symm)
  have hp0 : 0 < p' := Nat.pos_of_ne_zero (fun e => by have := hA.wp; rw [e] at this; simp at this)
  have hpo0 : 0 < po := Nat.pos_of_ne_zero (fun e => by rw [e] at hwpo; simp at hwpo)
  obtain ⟨t1, ht1⟩ : ∃ t1, (e + p' - 1) / p' = t1 := ⟨_, rfl⟩
  have hup : e ≤ t1 * p' := by
    have := Nat.div_add_mod (e + p' - 1) p'
    have h2 := Nat.mod_lt (e + p' - 1) hp0
    rw [ht1, Nat.mul_comm] at this
    omega
  have hlow : t1 * p' < e + p' := by
    have := Nat.div_mul_le_self (e + p' - 1) p'
    rw [ht1] at this
    omega
  have hthi : t1 * p' ≤ hi := by
    rw [hhi, ← ht1]
    exact up_le (hpd b W p' hb hA.wid hA.wp) hp0 (by omega)
  have htt : t < t1 := Nat.lt_of_mul_lt_mul_right (Nat.lt_of_lt_of_le hte hup)
  have h1n : t1 ≤ l.length := by
    rcases Nat.lt_or_ge l.length t1 with h | h
    · have h4 : (l.length + 1) * p' ≤ t1 * p' := Nat.mul_le_mul_right _ h
      rw [Nat.add_mul, hA.len] at h4
      omega
    · exact h
  have hlb : l.length ≤ 2000000 := by
    have h4 : l.length * 1 ≤ l.length * p' := Nat.mul_le_mul_left _ hp0
    rw [hA.len] at h4
    omega
  have hlob : lo.length ≤ 2000000 := by
    have h4 : lo.length * 1 ≤ lo.length * po := Nat.mul_le_mul_left _ hpo0
    rw [hM] at h4
    omega
  have hL : Lay (2 ^ W - 1) b (6 - b) W := ⟨hA.wid, rfl, rfl⟩
  have hpd8 : (p' : Int) ∣ d := by
    refine Int.dvd_trans ?_ h8
    have h9 := hA.wp
    rcases hA.wid with ⟨rfl, rfl⟩ | ⟨rfl, rfl⟩ | ⟨rfl, rfl⟩ | ⟨rfl, rfl⟩
    · obtain rfl : p' = 8 := by omega
      decide
    · obtain rfl : p' = 4 := by omega
      decide
    · obtain rfl : p' = 2 := by omega
      decide
    · obtain rfl : p' = 1 := by omega
      decide
  have htp : t * p' + p' ≤ t1 * p' := by
    have := Nat.mul_le_mul_right p' (show t + 1 ≤ t1 from htt)
    rw [Nat.add_mul, Nat.one_mul] at this
    exact this
  have hlo0 : 0 < lo.length := by
    rcases Nat.eq_zero_or_pos lo.length with h | h
    · rw [h] at hM; omega
    · exact h
  have hBo' := hBo.chg hA.ch hFo
  have hoo' := hoo.chg hA.ch hFv
  obtain ⟨g, hvg, hg⟩ := hA.ow.pos (by omega)
  obtain ⟨go, hvo, hgo⟩ := hoo'.pos hlo0
  have hgg : go ≠ g := fun h => hFv go (by rw [hvo]; rfl) (hA.vf go (by rw [hvg, h]; rfl))
  have hvf := hA.vf
  subst hvg
  subst hvo
  rw [ht1]
  by_cases hbb : bo = b
  · subst hbb
    have hWW : Wo = W := hLo.wid.uniq hA.wid
    subst hWW
    have hpo : po = p' := Nat.eq_of_mul_eq_mul_left hW0 (hwpo.trans hA.wp.symm)
    subst hpo
    have hff : fullo = 2 ^ Wo - 1 := hLo.full
    have hop : plo = 6 - bo := hLo.pl
    subst hff hop
    obtain ⟨dd, hdd⟩ := hpd8
    have hdI : d = dd * (po : Int) := by rw [hdd, Int.mul_comm]
    have e0 : 0 ≤ (t : Int) + dd := by
      rcases Int.lt_or_le ((t : Int) + dd) 0 with h | h
      · exfalso
        have : ((t : Int) + dd) * (po : Int) < 0 := Int.mul_neg_of_neg_of_pos h (by omega)
        rw [Int.add_mul] at this
        have h3 : ((t * po : Nat) : Int) = (t : Int) * (po : Int) := by simp
        omega
      · exact h
    have e1 : (t1 : Int) + dd ≤ (lo.length : Int) := by
      rcases Int.lt_or_le (lo.length : Int) ((t1 : Int) + dd) with h | h
      · exfalso
        have h2 : ((lo.length : Int) + 1) * (po : Int) ≤ ((t1 : Int) + dd) * (po : Int) := Int.mul_le_mul_of_nonneg_right (by omega) (by omega)
        rw [Int.add_mul, Int.add_mul, Int.one_mul] at h2
        have h3 : ((t1 * po : Nat) : Int) = (t1 : Int) * (po : Int) := by simp
        have h4 : ((lo.length * po : Nat) : Int) = (lo.length : Int) * (po : Int) := by simp
        omega
      · exact h
    refine ⟨ysame lo dd, ⟨hA.wp, fun t' h0 h1 s hs => ?_⟩, ysame_lt hXo dd, ?_⟩
    · rw [fl_ysame hA.wp lo dd t' s hs (by omega), ← hdI]; rfl
    · have e2 : (t1 - 1) * po < e := by
        have : t1 * po = (t1 - 1) * po + po := by
          conv => lhs; rw [show t1 = (t1 - 1) + 1 by omega]
          rw [Nat.add_mul, Nat.one_mul]
        omega
      refine (addWords_same c o g go l lo (2 ^ Wo - 1) bo (6 - bo) Wo po B T t t1 e dd ((t * po : Nat) : Int) d (by simp) hdI hL hF wr hA.box hBo' hg hgo hA.wb hXo (fun h => absurd h hgg) (by omega) (by omega) htt h1n e2 hup e0 e1).mono ?_
      rintro r w' ⟨ts, h1, h2, h3, h4, h5, h6, h7⟩
      exact ⟨ts, h1, h2, h3, h4, h5, .inr ⟨g, by rw [mg_len], h6⟩, h7.mono (fun x _ h => by rw [h]; rfl)⟩
  · have hN := hA.wid.nar hLo.wid (show bo < b by omega) hA.wp
    refine ⟨ynar Wo W p' lo d, ⟨hA.wp, fun t' h0 h1 s hs => ?_⟩, ynar_lt hN lo d, ?_⟩
    · have : t * p' ≤ t' * p' := Nat.mul_le_mul_right _ h0
      rw [fl_ynar hN lo d t' s hs (by omega) hpd8]; rfl
    · refine (addWords_nar c o g go l lo (2 ^ W - 1) b (6 - b) W p' B T fullo bo plo Wo t t1 e ((t * p' : Nat) : Int) d (by simp) hL hF hLo hN wr hA.box hBo' hg hgo hA.wb hXo hgg (by omega) (by omega) (by omega) h1n ?_ (by omega) ?_ (by omega) (by omega)).mono ?_
      · intro t' h0 h1
        constructor
        · intro h
          rcases Nat.lt_or_ge t' t1 with h2 | h2
          · exact h2
          · have : t' = t1 := by omega
            subst this; omega
        · intro h
          have : (t' + 1) * p' ≤ t1 * p' := Nat.mul_le_mul_right _ h
          rw [Nat.add_mul] at this
          omega
      · intro t' h1
        have hpos : 0 < lo.length * po := Nat.mul_pos hlo0 hpo0
        refine in_word hwpo hpo0 ?_
        have : (t' + 1) * p' ≤ t1 * p' := Nat.mul_le_mul_right _ h1
        rw [Nat.add_mul] at this
        omega
      · rintro r w' ⟨ts, h1, h2, h3, h4, h5, h6, h7⟩
        exact ⟨ts, h1, h2, h3, h4, h5, .inr ⟨g, by rw [mg_len], h6⟩, h7.mono (fun x _ h => by rw [h]; rfl)⟩

theorem per_dvd {b0 W0 p0 b W p : Nat} (h0 : Wid b0 W0) (hp0 : W0 * p0 = 64) (hb : b0 ≤ b) (h : Wid b W) (hp : W * p = 64) : p ∣ p0 := by
  have hq : ∃ q, W = W0 * q := by
    rcases h0 with ⟨rfl, rfl⟩ | ⟨rfl, rfl⟩ | ⟨rfl, rfl⟩ | ⟨rfl, rfl⟩ <;> rcases h with ⟨rfl, rfl⟩ | ⟨rfl, rfl⟩ | ⟨rfl, rfl⟩ | ⟨rfl, rfl⟩ <;> first | omega | exact ⟨1, rfl⟩ | exact ⟨2, rfl⟩ | exact ⟨4, rfl⟩ | exact ⟨8, rfl⟩
  obtain ⟨q, rfl⟩ := hq
  have hW0 : 0 < W0 := Nat.pos_of_ne_zero (fun e => by rw [e] at hp0; simp at hp0)
  refine ⟨q, Nat.eq_of_mul_eq_mul_left hW0 ?_⟩
  rw [hp0, ← hp, Nat.mul_assoc, Nat.mul_comm q p]

set_option maxRecDepth 100000 in
set_option maxHeartbeats 2000000 in
theorem addAll_two (c o j k n cfull cb cpl Wc pc fullo bo plo Wo po bs Ws ps : Nat) (v vo : Value) (l lo : List Nat) (hL : Lay cfull cb cpl Wc) (hwp : Wc * pc = 64) (hLo : Lay fullo bo plo Wo) (hwpo : Wo * po = 64) (w : World) (hB : Box w c v cfull cb cpl) (ho : OW w v l) (hX : WB l) (hBo : Box w o vo fullo bo plo) (hoo : OW w vo lo) (hXo : WB lo)
    (hco : c ≠ o) (hvo : v.ownBlock ≠ some o) (hvc : vo.ownBlock ≠ some c) (hvv : ∀ x, vo.ownBlock = some x → v.ownBlock ≠ some x) (N M : Nat) (hN : l.length * pc = N) (hM : lo.length * po = M) (hNb : N ≤ 2000000) (hMb : M ≤ 2000000) (hlb : l.length ≤ 1000000) (hjn : j + n ≤ N) (hkb : k ≤ 2000000)
    (hbs : (bo ≤ cb ∧ bs = cb ∧ Ws = Wc ∧ ps = pc) ∨ (cb < bo ∧ bs = bo ∧ Ws = Wo ∧ ps = po)) (d : Int) (hd : (k : Int) - (j : Int) = d) (h8 : (8 : Int) ∣ d) (hd0 : 0 ≤ ((j / ps * ps : Nat) : Int) + d) (hd1 : (((j + n + ps - 1) / ps * ps : Nat) : Int) + d ≤ (M : Int))
    (hout : ∀ m, j / ps * ps ≤ m → m < (j + n + ps - 1) / ps * ps → ¬ (j ≤ m ∧ m < j + n) → ocOf Wo lo d m = 0) (hfit : ∀ m, j ≤ m → m < j + n → cnt Wc l m + ocOf Wo lo d m < 18446744073709551616) :
    Calls Try.prog 31 #[.pointer (some ⟨c, 0, none⟩), .pointer (some ⟨o, 0, none⟩), .int .i64 j, .int .i64 k, .int .i64 n] w fun r w' => AAr w c (fun x => x = c ∨ v.ownBlock = some x ∨ w.heap.size ≤ x) N (cnt Wc l) (ocOf Wo lo d) (j / ps * ps) ((j + n + ps - 1) / ps * ps) (j + n) j n bs r w' := by
  obtain ⟨c0, c1, c2, c3⟩ := hB.cells
  obtain ⟨o0, o1, o2, o3⟩ := hBo.cells
  have hcl := hB.lt
  have hol := hBo.lt
  have lo1 := hoo.lt
  have lv1 := ho.lt
  have hwid : Wid bs Ws ∧ Ws * ps = 64 := by
    rcases hbs with ⟨-, rfl, rfl, rfl⟩ | ⟨-, rfl, rfl, rfl⟩
    · exact ⟨hL.wid, hwp⟩
    · exact ⟨hLo.wid, hwpo⟩
  obtain ⟨ps', B, T, hF⟩ := hwid.1.fld
  have hWs0 : 0 < Ws := Nat.pos_of_ne_zero (fun e => by have := hwid.2; rw [e] at this; simp at this)
  obtain rfl : ps' = ps := Nat.eq_of_mul_eq_mul_left hWs0 (hF.wd.wp.trans hwid.2.symm)
  have hps : ps' = 8 ∨ ps' = 4 ∨ ps' = 2 ∨ ps' = 1 := by
    have h9 := hwid.2
    rcases hwid.1 with ⟨-, rfl⟩ | ⟨-, rfl⟩ | ⟨-, rfl⟩ | ⟨-, rfl⟩ <;> omega
  have hbo : bo ≤ bs := by omega
  have HCALL := hideP (call_two w c o (fun x => x = c ∨ v.ownBlock = some x ∨ w.heap.size ≤ x) N (cnt Wc l) (j / ps' * ps') (j + n) _ bs ps' d vo lo fullo bo plo Wo po M hjn hNb hBo hoo hLo hwpo hM hMb hXo (fun h => by
      rcases h with h | h | h
      · exact hco h.symm
      · exact hvo h
      · omega) (fun x hx h => by
      rcases h with h | h | h
      · exact hvc (by rw [← h]; exact hx)
      · exact hvv x hx h
      · have := lo1 x hx; omega) hbo h8 hd0 hps rfl hd1 (fun b W p h7 h9 h10 => per_dvd hwid.1 hwid.2 h7 h9 h10))
  have HOUT := hideP hout
  have HFIT := hideP hfit
  rcases hbs with ⟨hle, rfl, rfl, rfl⟩ | ⟨hlt, rfl, rfl, rfl⟩
  · have g1 : ¬ ((bo : Int) > (bs : Int)) := by omega
    have g1' : decide (bs < bo) = false := by rw [decide_eq_false_iff_not]; omega
    obtain ⟨hw, rfl, rfl⟩ := hL
    have HS0 : ∀ q, Hid (AS w (w.drewN q) c (fun x => x = c ∨ v.ownBlock = some x ∨ w.heap.size ≤ x) N (cnt Ws l) (ocOf Wo lo d) (j / ps' * ps') (j / ps' * ps') bs Ws ps' v l) := fun q =>
      ⟨hw, hwp, hN, hX, hB, ho, fun x hx => .inr (.inl hx), (Chg.refl _ w).drewN q, fun m hm => by rw [if_neg (by omega)]⟩
    clear hout hfit hB ho hX hBo hoo
    go_enter Try.func31, Try.ntmps31
    go_wp2_with fail
    go_quiet (fail)
    iterate 6 go_step
    exact addAll_tail3 _ _ _ _ _ _ _ _ _ _ _ _ _ _ _ _ _ _ _ _ _ _ _ _ _ _ _ _ _ _ _ _ _ _ _ _ _ _ _ _ _ _ _ _ _ _ _ _ _ _ _ _ _ _ _ _ _ _ _ _ _ _  c o j k n N _ _ bs Ws ps' B T d _ _ _ w (w.drewN nq) v l (HS0 nq) rfl rfl hF hd hjn hNb hkb (.inl rfl) (fun x hx => .inr (.inr hx)) hcl HOUT HFIT HCALL
  · have g1 : (bs : Int) > (cb : Int) := by omega
    have g1' : decide (cb < bs) = true := by rw [decide_eq_true_iff]; omega
    have hwd := fun q => widen_any c v l cfull cb cpl Wc pc bs Ws hL hwp hwid.1 hlt (w.drewN q) hB ho hX (by omega)
    have HWD := hideP hwd
    clear hout hfit hB ho hBo hoo hwd
    go_enter Try.func31, Try.ntmps31
    go_wp2_with fail
    go_quiet (fail)
    go_wp2_with fail
    refine (HWD.out nq).mono ?_
    rintro r w1 ⟨rfl, v2, l2, p2', hwp2, hB2, ho2, hX2, hl2, hcn2, hch2, hnew⟩
    obtain rfl : p2' = ps' := Nat.eq_of_mul_eq_mul_left hWs0 (hwp2.trans hwid.2.symm)
    have HS0 : Hid (AS w w1 c (fun x => x = c ∨ v.ownBlock = some x ∨ w.heap.size ≤ x) N (cnt Wc l) (ocOf Ws lo d) (j / p2' * p2') (j / p2' * p2') bs Ws p2' v2 l2) :=
      ⟨hwid.1, hwp2, by rw [hl2]; exact hN, hX2, hB2, ho2, fun x hx => .inr (.inr (hnew x hx)), ⟨hch2.os, hch2.tape, hch2.output, hch2.size, fun x hx hf => hch2.block x hx (fun h => hf (.inl h))⟩, fun m hm => by rw [hcn2 m (by rw [hN]; exact hm), if_neg (by omega)]⟩
    clear hwp2 hB2 ho2 hX2 hl2 hcn2 hch2 hnew HWD
    simp only []
    iterate 4 go_step
    exact addAll_tail3 _ _ _ _ _ _ _ _ _ _ _ _ _ _ _ _ _ _ _ _ _ _ _ _ _ _ _ _ _ _ _ _ _ _ _ _ _ _ _ _ _ _ _ _ _ _ _ _ _ _ _ _ _ _ _ _ _ _ _ _ _ _  c o j k n N _ _ bs Ws p2' B T d _ _ _ w w1 v2 l2 HS0 rfl rfl hF hd hjn hNb hkb (.inl rfl) (fun x hx => .inr (.inr hx)) hcl HOUT HFIT HCALL

end Go.Proofs.Qxb6601640a
