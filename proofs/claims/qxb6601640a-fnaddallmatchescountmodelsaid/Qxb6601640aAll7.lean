/-
  addWords in its whole domain.
-/
import Derived.Test.Qxb6601640aPrem
namespace Go.Proofs.Qxb6601640a
open Go.RowKit
set_option linter.unusedVariables false
set_option linter.unusedSimpArgs false

theorem prem26_neg (a a' : Option Addr) (cap cap' n m cfull cb cp ofull ob op : Nat) (i e d : Int) (w : World) (hn : n ≤ 65536) (hm : m ≤ 65536) (h1 : cfull < 18446744073709551616) (h2 : cb < 256) (h3 : cp < 256) (h4 : ofull < 18446744073709551616) (h5 : ob < 256) (h6 : op < 256)
    (hneg : ¬ (0 ≤ i ∧ 0 ≤ e)) :
    Calls Try.prog 26 #[.slice a n cap, .int .u64 cfull, .int .u8 cb, .int .u8 cp, .slice a' m cap', .int .u64 ofull, .int .u8 ob, .int .u8 op, .int .i64 i, .int .i64 e, .int .i64 d] w fun r w' => r = .returned (.bool false) ∧ w' = w := by
  have g1 : ¬ ((n : Int) > 65536) := by omega
  have g2 : ¬ ((m : Int) > 65536) := by omega
  go_enter Try.func26, Try.ntmps26
  go_wp2_with fail
  refine (validLayout_any cfull cb cp w h1 h2 h3).mono ?_
  rintro r w' ⟨hv, hw'⟩
  rw [hw']
  clear hw'
  rcases hv with rfl | ⟨rfl, W, hL⟩
  · go_wp2_with fail
    go_ret
    exact ⟨rfl, rfl⟩
  go_wp2_with fail
  refine (validLayout_any ofull ob op w h4 h5 h6).mono ?_
  rintro r w' ⟨hv, hw'⟩
  rw [hw']
  clear hw'
  rcases hv with rfl | ⟨rfl, Wo, hLo⟩
  · go_wp2_with fail
    go_ret
    exact ⟨rfl, rfl⟩
  obtain ⟨p, hp1, hp2, hp3, hW1, hW2, hper, hpp⟩ := hL.per
  obtain ⟨po, ho1, ho2, ho3, hWo1, hWo2, hpero, hppo⟩ := hLo.per
  by_cases hob : ob ≤ cb
  rotate_left
  · have k1 : (ob : Int) > (cb : Int) := by omega
    go_wp2_with fail
    go_ret
    exact ⟨rfl, rfl⟩
  have k1 : ¬ ((ob : Int) > (cb : Int)) := by omega
  by_cases hi0 : 0 ≤ i
  · have k2 : ¬ (i < 0) := by omega
    have k3 : i > e := by omega
    go_wp2_with fail
    go_ret
    exact ⟨rfl, rfl⟩
  · have k2 : i < 0 := by omega
    go_wp2_with fail
    go_ret
    exact ⟨rfl, rfl⟩

theorem zz25_any (a a' : Option Addr) (cap cap' n m cfull cb cp ofull ob op : Nat) (i e d : Int) (w : World) (hn : n ≤ 9223372036854775807) (hm : m ≤ 9223372036854775807) :
    Calls Try.prog 25 #[.slice a n cap, .int .u64 cfull, .int .u8 cb, .int .u8 cp, .slice a' m cap', .int .u64 ofull, .int .u8 ob, .int .u8 op, .int .i64 i, .int .i64 e, .int .i64 d] w fun r w' => r = .returned (.bool (decide (n ≤ 1048576 ∧ m ≤ 1048576 ∧ n + m ≤ 1048576))) ∧ w' = w := by
  by_cases h1 : n ≤ 1048576
  rotate_left
  · have g1 : (n : Int) > 1048576 := by omega
    go_enter Try.func25, Try.ntmps25
    go_wp2_with fail
    go_ret
    exact ⟨ret_bool (by first | rfl | (symm; rw [decide_eq_true_iff]; omega) | (symm; rw [decide_eq_false_iff_not]; omega) | (simp; omega)), rfl⟩
  have g1 : ¬ ((n : Int) > 1048576) := by omega
  by_cases h2 : m ≤ 1048576
  rotate_left
  · have g2 : (m : Int) > 1048576 := by omega
    go_enter Try.func25, Try.ntmps25
    go_wp2_with fail
    go_ret
    exact ⟨ret_bool (by first | rfl | (symm; rw [decide_eq_true_iff]; omega) | (symm; rw [decide_eq_false_iff_not]; omega) | (simp; omega)), rfl⟩
  have g2 : ¬ ((m : Int) > 1048576) := by omega
  by_cases h3 : n + m ≤ 1048576
  · have g3 : ¬ ((n : Int) + (m : Int) > 1048576) := by omega
    go_enter Try.func25, Try.ntmps25
    go_wp2_with fail
    go_ret
    exact ⟨ret_bool (by first | rfl | (symm; rw [decide_eq_true_iff]; omega) | (symm; rw [decide_eq_false_iff_not]; omega) | (simp; omega)), rfl⟩
  · have g3 : (n : Int) + (m : Int) > 1048576 := by omega
    go_enter Try.func25, Try.ntmps25
    go_wp2_with fail
    go_ret
    exact ⟨ret_bool (by first | rfl | (symm; rw [decide_eq_true_iff]; omega) | (symm; rw [decide_eq_false_iff_not]; omega) | (simp; omega)), rfl⟩

theorem Wid.uniq {b W W' : Nat} (h : Wid b W) (h' : Wid b W') : W = W' := by
  rcases h with ⟨rfl, rfl⟩ | ⟨rfl, rfl⟩ | ⟨rfl, rfl⟩ | ⟨rfl, rfl⟩ <;> rcases h' with ⟨h, rfl⟩ | ⟨h, rfl⟩ | ⟨h, rfl⟩ | ⟨h, rfl⟩ <;> first | rfl | omega
theorem Wid.nar {b W bo Wo p : Nat} (h : Wid b W) (h' : Wid bo Wo) (hlt : bo < b) (hp : W * p = 64) : Nar bo Wo b W p := by
  rcases h with ⟨rfl, rfl⟩ | ⟨rfl, rfl⟩ | ⟨rfl, rfl⟩ | ⟨rfl, rfl⟩ <;> rcases h' with ⟨rfl, rfl⟩ | ⟨rfl, rfl⟩ | ⟨rfl, rfl⟩ | ⟨rfl, rfl⟩ <;> first | omega | (unfold Nar; omega)

/-- o's count for c's count m. -/
def ocOf (Wo : Nat) (lo : List Nat) (d : Int) (m : Nat) : Nat := cnt Wo lo ((m : Int) + d).toNat

/-- What addWords leaves, the words' slice nil or not. -/
def AWv (W p : Nat) (lc : List Nat) (y : Nat → Nat) (v : Value) (t0 t1 : Nat) (w : World) (r : Ending) (w' : World) : Prop :=
  ∃ ts, r = .returned (.tuple #[.int .i64 ((ts * p : Nat) : Int), .int .i64 ((fil W p lc y t0 (ts - t0) : Nat) : Int)]) ∧ t0 ≤ ts ∧ ts ≤ t1 ∧ (∀ k, t0 ≤ k → k < ts → Fits W p (lc.getD k 0) (y k)) ∧ (ts < t1 → ¬ Fits W p (lc.getD ts 0) (y ts)) ∧ OW w' v (mg lc y t0 ts) ∧ Chg (fun b => v.ownBlock = some b) w w'

theorem addWords_all {lc lo : List Nat} {cfull cb cp ofull ob op i e : Nat} {d : Int} {W p Wo po : Nat} (P : PWd lc.length lo.length cfull cb cp ofull ob op i e d W p Wo po) (hn : lc.length ≤ 65536) (hm : lo.length ≤ 65536) (hX : WB lc) (hXo : WB lo) :
    ∃ y, YC W p lc y (ocOf Wo lo d) (i / p) ((e + p - 1) / p) ∧ (∀ t, y t < 18446744073709551616) ∧
      ∀ (c o : Nat) (v vo : Value) (w : World), Box w c v cfull cb cp → Box w o vo ofull ob op → OW w v lc → OW w vo lo → (∀ b, v.ownBlock = some b → vo.ownBlock ≠ some b) →
        Calls Try.prog 32 #[.pointer (some ⟨c, 0, none⟩), .pointer (some ⟨o, 0, none⟩), .int .i64 i, .int .i64 e, .int .i64 d] w fun r w' => AWv W p lc y v (i / p) ((e + p - 1) / p) w r w' := by
  obtain ⟨lc1, lo1, wp, wpo, p1, p8, po8, per, hob, ie, en, ⟨t0i, hpi⟩, ⟨dd, hdd⟩, d1, d2, id, hi⟩ := P
  obtain ⟨p', B, T, hF⟩ := lc1.wid.fld
  have hpp : p' = p := by
    have := hF.wd.wp
    have hW : 0 < W := Nat.pos_of_ne_zero (fun e => by rw [e] at wp; simp at wp)
    exact Nat.eq_of_mul_eq_mul_left hW (this.trans wp.symm)
  subst hpp
  -- the words' numbers
  obtain ⟨t0, ht0⟩ : ∃ t0, i / p' = t0 := ⟨_, rfl⟩
  obtain ⟨t1, ht1⟩ : ∃ t1, (e + p' - 1) / p' = t1 := ⟨_, rfl⟩
  have hi0 : i = t0 * p' := by
    have : p' ∣ i := Int.natCast_dvd_natCast.1 ⟨t0i, hpi⟩
    rw [← ht0, Nat.div_mul_cancel this]
  have heb : lc.length * p' ≤ 65536 * 8 := Nat.mul_le_mul hn p8
  have hiI : (i : Int) = (t0 : Int) * (p' : Int) := by rw [hi0]; simp
  have hdI : d = dd * (p' : Int) := by rw [hdd, Int.mul_comm]
  rw [ht0, ht1]
  rw [ht1] at hi
  have hup : e ≤ t1 * p' := by
    have := Nat.div_add_mod (e + p' - 1) p'
    have h2 := Nat.mod_lt (e + p' - 1) (show 0 < p' by omega)
    rw [ht1, Nat.mul_comm] at this
    omega
  have hlow : t1 * p' < e + p' := by
    have := Nat.div_mul_le_self (e + p' - 1) p'
    rw [ht1] at this
    omega
  have h01 : t0 ≤ t1 := by
    rw [← ht1, Nat.le_div_iff_mul_le (by omega)]
    omega
  have h1n : t1 ≤ lc.length := by
    rcases Nat.lt_or_ge lc.length t1 with h | h
    · have : (lc.length + 1) * p' ≤ t1 * p' := Nat.mul_le_mul_right _ h
      rw [Nat.add_mul] at this
      omega
    · exact h
  have hend : ∀ t, t0 ≤ t → t ≤ t1 → (t * p' < e ↔ t < t1) := by
    intro t h0 h1
    constructor
    · intro h
      rcases Nat.lt_or_ge t t1 with h2 | h2
      · exact h2
      · have : t = t1 := by omega
        subst this; omega
    · intro h
      have : (t + 1) * p' ≤ t1 * p' := Nat.mul_le_mul_right _ h
      rw [Nat.add_mul] at this
      omega
  by_cases hbb : ob = cb
  · -- the same width
    subst hbb
    have hWW : Wo = W := lo1.wid.uniq lc1.wid
    subst hWW
    have hff : ofull = cfull := lo1.full.trans lc1.full.symm
    have hop : op = cp := lo1.pl.trans lc1.pl.symm
    subst hff hop
    have hpo : po = p' := by
      have hW : 0 < Wo := Nat.pos_of_ne_zero (fun e => by rw [e] at wp; simp at wp)
      exact Nat.eq_of_mul_eq_mul_left hW (wpo.trans wp.symm)
    subst hpo
    have hd0 : 0 ≤ (t0 : Int) + dd := by
      rcases Int.lt_or_le ((t0 : Int) + dd) 0 with h | h
      · exfalso
        have : ((t0 : Int) + dd) * (po : Int) < 0 := Int.mul_neg_of_neg_of_pos h (by omega)
        rw [Int.add_mul] at this
        omega
      · exact h
    have hd1 : (t1 : Int) + dd ≤ (lo.length : Int) := by
      rcases Int.lt_or_le (lo.length : Int) ((t1 : Int) + dd) with h | h
      · exfalso
        have h2 : ((lo.length : Int) + 1) * (po : Int) ≤ ((t1 : Int) + dd) * (po : Int) := Int.mul_le_mul_of_nonneg_right (by omega) (by omega)
        rw [Int.add_mul, Int.add_mul, Int.one_mul] at h2
        simp only [Int.natCast_mul] at hi
        omega
      · exact h
    refine ⟨ysame lo dd, ⟨wp, fun t h0 h1 s hs => ?_⟩, ysame_lt hXo dd, ?_⟩
    · rw [fl_ysame wp lo dd t s hs (by omega), ← hdI]; rfl
    · intro c o v vo w hB hBo hv hvo hne
      by_cases hlt : t0 < t1
      · obtain ⟨g, rfl, hg⟩ := hv.pos (by omega)
        obtain ⟨go, rfl, hgo⟩ := hvo.pos (by omega)
        have hgg : go ≠ g := fun h => hne g rfl (by rw [h]; rfl)
        refine (addWords_same c o g go lc lo ofull ob op Wo po B T t0 t1 e dd i d hiI hdI lc1 hF w hB hBo hg hgo hX hXo (fun h => absurd h hgg) (by omega) (by omega) hlt h1n ?_ hup hd0 hd1).mono ?_
        · have : t1 * po = (t1 - 1) * po + po := by
            conv => lhs; rw [show t1 = (t1 - 1) + 1 by omega]
            rw [Nat.add_mul, Nat.one_mul]
          omega
        · rintro r w' ⟨ts, h1, h2, h3, h4, h5, h6, h7⟩
          refine ⟨ts, h1, h2, h3, h4, h5, .inr ⟨g, by rw [mg_len], h6⟩, h7.mono (fun b _ h => by rw [h]; rfl)⟩
      · have htt : t0 = t1 := by omega
        subst htt
        have hei : e = i := by omega
        subst hei
        obtain ⟨a, rfl, ha, -, -⟩ := hv.shape
        obtain ⟨a', rfl, ha', -, -⟩ := hvo.shape
        refine (addWords_none c o a a' lc.length lo.length ofull ob op Wo po B T ofull ob op t0 dd e d hiI hdI lc1 hF w hB hBo ha ha' (by omega) (by omega) h1n (fun _ => ⟨hd0, hd1⟩)).mono ?_
        rintro r w' ⟨h1, h2⟩
        refine ⟨t0, ?_, Nat.le_refl _, Nat.le_refl _, fun k h3 h4 => absurd h4 (by omega), fun h => absurd h (Nat.lt_irrefl _), ?_, h2.mono (fun _ _ h => h.elim)⟩
        · rw [h1, hi0]; simp [fil]
        · rw [mg_start _ _ _ _ (Nat.le_refl _)]; exact hv.chg h2 (fun _ _ h => h)
  · -- narrower
    have hlt' : ob < cb := by omega
    have hN := lc1.wid.nar lo1.wid hlt' wp
    have hd0 : 0 ≤ ((t0 * p' : Nat) : Int) + d := by rw [← hi0]; exact id
    refine ⟨ynar Wo W p' lo d, ⟨wp, fun t h0 h1 s hs => ?_⟩, ynar_lt hN lo d, ?_⟩
    · have : t0 * p' ≤ t * p' := Nat.mul_le_mul_right _ h0
      rw [fl_ynar hN lo d t s hs (by omega) ⟨dd, hdd⟩]; rfl
    · intro c o v vo w hB hBo hv hvo hne
      by_cases hlt : t0 < t1
      · have hlo0 : 0 < lo.length := by
          rcases Nat.eq_zero_or_pos lo.length with h | h
          · exfalso
            rw [h] at hi
            have : (t0 + 1) * p' ≤ t1 * p' := Nat.mul_le_mul_right _ hlt
            rw [Nat.add_mul] at this
            simp at hi
            have h3 : ((t1 * p' : Nat) : Int) = (t1 : Int) * (p' : Int) := by simp
            omega
          · exact h
        obtain ⟨g, rfl, hg⟩ := hv.pos (by omega)
        obtain ⟨go, rfl, hgo⟩ := hvo.pos hlo0
        have hgg : go ≠ g := fun h => hne g rfl (by rw [h]; rfl)
        refine (addWords_nar c o g go lc lo cfull cb cp W p' B T ofull ob op Wo t0 t1 e i d hiI lc1 hF lo1 hN w hB hBo hg hgo hX hXo hgg (by omega) (by omega) h01 h1n hend hd0 ?_ (by omega) (by omega)).mono ?_
        · intro t ht
          have hpo0 : 0 < po := by
            rcases Nat.eq_zero_or_pos po with h | h
            · rw [h] at wpo; simp at wpo
            · exact h
          have hpos : 0 < lo.length * po := Nat.mul_pos hlo0 hpo0
          refine in_word wpo hpo0 ?_
          have : (t + 1) * p' ≤ t1 * p' := Nat.mul_le_mul_right _ ht
          rw [Nat.add_mul] at this
          have h3 : ((t * p' : Nat) : Int) + d < ((lo.length * po : Nat) : Int) := by omega
          omega
        · rintro r w' ⟨ts, h1, h2, h3, h4, h5, h6, h7⟩
          refine ⟨ts, h1, h2, h3, h4, h5, .inr ⟨g, by rw [mg_len], h6⟩, h7.mono (fun b _ h => by rw [h]; rfl)⟩
      · have htt : t0 = t1 := by omega
        subst htt
        have hei : e = i := by omega
        subst hei
        obtain ⟨a, rfl, ha, -, -⟩ := hv.shape
        obtain ⟨a', rfl, ha', -, -⟩ := hvo.shape
        refine (addWords_none c o a a' lc.length lo.length cfull cb cp W p' B T ofull ob op t0 dd e d hiI hdI lc1 hF w hB hBo ha ha' (by omega) (by omega) h1n (fun h => absurd h hbb)).mono ?_
        rintro r w' ⟨h1, h2⟩
        refine ⟨t0, ?_, Nat.le_refl _, Nat.le_refl _, fun k h3 h4 => absurd h4 (by omega), fun h => absurd h (Nat.lt_irrefl _), ?_, h2.mono (fun _ _ h => h.elim)⟩
        · rw [h1, hi0]; simp [fil]
        · rw [mg_start _ _ _ _ (Nat.le_refl _)]; exact hv.chg h2 (fun _ _ h => h)

end Go.Proofs.Qxb6601640a
