/-
  Plain: what addWords leaves, count by count.
-/
import Derived.Test.Qxb6601640aA0
namespace Go.Proofs.Qxb6601640a
open Go.RowKit
set_option linter.unusedVariables false
set_option linter.unusedSimpArgs false

theorem countAt_int (a : Option Addr) (cap : Nat) (l : List Nat) (b W : Nat) (m : Int) (w : World) (hr : RowW w a l) (hw : Wid b W) (h0 : 0 ≤ m) (hm : m.toNat * W / 64 < l.length) (hl : l.length ≤ 1000000000) (hX : WB l) :
    Calls Try.prog 15 #[.slice a l.length cap, .int .u8 b, .int .i64 m] w fun e w' => e = .returned (.int .u64 (cnt W l m.toNat : Nat)) ∧ w' = w := by
  obtain ⟨n, rfl⟩ := Int.eq_ofNat_of_zero_le h0
  exact countAt_any a cap l b n W w hr hw hm hl hX

theorem cnt_lt (W : Nat) (l : List Nat) (m : Nat) : cnt W l m < 2 ^ W := Nat.mod_lt _ (Nat.two_pow_pos W)
theorem cnt_fl {W p : Nat} (h : W * p = 64) (l : List Nat) (t s : Nat) (hs : s < p) : cnt W l (t * p + s) = fl W (l.getD t 0) s := by
  have hW : 0 < W := Nat.pos_of_ne_zero (fun e => by rw [e] at h; simp at h)
  have h1 : (t * p + s) * W = 64 * t + W * s := by rw [Nat.add_mul, Nat.mul_assoc, Nat.mul_comm p W, h]; simp [Nat.mul_comm]
  have h2 : W * s < 64 := by rw [← h]; exact Nat.mul_lt_mul_of_pos_left hs hW
  unfold cnt fl
  rw [h1, show (64 * t + W * s) / 64 = t by omega, show (64 * t + W * s) % 64 = W * s by omega]

theorem fl_ysame {W p : Nat} (h : W * p = 64) (lo : List Nat) (dd : Int) (t s : Nat) (hs : s < p) (h0 : 0 ≤ (t : Int) + dd) : fl W (ysame lo dd t) s = cnt W lo (((t * p + s : Nat) : Int) + dd * (p : Int)).toNat := by
  obtain ⟨f, hf⟩ := Int.eq_ofNat_of_zero_le h0
  have e : (((t * p + s : Nat) : Int) + dd * (p : Int)).toNat = f * p + s := by
    have : ((t : Int) + dd) * (p : Int) = (f : Int) * (p : Int) := by rw [hf]
    rw [Int.add_mul] at this
    have h2 : (((t * p + s : Nat) : Int) + dd * (p : Int)) = ((f * p + s : Nat) : Int) := by
      simp only [Int.natCast_add, Int.natCast_mul]
      omega
    rw [h2, Int.toNat_natCast]
  rw [e, cnt_fl h lo f s hs]
  unfold ysame
  rw [hf, Int.toNat_natCast]

theorem fl_ynar {bo Wo b W p : Nat} (h : Nar bo Wo b W p) (lo : List Nat) (ad : Int) (t s : Nat) (hs : s < p) (h0 : 0 ≤ ((t * p : Nat) : Int) + ad) (hd : (p : Int) ∣ ad) : fl W (ynar Wo W p lo ad t) s = cnt Wo lo (((t * p + s : Nat) : Int) + ad).toNat := by
  obtain ⟨j, hj⟩ := Int.eq_ofNat_of_zero_le h0
  have e : (((t * p + s : Nat) : Int) + ad).toNat = j + s := by
    have h2 : (((t * p + s : Nat) : Int) + ad) = ((j + s : Nat) : Int) := by
      simp only [Int.natCast_add] at *
      omega
    rw [h2, Int.toNat_natCast]
  have hpj : p ∣ j := by
    have : (p : Int) ∣ (j : Int) := by
      rw [← hj]
      exact Int.dvd_add (by rw [Int.natCast_mul]; exact Int.dvd_mul_left _ _) hd
    exact_mod_cast this
  rw [e]
  unfold ynar
  rw [hj, Int.toNat_natCast, fl_wide h.le _ _ _ hs]
  unfold fl cnt
  obtain ⟨k, rfl⟩ := hpj
  have h1 : (p * k + s) * Wo / 64 = p * k * Wo / 64 ∧ (p * k + s) * Wo % 64 = p * k * Wo % 64 + Wo * s := by
    rcases h with ⟨rfl, rfl, rfl, rfl, rfl⟩ | ⟨rfl, rfl, rfl, rfl, rfl⟩ | ⟨rfl, rfl, rfl, rfl, rfl⟩ | ⟨rfl, rfl, rfl, rfl, rfl⟩ | ⟨rfl, rfl, rfl, rfl, rfl⟩ | ⟨rfl, rfl, rfl, rfl, rfl⟩ <;> omega
  rw [h1.1, h1.2, Nat.pow_add, ← Nat.div_div_eq_div_mul]

theorem marks_add (f : Nat → Bool) (m n : Nat) : marks f (m + n) = marks f m + marks (fun k => f (m + k)) n := by
  induction n with
  | zero => rfl
  | succ n ih =>
    show marks f (m + n) + (if f (m + n) = true then 1 else 0) = marks f m + (marks (fun k => f (m + k)) n + if f (m + n) = true then 1 else 0)
    omega
theorem marks_congr {f g : Nat → Bool} {n : Nat} (h : ∀ k, k < n → f k = g k) : marks f n = marks g n := by
  induction n with
  | zero => rfl
  | succ n ih =>
    have := ih (fun k hk => h k (by omega))
    show marks f n + (if f n = true then 1 else 0) = marks g n + (if g n = true then 1 else 0)
    rw [this, h n (by omega)]

/-- c's and o's counts behind o's words. -/
structure YC (W p : Nat) (lc : List Nat) (y oc : Nat → Nat) (t0 t1 : Nat) : Prop where
  wp : W * p = 64
  fy : ∀ t, t0 ≤ t → t < t1 → ∀ s, s < p → fl W (y t) s = oc (t * p + s)

theorem YC.fits {W p : Nat} {lc : List Nat} {y oc : Nat → Nat} {t0 t1 : Nat} (h : YC W p lc y oc t0 t1) {t : Nat} (h0 : t0 ≤ t) (h1 : t < t1) : Fits W p (lc.getD t 0) (y t) ↔ ∀ s, s < p → cnt W lc (t * p + s) + oc (t * p + s) < 2 ^ W := by
  constructor
  · intro hf s hs
    have := hf s hs
    rw [h.fy t h0 h1 s hs, ← cnt_fl h.wp _ _ _ hs] at this
    exact this
  · intro hf s hs
    rw [h.fy t h0 h1 s hs, ← cnt_fl h.wp _ _ _ hs]
    exact hf s hs

/-- Counts that go from 0 to more. -/
def isNew (W : Nat) (lc : List Nat) (oc : Nat → Nat) (i m : Nat) : Bool := decide (cnt W lc (i + m) = 0 ∧ oc (i + m) ≠ 0)

theorem YC.fil {W p : Nat} {lc : List Nat} {y oc : Nat → Nat} {t0 t1 : Nat} (h : YC W p lc y oc t0 t1) (K : Nat) (hK : t0 + K ≤ t1) : fil W p lc y t0 K = marks (isNew W lc oc (t0 * p)) (K * p) := by
  induction K with
  | zero => simp [Go.Proofs.Qxb6601640a.fil, marks]
  | succ K ih =>
    rw [Nat.succ_mul, marks_add, ← ih (by omega)]
    show Go.Proofs.Qxb6601640a.fil W p lc y t0 K + newc W p (lc.getD (t0 + K) 0) (y (t0 + K)) = _
    congr 1
    unfold newc
    apply marks_congr
    intro s hs
    unfold isNew
    rw [h.fy (t0 + K) (by omega) (by omega) s hs, ← cnt_fl h.wp _ _ _ hs, decide_eq_decide, Nat.add_mul t0 K p, Nat.add_assoc]
    constructor
    · rintro ⟨h1, h2⟩; exact ⟨h2, h1⟩
    · rintro ⟨h1, h2⟩; exact ⟨h2, h1⟩

theorem YC.cnt {W p : Nat} {lc : List Nat} {y oc : Nat → Nat} {t0 t1 : Nat} (h : YC W p lc y oc t0 t1) {ts : Nat} (h0 : t0 ≤ ts) (h1 : ts ≤ t1) (hf : ∀ k, t0 ≤ k → k < ts → Fits W p (lc.getD k 0) (y k)) (m : Nat) (hm : m < lc.length * p) :
    cnt W (mg lc y t0 ts) m = if t0 * p ≤ m ∧ m < ts * p then Go.Proofs.Qxb6601640a.cnt W lc m + oc m else Go.Proofs.Qxb6601640a.cnt W lc m := by
  have hp : 0 < p := Nat.pos_of_ne_zero (fun e => by rw [e] at hm; simp at hm)
  have hs : m % p < p := Nat.mod_lt _ hp
  have hd : m = m / p * p + m % p := by have := Nat.div_add_mod m p; rw [Nat.mul_comm] at this; omega
  have hq : m / p < lc.length := by rw [Nat.div_lt_iff_lt_mul hp]; exact hm
  have e1 : t0 * p ≤ m ↔ t0 ≤ m / p := (Nat.le_div_iff_mul_le hp).symm
  have e2 : m < ts * p ↔ m / p < ts := (Nat.div_lt_iff_lt_mul hp).symm
  have hc : Go.Proofs.Qxb6601640a.cnt W (mg lc y t0 ts) m = fl W ((mg lc y t0 ts).getD (m / p) 0) (m % p) := by
    conv => lhs; rw [hd]
    exact cnt_fl h.wp _ _ _ hs
  have hc2 : Go.Proofs.Qxb6601640a.cnt W lc m = fl W (lc.getD (m / p) 0) (m % p) := by
    conv => lhs; rw [hd]
    exact cnt_fl h.wp _ _ _ hs
  rw [hc, mg_get _ _ _ _ _ hq, hc2]
  by_cases hh : t0 ≤ m / p ∧ m / p < ts
  · rw [if_pos hh, if_pos ⟨e1.2 hh.1, e2.2 hh.2⟩, fl_add (hf _ hh.1 hh.2) _ hs, h.fy _ hh.1 (by omega) _ hs, ← hd]
  · rw [if_neg hh, if_neg (fun k => hh ⟨e1.1 k.1, e2.1 k.2⟩)]

end Go.Proofs.Qxb6601640a
