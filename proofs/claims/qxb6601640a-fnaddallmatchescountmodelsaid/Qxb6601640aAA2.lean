/-
  counters.addAll 31 from 'end := j + n' on: the walk.
-/
import Derived.Test.Qxb6601640aAA
import Derived.Deep.DeepCutAuto
namespace Go.Proofs.Qxb6601640a
open Go.RowKit
set_option linter.unusedVariables false
set_option linter.unusedSimpArgs false

/-- What addAll leaves. -/
def AAr (w0 : World) (c : Nat) (F : Nat → Prop) (N : Nat) (C0 OC : Nat → Nat) (i0 hi e j n bs : Nat) (r : Ending) (w' : World) : Prop :=
  ∃ f i b W p v l, r = .returned (.int .i64 ((f : Nat) : Int)) ∧ AS w0 w' c F N C0 OC i0 i b W p v l ∧ e ≤ i ∧ i ≤ hi ∧ bs ≤ b ∧ Least C0 OC j n bs b ∧ f = marks (isN C0 OC i0) (i - i0)

set_option maxRecDepth 100000 in
set_option maxHeartbeats 4000000 in
theorem addAll_tail3 (u5 u6 u7 u8 u9 u11 u12 u13 u14 u15 u16 u17 u18 u19 u20 u21 u22 u23 u24 u25 u26 u27 u28 u29 u30 u31 u32 u33 u34 u35 u36 u37 u38 u39 u40 u41 u42 u43 u44 u45 u46 u47 u48 u49 u50 u51 u52 u53 u54 u55 u56 u57 u58 u59 u60 u61 u62 u63 u64 u65 u66 u67 : Value) (c o j k n N i0 hi bs Ws ps B T : Nat) (d : Int) (C0 OC : Nat → Nat) (F : Nat → Prop) (w0 w1 : World) (v0 : Value) (l0 : List Nat)
    (HS : Hid (AS w0 w1 c F N C0 OC i0 i0 bs Ws ps v0 l0)) (hi0 : i0 = j / ps * ps) (hhi : hi = (j + n + ps - 1) / ps * ps) (hF : Fld bs Ws ps B T) (hd : (k : Int) - (j : Int) = d) (hjn : j + n ≤ N) (hNb : N ≤ 2000000) (hkb : k ≤ 2000000)
    (hFc : F c) (hFn : ∀ x, w0.heap.size ≤ x → F x) (hc0 : c < w0.heap.size)
    (HOUT : Hid (∀ m, i0 ≤ m → m < hi → ¬ (j ≤ m ∧ m < j + n) → OC m = 0)) (HFIT : Hid (∀ m, j ≤ m → m < j + n → C0 m + OC m < 18446744073709551616)) (HCALL : Hid (CallAW w0 c o F N C0 OC i0 (j + n) d bs)) :
    Code.wp Try.prog ((Try.f31.body.bind (suffix 3)).getD .skip) (bodyPost Try.prog Try.f31 fun r w' => AAr w0 c F N C0 OC i0 hi (j + n) j n bs r w') ⟨#[.pointer (some ⟨c, 0, none⟩), .pointer (some ⟨o, 0, none⟩), .int .i64 j, .int .i64 k, .int .i64 n, u5, u6, u7, u8, u9, .int .i64 0, u11, u12, u13, u14, u15, u16, u17, u18, u19, u20, u21, u22, u23, u24, u25, u26, u27, u28, u29, u30, u31, u32, u33, u34, u35, u36, u37, u38, u39, u40, u41, u42, u43, u44, u45, u46, u47, u48, u49, u50, u51, u52, u53, u54, u55, u56, u57, u58, u59, u60, u61, u62, u63, u64, u65, u66, u67], []⟩ w1 := by
  conv => arg 2; whnf
  obtain ⟨c0, c1, c2, c3⟩ := HS.out.box.cells
  have hL : Lay (2 ^ Ws - 1) bs (6 - bs) Ws := ⟨HS.out.wid, rfl, rfl⟩
  obtain ⟨e1, e2, hpl3, hb6, hp1, hp8, hW8, hW64⟩ := hF.nums hL
  have hps : (2 : Nat) ^ (6 - bs) = ps := by
    have : (((2 : Nat) ^ (6 - bs) : Nat) : Int) = (ps : Int) := by simpa using e2
    exact_mod_cast this
  have e5 : bits BinOp.andNot IntKind.i64 (j : Int) ((ps : Int) - 1) = (i0 : Int) := by
    have := andNot_low (6 - bs) j hpl3 (by omega)
    rw [hps] at this
    rw [hi0, ← this]
    congr 1
    omega
  have hHN : hi ≤ N := by
    have h1 : ps ∣ N := ⟨l0.length, by rw [← HS.out.len, Nat.mul_comm]⟩
    rw [hhi]
    obtain ⟨q, hq⟩ := h1
    have h2 : (j + n + ps - 1) / ps ≤ q := by
      rw [← Nat.lt_succ_iff, Nat.div_lt_iff_lt_mul (by omega), Nat.succ_mul, Nat.mul_comm q ps, ← hq]
      omega
    rw [hq, Nat.mul_comm ps q]
    exact Nat.mul_le_mul_right _ h2
  have hi0j : i0 ≤ j := by rw [hi0]; exact Nat.div_mul_le_self _ _
  have hehi : j + n ≤ hi := by
    rw [hhi]
    have := Nat.div_add_mod (j + n + ps - 1) ps
    have h2 := Nat.mod_lt (j + n + ps - 1) (show 0 < ps by omega)
    rw [Nat.mul_comm] at this
    omega
  obtain ⟨e, he⟩ : ∃ e, j + n = e := ⟨_, rfl⟩
  have hei : (j : Int) + (n : Int) = (e : Int) := by omega
  have HE := hideP he
  have HI0 := hideP hi0
  have HHI := hideP hhi
  have hc1 : Chg F w0 w1 := HS.out.ch
  have HCH := hideP hc1
  clear hi0 hhi he hc1 hps
  go_wp2_with fail
  go_loopw [10, 12, 13] (fun fv iv _ wr => ∃ f i b : Nat, iv = .int .i64 i ∧ fv = .int .i64 f ∧ f ≤ 2000000 ∧ i ≤ hi ∧ i0 ≤ i ∧ Hid (f = marks (isN C0 OC i0) (i - i0)) ∧ Hid (bs ≤ b ∧ b ≤ 6 ∧ Least C0 OC j n bs b) ∧ Hid (∃ t W p v l, i = t * p ∧ p ∣ ps ∧ AS w0 wr c F N C0 OC i0 i b W p v l)) (fun _ iv _ wr => (7 - (intOf ((wr.cell? ⟨c, 2, none⟩).getD undef)).toNat) * 5000000 + (4000000 - (intOf iv).toNat))
  case atStart =>
    refine ⟨0, i0, bs, rfl, rfl, Nat.zero_le _, by omega, Nat.le_refl _, ?_, ⟨Nat.le_refl _, hb6, fun b' W' _ h1 h2 => absurd h2 (by omega)⟩, ⟨j / ps, Ws, ps, v0, l0, HI0.out, Nat.dvd_refl _, HS.out⟩⟩
    rw [Nat.sub_self]; rfl
  case round =>
    obtain ⟨f, i, b, rfl, rfl, hf2, hihi, hi0i, HFI, HB, HST⟩ := hrel
    by_cases hlt : i < e
    · have hli : (i : Int) < (e : Int) := by omega
      obtain ⟨t, W, p, v, l, hit, hpp, hA⟩ := HST.out
      obtain ⟨hb1, hb2, hLst⟩ := HB.out
      have hcv : v.ownBlock ≠ some c := fun h => by
        rcases hA.ow with ⟨rfl, -⟩ | ⟨g, rfl, hg⟩
        · cases h
        · have e0 : some g = some c := h
          injection e0 with e0
          subst e0
          exact box_ne hA.box hg rfl
      subst hit
      have hp0 : 0 < p := Nat.pos_of_ne_zero (fun e => by have := hA.wp; rw [e] at this; simp at this)
      have hcal := HCALL.out wr t b W p v l hA hb1 hi0i (by rw [HE.out]; exact hlt)
      rw [HE.out] at hcal
      obtain ⟨y, hYC, hyl, hcall⟩ := hcal
      have hup : (e + p - 1) / p * p ≤ hi := by
        rw [HHI.out, HE.out]
        exact up_le hpp hp0 (by omega)
      have hbx := hA.box
      obtain ⟨x0, x1, x2, x3⟩ := hbx.cells
      have HCALL2 := hideP hcall
      have HA := hideP hA
      have HYC := hideP hYC
      have HYL := hideP hyl
      have HLst := hideP hLst
      have HPP := hideP hpp
      have HUP := hideP hup
      have hb2' := hb2
      clear hcall hA hYC hyl hLst hpp hup HST HB hbx x0 x1 x3
      obtain ⟨i, hI⟩ : ∃ i, t * p = i := ⟨_, rfl⟩
      rw [hI] at hlt hli hihi hi0i HFI HCALL2 ⊢
      have HII := hideP hI
      clear hI
      go_wp2_with fail
      refine HCALL2.out.mono ?_
      rintro r w2 ⟨ts, rfl, h1, h2, h3, h4, h5, h6⟩
      obtain ⟨nA, nF⟩ := as_next HA.out hFc hcv (by rw [HII.out]; exact hi0i) HYC.out HYL.out h1 h2 (Nat.le_trans HUP.out hHN) h3 h5 h6
      obtain ⟨i2, hI2⟩ : ∃ i2, ts * p = i2 := ⟨_, rfl⟩
      have hii2 : i ≤ i2 := by rw [← HII.out, ← hI2]; exact Nat.mul_le_mul_right _ h1
      have hi2hi : i2 ≤ hi := by rw [← hI2]; exact Nat.le_trans (Nat.mul_le_mul_right _ h2) HUP.out
      rw [hI2] at nA nF ⊢
      rw [HII.out] at nF
      have hfnew : f + fil W p l y t (ts - t) = marks (isN C0 OC i0) (i2 - i0) := by
        rw [nF, HFI.out, show i2 - i0 = (i - i0) + (i2 - i) by omega, marks_add]
      have hfle := marks_le (isN C0 OC i0) (i2 - i0)
      rw [← hfnew] at hfle
      have HFN := hideP hfnew
      have HNA := hideP nA
      clear hfnew nA nF
      generalize fil W p l y t (ts - t) = fd at *
      by_cases hlt2 : i2 < e
      · have hli2 : (i2 : Int) < (e : Int) := by omega
        have hts1 : ts < (e + p - 1) / p := by
          rcases Nat.lt_or_ge ts ((e + p - 1) / p) with h | h
          · exact h
          · exfalso
            have h7 : e ≤ (e + p - 1) / p * p := by
              have := Nat.div_add_mod (e + p - 1) p
              have h8 := Nat.mod_lt (e + p - 1) hp0
              rw [Nat.mul_comm] at this
              omega
            have h9 := Nat.mul_le_mul_right p h
            omega
        have hnf := h4 hts1
        rw [HYC.out.fits h1 hts1] at hnf
        obtain ⟨s, hs⟩ := Classical.not_forall.1 hnf
        have hsp : s < p := by
          rcases Nat.lt_or_ge s p with h | h
          · exact h
          · exact absurd (fun h2 => absurd h2 (by omega)) hs
        have hbig : 2 ^ W ≤ cnt W l (ts * p + s) + OC (ts * p + s) := by
          rcases Nat.lt_or_ge (cnt W l (ts * p + s) + OC (ts * p + s)) (2 ^ W) with h | h
          · exact absurd (fun _ => h) hs
          · exact h
        rw [hI2] at hbig
        have hmhi : i2 + s < hi := by
          have h7 := Nat.mul_le_mul_right p (show ts + 1 ≤ (e + p - 1) / p from hts1)
          rw [Nat.add_mul, Nat.one_mul, hI2] at h7
          have := HUP.out
          omega
        have hcm : cnt W l (i2 + s) = C0 (i2 + s) := by
          rw [HA.out.cn (i2 + s) (by omega), HII.out, if_neg (by omega)]
        have hcl := cnt_lt W l (i2 + s)
        have hmj : j ≤ i2 + s ∧ i2 + s < j + n := by
          by_cases hq : j ≤ i2 + s ∧ i2 + s < j + n
          · exact hq
          · have := HOUT.out (i2 + s) (by omega) hmhi hq
            omega
        have hWlt : W < 64 := by
          have h7 := HFIT.out (i2 + s) hmj.1 hmj.2
          rw [← hcm] at h7
          rcases Nat.lt_or_ge W 64 with h | h
          · exact h
          · have h8 : 2 ^ 64 ≤ 2 ^ W := Nat.pow_le_pow_right (by decide) h
            have h9 : (18446744073709551616 : Nat) ≤ 2 ^ W := h8
            omega
        obtain ⟨W2, p2, hw2, hW2, hp2⟩ : ∃ W2 p2, Wid (b + 1) W2 ∧ W2 * p2 = 64 ∧ p = 2 * p2 := by
          have h7 := HA.out.wp
          rcases HA.out.wid with ⟨rfl, rfl⟩ | ⟨rfl, rfl⟩ | ⟨rfl, rfl⟩ | ⟨rfl, rfl⟩
          · exact ⟨16, 4, .inr (.inl ⟨rfl, rfl⟩), rfl, by omega⟩
          · exact ⟨32, 2, .inr (.inr (.inl ⟨rfl, rfl⟩)), rfl, by omega⟩
          · exact ⟨64, 1, .inr (.inr (.inr ⟨rfl, rfl⟩)), rfl, by omega⟩
          · omega
        have hLst2 : Least C0 OC j n bs (b + 1) := by
          intro b' W' hw' h7 h8
          by_cases hbb : b' = b
          · subst hbb
            have hWW := hw'.uniq HA.out.wid
            subst hWW
            exact ⟨i2 + s, hmj.1, hmj.2, by rw [← hcm]; exact hbig⟩
          · exact HLst.out b' W' hw' h7 (by omega)
        have hb5 : b + 1 ≤ 6 := by rcases hw2 with ⟨h, -⟩ | ⟨h, -⟩ | ⟨h, -⟩ | ⟨h, -⟩ <;> omega
        have hll : (mg l y t ts).length ≤ N := by
          have h7 := HNA.out.len
          have h8 : (mg l y t ts).length * 1 ≤ (mg l y t ts).length * p := Nat.mul_le_mul_left _ hp0
          omega
        have hwd := widen_any c v (mg l y t ts) (2 ^ W - 1) b (6 - b) W p (b + 1) W2 ⟨HNA.out.wid, rfl, rfl⟩ HNA.out.wp hw2 (by omega) w2 HNA.out.box HNA.out.ow HNA.out.wb (by omega)
        obtain ⟨z0, z1, z2, z3⟩ := HNA.out.box.cells
        have HWD := hideP hwd
        have HL2 := hideP hLst2
        have hs2 := h6.size
        have hsw := HA.out.ch.size
        have hI2' : i2 = 2 * ts * p2 := by rw [← hI2, hp2, ← Nat.mul_assoc, Nat.mul_comm ts 2]
        have HI2 := hideP hI2'
        have HP2 := hideP (Nat.dvd_trans (⟨2, by rw [hp2, Nat.mul_comm]⟩ : p2 ∣ p) HPP.out)
        clear hwd hLst2 hs hbig hcm hcl h3 h4 h5 h6 hnf HCALL2 hI2 hI2' z0 z1 z3 c0 c1 c2 c3 hp2
        go_wp2_with fail
        refine HWD.out.mono ?_
        rintro r w3 ⟨rfl, v2, l2, p2', hwp2, hB2, ho2, hX2, hl2, hcn2, hch2, hnew⟩
        obtain rfl : p2' = p2 := Nat.eq_of_mul_eq_mul_left (Nat.pos_of_ne_zero (fun e => by rw [e] at hW2; simp at hW2)) (hwp2.trans hW2.symm)
        have HAS : Hid (AS w0 w3 c F N C0 OC i0 i2 (b + 1) W2 p2' v2 l2) := by
          refine ⟨hw2, hW2, by rw [hl2]; exact HNA.out.len, hX2, hB2, ho2, fun x hx => hFn x (by have := hnew x hx; omega), HNA.out.ch.trans hch2 (fun x _ hx => by rw [hx]; exact hFc), fun m hm => ?_⟩
          rw [hcn2 m (by rw [HNA.out.len]; exact hm)]
          exact HNA.out.cn m hm
        obtain ⟨q0, q1, q2, q3⟩ := hB2.cells
        clear hwp2 hB2 ho2 hX2 hl2 hcn2 hch2 hnew HWD q0 q1 q3
        go_wp2_with fail
        go_roundw
        case rel => exact ⟨f + fd, i2, b + 1, by go_num, by go_num, by omega, hi2hi, by omega, HFN.out, ⟨by omega, hb5, HL2.out⟩, ⟨2 * ts, W2, p2', v2, l2, HI2.out, HP2.out, HAS.out⟩⟩
        case measure =>
          simp only [x2, q2]
          simp [intOf]
          omega
      · have hli2 : ¬ ((i2 : Int) < (e : Int)) := by omega
        obtain ⟨z0, z1, z2, z3⟩ := HNA.out.box.cells
        have HI2 := hideP hI2
        clear h3 h4 h5 h6 HCALL2 hI2 z0 z1 z3 c0 c1 c2 c3
        go_wp2_with fail
        go_roundw
        case rel => exact ⟨f + fd, i2, b, by go_num, by go_num, by omega, hi2hi, by omega, HFN.out, ⟨by omega, by omega, HLst.out⟩, ⟨ts, W, p, v, _, HI2.out.symm, HPP.out, HNA.out⟩⟩
        case measure =>
          simp only [x2, z2]
          simp [intOf]
          omega
    · have hli : ¬ ((i : Int) < (e : Int)) := by omega
      go_wp2_with fail
      go_ret
      obtain ⟨t, W, p, v, l, hit, hpp, hA⟩ := HST.out
      obtain ⟨hb1, hb2, hLst⟩ := HB.out
      have hE := HE.out
      exact ⟨f, i, b, W, p, v, l, rfl, hA, by omega, hihi, hb1, hLst, HFI.out⟩

end Go.Proofs.Qxb6601640a
