/-
  fields.nonZero 45, fields.count 39, fields.add 38, counters.fields 37.
-/
import Derived.Test.Qxb6601640aHeld
import Derived.Test.Qxb6601640aSw
import Derived.Lib.QuietBelow
namespace Go.Proofs.Qxb6601640a
open Go.RowKit
set_option linter.unusedVariables false
set_option linter.unusedSimpArgs false

def FV (B T d u : Nat) : Value := .agg #[.int .u64 B, .int .u64 T, .int .u64 d, .int .u64 u]
def FO (B T d u : Nat) : Obj := .cells #[.int .u64 B, .int .u64 T, .int .u64 d, .int .u64 u] 57

/-- The widths with their words: log2, bits, fields a word, bottoms, tops. -/
def Fld (b W p B T : Nat) : Prop := (b = 3 ∧ W = 8 ∧ p = 8 ∧ B = 72340172838076673 ∧ T = 9259542123273814144) ∨ (b = 4 ∧ W = 16 ∧ p = 4 ∧ B = 281479271743489 ∧ T = 9223512776490647552) ∨
  (b = 5 ∧ W = 32 ∧ p = 2 ∧ B = 4294967297 ∧ T = 9223372039002259456) ∨ (b = 6 ∧ W = 64 ∧ p = 1 ∧ B = 1 ∧ T = 9223372036854775808)
theorem Fld.wd {b W p B T : Nat} (h : Fld b W p B T) : Wd W p B T := by
  rcases h with ⟨rfl, rfl, rfl, rfl, rfl⟩ | ⟨rfl, rfl, rfl, rfl, rfl⟩ | ⟨rfl, rfl, rfl, rfl, rfl⟩ | ⟨rfl, rfl, rfl, rfl, rfl⟩
  · exact wd8
  · exact wd16
  · exact wd32
  · exact wd64
theorem Fld.pop {b W p B T : Nat} (h : Fld b W p B T) (f : Nat → Bool) : popN W B (topsOf W f p) = marks f p := by
  rcases h with ⟨rfl, rfl, rfl, rfl, rfl⟩ | ⟨rfl, rfl, rfl, rfl, rfl⟩ | ⟨rfl, rfl, rfl, rfl, rfl⟩ | ⟨rfl, rfl, rfl, rfl, rfl⟩
  · exact pop8 f
  · exact pop16 f
  · exact pop32 f
  · exact pop64 f
theorem Fld.wid {b W p B T : Nat} (h : Fld b W p B T) : Wid b W := by
  rcases h with ⟨rfl, rfl, rfl, rfl, rfl⟩ | ⟨rfl, rfl, rfl, rfl, rfl⟩ | ⟨rfl, rfl, rfl, rfl, rfl⟩ | ⟨rfl, rfl, rfl, rfl, rfl⟩
  · exact .inl ⟨rfl, rfl⟩
  · exact .inr (.inl ⟨rfl, rfl⟩)
  · exact .inr (.inr (.inl ⟨rfl, rfl⟩))
  · exact .inr (.inr (.inr ⟨rfl, rfl⟩))
theorem Wid.fld {b W : Nat} (h : Wid b W) : ∃ p B T, Fld b W p B T := by
  rcases h with ⟨rfl, rfl⟩ | ⟨rfl, rfl⟩ | ⟨rfl, rfl⟩ | ⟨rfl, rfl⟩
  · exact ⟨_, _, _, .inl ⟨rfl, rfl, rfl, rfl, rfl⟩⟩
  · exact ⟨_, _, _, .inr (.inl ⟨rfl, rfl, rfl, rfl, rfl⟩)⟩
  · exact ⟨_, _, _, .inr (.inr (.inl ⟨rfl, rfl, rfl, rfl, rfl⟩))⟩
  · exact ⟨_, _, _, .inr (.inr (.inr ⟨rfl, rfl, rfl, rfl, rfl⟩))⟩

theorem xor_max (T : Nat) (hT : T < 18446744073709551616) : bits BinOp.xor IntKind.u64 IntKind.u64.max (T : Int) = ((18446744073709551615 - T : Nat) : Int) := by
  have h := u64_xor_nat 18446744073709551615 T (by decide) hT
  have e : (IntKind.u64.max : Int) = ((18446744073709551615 : Nat) : Int) := by decide
  rw [e, h]
  congr 1
  apply Nat.eq_of_testBit_eq
  intro k
  rw [Nat.testBit_xor, compl_bit T k hT, show (18446744073709551615 : Nat) = 2 ^ 64 - 1 by decide, Nat.testBit_two_pow_sub_one]
  by_cases hk : k < 64
  · simp [hk]
  · have : T.testBit k = false := Nat.testBit_lt_two_pow (Nat.lt_of_lt_of_le hT (by have := Nat.pow_le_pow_right (n := 2) (by decide) (show 64 ≤ k by omega); exact this))
    simp [hk, this]

theorem nonZero_any {W p : Nat} (x B T d u : Nat) (D : Wd W p B T) (w : World) (hx : x < 18446744073709551616) :
    Calls Try.prog 45 #[FV B T d u, .int .u64 x] w fun e w' => e = .returned (.int .u64 (nz T x : Nat)) ∧ w' = w.alloc (FO B T d u) := by
  have hT : T < 18446744073709551616 := D.t64
  have e1 := u64_andNot_nat x T hx hT
  have e2 := xor_max T hT
  have hl := low_lt D x
  have e3 : IntKind.u64.wrap (((x &&& 18446744073709551615 - T : Nat) : Int) + ((18446744073709551615 - T : Nat) : Int)) = (((x &&& 18446744073709551615 - T) + (18446744073709551615 - T) : Nat) : Int) := wrap_u64_nat _ hl
  have e4 := u64_or_nat _ x hl hx
  have ho : ((x &&& 18446744073709551615 - T) + (18446744073709551615 - T)) ||| x < 18446744073709551616 := Nat.or_lt_two_pow (n := 64) hl hx
  have e5 := u64_and_nat _ T ho hT
  unfold FV
  go_enter Try.func45, Try.ntmps45
  go_wp2_with fail
  go_ret
  refine ⟨?_, rfl⟩
  show Ending.returned (Value.int IntKind.u64 _) = _
  congr 2
  rw [← Int.natCast_add, e4, e5]
  rfl

theorem count_any (z B T W n : Nat) (hW : 8 ≤ W) (hW2 : W ≤ 64) (w : World) (hn : popN W B z = n) (hn8 : n ≤ 8) :
    Calls Try.prog 39 #[FV B T (W - 1) (64 - W), .int .u64 z] w fun e w' => e = .returned (.int .i64 n) ∧ w' = w.alloc (FO B T (W - 1) (64 - W)) := by
  have e1 : (z : Int) / 2 ^ (W - 1) = ((z / 2 ^ (W - 1) : Nat) : Int) := by simp
  have e2 : IntKind.u64.wrap (((z / 2 ^ (W - 1) : Nat) : Int) * (B : Int)) = ((z / 2 ^ (W - 1) * B % 18446744073709551616 : Nat) : Int) := by
    rw [← Int.natCast_mul]; exact wrap_u64_mod _
  have e3 : ((z / 2 ^ (W - 1) * B % 18446744073709551616 : Nat) : Int) / 2 ^ (64 - W) = (n : Int) := by
    rw [← hn]; unfold popN; simp
  generalize z / 2 ^ (W - 1) = z1 at *
  generalize z1 * B % 18446744073709551616 = z2 at *
  clear hn
  unfold FV
  go_enter Try.func39, Try.ntmps39
  go_wp2_with fail
  go_ret
  exact ⟨rfl, rfl⟩

theorem OBk.alloc {w : World} {g : Nat} {l : List Nat} (h : OBk w g l) (o : Obj) : OBk (w.alloc o) g l := h.chg ((Chg.refl (fun _ => False) w).alloc o) (fun h => h)

theorem add_over {W p B T d u : Nat} (D : Wd W p B T) (g len cap off t y : Nat) (l : List Nat) (w : World) (ho : OBk w g l) (ht : off + t < l.length) (htl : t < len) (hlen : len ≤ 1000000000) (hX : WB l) (hy : y < 18446744073709551616)
    (hf : ¬ Fits W p (l.getD (off + t) 0) y) :
    Calls Try.prog 38 #[FV B T d u, .slice (some ⟨g, off, none⟩) len cap, .int .i64 t, .int .u64 y] w fun e w' => e = .returned (.int .u64 18446744073709551615) ∧ Chg (fun _ => False) w w' := by
  have c1 := fun o => (ho.alloc o).cell (off + t) ht
  have hx := hX _ ht
  have hti : (t : Int) < (len : Int) := by omega
  rw [← carry_test D.wp hx hy D.b64 D.bb] at hf
  generalize l.getD (off + t) 0 = x at *
  have hS : (x + y) % 2 ^ 64 < 18446744073709551616 := Nat.mod_lt _ (by decide)
  have e1 : IntKind.u64.wrap ((x : Int) + (y : Int)) = (((x + y) % 2 ^ 64 : Nat) : Int) := wrap_u64_mod (x + y)
  have e2 := u64_xor_nat x y hx hy
  have hxy : x ^^^ y < 18446744073709551616 := Nat.xor_lt_two_pow (n := 64) hx hy
  generalize (x + y) % 2 ^ 64 = S at *
  have e3 := u64_xor_nat (x ^^^ y) S hxy hS
  have hxs : x ^^^ y ^^^ S < 18446744073709551616 := Nat.xor_lt_two_pow (n := 64) hxy hS
  have e4 := u64_and_nat (x ^^^ y ^^^ S) B hxs D.b64
  generalize (x ^^^ y ^^^ S) &&& B = Z at *
  unfold FV
  by_cases hZ : Z = 0
  · subst hZ
    have hlt : S < x := by rcases Nat.lt_or_ge S x with h | h; exact h; exact absurd ⟨rfl, by omega⟩ hf
    clear hf
    go_enter Try.func38, Try.ntmps38
    go_wp2_with fail
    go_ret
    exact ⟨rfl, (Chg.refl _ w).alloc _⟩
  · have hZb : ((Z : Int) != 0) = true := by rw [bne_iff_ne]; omega
    clear hf
    go_enter Try.func38, Try.ntmps38
    go_wp2_with fail
    go_ret
    exact ⟨rfl, (Chg.refl _ w).alloc _⟩

set_option maxRecDepth 100000 in
set_option maxHeartbeats 1000000 in
theorem add_fits {W p B T d u : Nat} (D : Wd W p B T) (g len cap off t y : Nat) (l : List Nat) (w : World) (ho : OBk w g l) (ht : off + t < l.length) (htl : t < len) (hlen : len ≤ 1000000000) (hX : WB l) (hy : y < 18446744073709551616)
    (hf : Fits W p (l.getD (off + t) 0) y) :
    Calls Try.prog 38 #[FV B T d u, .slice (some ⟨g, off, none⟩) len cap, .int .i64 t, .int .u64 y] w fun e w' => e = .returned (.int .u64 (newly T (l.getD (off + t) 0) y : Nat)) ∧ OBk w' g (l.set (off + t) (l.getD (off + t) 0 + y)) ∧ Chg (fun b => b = g) w w' := by
  have c1 := fun o => (ho.alloc o).cell (off + t) ht
  have c2 := fun o => (ho.alloc o).frozen (off + t)
  have hset := fun o Y => (ho.alloc o).set (off + t) Y ht
  have HS := hideP hset
  have hx := hX _ ht
  have hgl := ho.lt
  have hti : (t : Int) < (len : Int) := by omega
  rw [← carry_test D.wp hx hy D.b64 D.bb] at hf
  generalize l.getD (off + t) 0 = x at *
  obtain ⟨hZ, hS⟩ := hf
  have hS64 : (x + y) % 2 ^ 64 < 18446744073709551616 := Nat.mod_lt _ (by decide)
  have hsum : (x + y) % 2 ^ 64 = x + y := Nat.mod_eq_of_lt (by omega)
  have e1 : IntKind.u64.wrap ((x : Int) + (y : Int)) = ((x + y : Nat) : Int) := by rw [← hsum]; exact wrap_u64_mod (x + y)
  have e2 := u64_xor_nat x y hx hy
  have hxy : x ^^^ y < 18446744073709551616 := Nat.xor_lt_two_pow (n := 64) hx hy
  rw [hsum] at hZ hS hS64
  have e3 := u64_xor_nat (x ^^^ y) (x + y) hxy hS64
  have hxs : x ^^^ y ^^^ (x + y) < 18446744073709551616 := Nat.xor_lt_two_pow (n := 64) hxy hS64
  have e4 := u64_and_nat (x ^^^ y ^^^ (x + y)) B hxs D.b64
  rw [hZ] at e4
  have e5 := u64_andNot_nat (nz T y) (nz T x) (nz_lt D y) (nz_lt D x)
  clear hZ hset hsum hxs
  generalize x ^^^ y ^^^ (x + y) = X3 at *
  generalize x ^^^ y = X2 at *
  generalize x + y = S at *
  have n1 := fun w => nonZero_any y B T d u D w hy
  have n2 := fun w => nonZero_any x B T d u D w hx
  unfold FV FO at n1 n2
  have hnew : newly T x y = nz T y &&& 18446744073709551615 - nz T x := rfl
  rw [← hnew] at e5
  clear hnew
  generalize newly T x y = nw at *
  generalize nz T y = ny at *
  generalize nz T x = nx at *
  unfold FV
  go_enter Try.func38, Try.ntmps38
  go_wp2_with fail
  clear c1 c2 e1 e2 e3 e4 hS hS64 hxy
  have hblk : ((w.setCell ⟨g, off + t, none⟩ (.int .u64 (S : Int))).alloc (.cells #[.int .u64 (B : Int), .int .u64 (T : Int), .int .u64 (d : Int), .int .u64 (u : Int)] 57)).heap[w.heap.size]? = some (.cells #[.int .u64 (B : Int), .int .u64 (T : Int), .int .u64 (d : Int), .int .u64 (u : Int)] 57) := by
    have := heap_alloc_new (w.setCell ⟨g, off + t, none⟩ (.int .u64 (S : Int))) (.cells #[.int .u64 (B : Int), .int .u64 (T : Int), .int .u64 (d : Int), .int .u64 (u : Int)] 57)
    simpa using this
  have hch : Chg (fun b => b = g) w ((w.setCell ⟨g, off + t, none⟩ (.int .u64 (S : Int))).alloc (.cells #[.int .u64 (B : Int), .int .u64 (T : Int), .int .u64 (d : Int), .int .u64 (u : Int)] 57)) := (Chg.setCell (F := fun b => b = g) (Chg.refl _ w) (fun _ => rfl) _).alloc _
  have hob : OBk ((w.setCell ⟨g, off + t, none⟩ (.int .u64 (S : Int))).alloc (.cells #[.int .u64 (B : Int), .int .u64 (T : Int), .int .u64 (d : Int), .int .u64 (u : Int)] 57)) g (l.set (off + t) S) := (ho.set (off + t) S ht).alloc _
  generalize ((w.setCell ⟨g, off + t, none⟩ (.int .u64 (S : Int))).alloc (.cells #[.int .u64 (B : Int), .int .u64 (T : Int), .int .u64 (d : Int), .int .u64 (u : Int)] 57)) = W0 at *
  have k0 := cell_regrown (w := W0) (a := ⟨w.heap.size, 0, none⟩) (v := .int .u64 (B : Int)) (by simp [World.cell?, hblk])
  have k1 := cell_regrown (w := W0) (a := ⟨w.heap.size, 1, none⟩) (v := .int .u64 (T : Int)) (by simp [World.cell?, hblk])
  have k2 := cell_regrown (w := W0) (a := ⟨w.heap.size, 2, none⟩) (v := .int .u64 (d : Int)) (by simp [World.cell?, hblk])
  have k3 := cell_regrown (w := W0) (a := ⟨w.heap.size, 3, none⟩) (v := .int .u64 (u : Int)) (by simp [World.cell?, hblk])
  have m1 := fun d os => Calls.regrown_of (d := d) (os := os) (w := W0) ((n1 _).mono fun e w' h => ⟨h.1, by rw [h.2]; exact (Below.refl _ _).alloc (Nat.le_refl _) _⟩)
  have m2 := fun d os => Calls.regrown_of (d := d) (os := os) (w := W0) ((n2 _).mono fun e w' h => ⟨h.1, by rw [h.2]; exact (Below.refl _ _).alloc (Nat.le_refl _) _⟩)
  have HC := hideP hch
  have HB := hideP hob
  clear hblk hch hob HS ho n1 n2
  refine wp_region_quiet_below (by kernel_rfl) (by kernel_rfl) ?_
  iterate 2 quiet_step (fail)
  quiet_step (exact m1 _ _)
  iterate 2 quiet_step (fail)
  quiet_step (exact m2 _ _)
  iterate 2 quiet_step (fail)
  refine wpQuiet_nil ?_
  intro _ hw'
  obtain ⟨⟨dq, osq⟩, hw''⟩ := hw'
  subst hw''
  go_wp2_with fail
  go_ret
  have hb2 := below_regrown W0 dq osq
  exact ⟨rfl, HB.out.same (hb2.block _ HB.out.lt), HC.out.trans (Chg.of_below hb2) (fun _ _ h => h.elim)⟩

end Go.Proofs.Qxb6601640a
