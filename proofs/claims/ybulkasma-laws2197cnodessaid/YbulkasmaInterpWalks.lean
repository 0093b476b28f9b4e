/-
  interpolateCubically at a node: the weights are exactly 0 and 1 there, so the sum is the node's own value (up to the sign of a zero).
-/
import Derived.Test.YbulkasmaPadWalks
namespace Go.Proofs.Ybulkasma
open Go.ChangeShapes Go.WideShapes Go.ChangeAt Go.RowKit
open Fl

/-! ### Plain -/
theorem at_zero {x : Nat} {q : Int} (h : At x 0 q) (q' : Int) : At x 0 q' := by
  obtain ⟨neg, m, p, hd, g⟩ := DV.get h
  have hm : m = 0 := by
    have := (g (min p q) (Int.min_le_left _ _) (Int.min_le_right _ _)).abs
    rw [Int.natAbs_zero, Nat.zero_mul] at this
    rcases Nat.mul_eq_zero.1 this with h | h
    · exact h
    · exact absurd h (Nat.ne_of_gt (Nat.two_pow_pos _))
  subst hm
  unfold At
  rw [hd]
  exact DV.zero _ _ _

theorem sub_self_zero {x m : Nat} {i : Int} (h : Ieee.double.read x = .number false m i) : floatBits .sub .f64 x x = some 0 := by
  show ((Ieee.double.read x).sum (Ieee.double.read x).opposite).map Ieee.double.write = some 0
  rw [h]
  have : (Ieee.Datum.number false m i).sum (Ieee.Datum.number false m i).opposite = some (.number false 0 i) := by
    simp only [Ieee.Datum.opposite, Ieee.Datum.sum, signed_eq, sg, Int.min_self, Int.sub_self, Int.toNat_zero, Int.pow_zero, Int.mul_one]
    simp
    omega
  rw [this]
  rfl

theorem ofInt_dv (n : Int) : DV (.number (decide (n < 0)) n.natAbs 0) n 0 := by
  refine ⟨_, _, _, rfl, 0, Int.le_refl _, Int.le_refl _, ?_⟩
  unfold Fl.EqAt sg
  simp only [Int.sub_self, Int.toNat_zero, Int.pow_zero, Int.mul_one]
  by_cases hn : n < 0
  · simp [hn]; omega
  · simp [hn]; omega

theorem ofInt_read (n : Int) (h0 : 0 ≤ n) (h : n.natAbs < 9007199254740992) : ∃ m i, Ieee.double.read (floatOfInt .f64 n) = .number false m i := by
  show ∃ m i, Ieee.double.read (Ieee.double.write (.number (decide (n < 0)) n.natAbs 0)) = .number false m i
  have hneg : decide (n < 0) = false := by simp; omega
  by_cases hn : n = 0
  · subst hn; exact ⟨0, -1074, by decide⟩
  · obtain ⟨_, hr, _⟩ := (ofInt_dv n).write_word hn h (by omega) (by omega)
    rw [hneg] at hr
    rw [hneg]
    exact ⟨_, _, hr⟩

theorem sub_ofInt (a b : Int) (h0 : 0 ≤ a) (ha : a.natAbs < 9007199254740992) (hb : b.natAbs < 9007199254740992) (hab : (a - b).natAbs < 9007199254740992) :
    floatBits .sub .f64 (floatOfInt .f64 a) (floatOfInt .f64 b) = some (floatOfInt .f64 (a - b)) := by
  by_cases he : a = b
  · subst he
    obtain ⟨m, i, hr⟩ := ofInt_read a h0 ha
    rw [sub_self_zero hr, Int.sub_self]
    decide
  · obtain ⟨r, hr, hv⟩ := DV.sum (ofInt_at a ha) (DV.opposite (ofInt_at b hb))
    rw [show a + -b = a - b by omega] at hv
    show ((Ieee.double.read (floatOfInt .f64 a)).sum (Ieee.double.read (floatOfInt .f64 b)).opposite).map Ieee.double.write = _
    rw [hr]
    show some (Ieee.double.write r) = some (Ieee.double.write (.number (decide (a - b < 0)) (a - b).natAbs 0))
    rw [(hv.write_word (by omega) hab (by omega) (by omega)).1, ((ofInt_dv (a - b)).write_word (by omega) hab (by omega) (by omega)).1]

/-- One product of the sum: a weight c (0, 1 or -1) times a node's value; where c is not 0 the node is the one that is asked for. -/
theorem term {W v tgt : Nat} {c n q : Int} (hW : At W c 0) (hv : Fin v) (ht : At tgt n q) (hn : n.natAbs < 9007199254740992) (hq1 : -1074 ≤ q) (hq2 : q ≤ 971) (hc : c = 0 ∨ (v = tgt ∧ (c = 1 ∨ c = -1))) :
    ∃ z, floatBits .mul .f64 W v = some z ∧ At z (c * n) q := by
  rcases hc with rfl | ⟨rfl, hc⟩
  · obtain ⟨neg, m, p, hr⟩ := hv
    obtain ⟨h1, h2, h3, h4⟩ := finite_at hr
    obtain ⟨z, hz, ha⟩ := mul_at hW h1 (by omega) (by omega) (by simp)
    rw [Int.zero_mul] at ha ⊢
    exact ⟨z, hz, at_zero ha q⟩
  · have hb : (c * n).natAbs < 9007199254740992 := by rcases hc with rfl | rfl <;> omega
    obtain ⟨z, hz, ha⟩ := mul_at hW ht (by omega) (by omega) hb
    rw [Int.zero_add] at ha
    exact ⟨z, hz, ha⟩

/-- The whole sum. -/
theorem comb {W1 W2 W3 W4 v1 v2 v3 v4 tgt : Nat} {c1 c2 c3 c4 m1 m2 : Int} (h1 : At W1 c1 0) (h2 : At W2 c2 0) (h3 : At W3 c3 0) (h4 : At W4 c4 0) (f1 : Fin v1) (f2 : Fin v2) (f3 : Fin v3) (f4 : Fin v4) (ft : Fin tgt)
    (d1 : c1 = 0 ∨ (v1 = tgt ∧ (c1 = 1 ∨ c1 = -1))) (d2 : c2 = 0 ∨ (v2 = tgt ∧ (c2 = 1 ∨ c2 = -1))) (d3 : c3 = 0 ∨ (v3 = tgt ∧ (c3 = 1 ∨ c3 = -1))) (d4 : c4 = 0 ∨ (v4 = tgt ∧ (c4 = 1 ∨ c4 = -1)))
    (e1 : c1 + c2 = m1) (e2 : m1 - c3 = m2) (e3 : m2 + c4 = 1) (b1 : m1 = 0 ∨ m1 = 1) (b2 : m2 = 0 ∨ m2 = 1) :
    ∃ z1 z2 z3 z4 s1 s2 s3, floatBits .mul .f64 W1 v1 = some z1 ∧ floatBits .mul .f64 W2 v2 = some z2 ∧ floatBits .mul .f64 W3 v3 = some z3 ∧ floatBits .mul .f64 W4 v4 = some z4 ∧
      floatBits .add .f64 z1 z2 = some s1 ∧ floatBits .sub .f64 s1 z3 = some s2 ∧ floatBits .add .f64 s2 z4 = some s3 ∧ FloatKind.f64.format.order s3 tgt = some .eq := by
  obtain ⟨neg, m, q, hr⟩ := ft
  obtain ⟨ht, hn, hq1, hq2⟩ := finite_at hr
  generalize sg neg m = n at *
  obtain ⟨z1, k1, a1⟩ := term h1 f1 ht hn hq1 hq2 d1
  obtain ⟨z2, k2, a2⟩ := term h2 f2 ht hn hq1 hq2 d2
  obtain ⟨z3, k3, a3⟩ := term h3 f3 ht hn hq1 hq2 d3
  obtain ⟨z4, k4, a4⟩ := term h4 f4 ht hn hq1 hq2 d4
  have t1 : c1 * n + c2 * n = m1 * n := by rw [← Int.add_mul, e1]
  obtain ⟨s1, l1, g1⟩ := add_at a1 a2 hq1 hq2 (by rw [t1]; rcases b1 with rfl | rfl <;> omega)
  rw [t1] at g1
  have t2 : m1 * n - c3 * n = m2 * n := by rw [← Int.sub_mul, e2]
  obtain ⟨s2, l2, g2⟩ := sub_at g1 a3 hq1 hq2 (by rw [t2]; rcases b2 with rfl | rfl <;> omega)
  rw [t2] at g2
  have t3 : m2 * n + c4 * n = n := by rw [← Int.add_mul, e3, Int.one_mul]
  obtain ⟨s3, l3, g3⟩ := add_at g2 a4 hq1 hq2 (by rw [t3]; exact hn)
  rw [t3] at g3
  refine ⟨z1, z2, z3, z4, s1, s2, s3, k1, k2, k3, k4, l1, l2, l3, ?_⟩
  rw [order_at g3 ht]
  simp [compare, compareOfLessAndEq]

/-! ### The walk -/
theorem at_m11 : At 4607182418800017408 (1) 0 := by
  refine ⟨false, 4503599627370496, -52, by decide +kernel, -1074, by decide, by decide, ?_⟩
  unfold Fl.EqAt sg; decide +kernel
theorem at_m12 : At 0 (0) 0 := by
  refine ⟨false, 0, -1074, by decide +kernel, -1074, by decide, by decide, ?_⟩
  unfold Fl.EqAt sg; decide +kernel
theorem at_m13 : At 0 (0) 0 := by
  refine ⟨false, 0, -1074, by decide +kernel, -1074, by decide, by decide, ?_⟩
  unfold Fl.EqAt sg; decide +kernel
theorem at_m14 : At 0 (0) 0 := by
  refine ⟨false, 0, -1074, by decide +kernel, -1074, by decide, by decide, ?_⟩
  unfold Fl.EqAt sg; decide +kernel
theorem at_z1 : At 9223372036854775808 (0) 0 := by
  refine ⟨true, 0, -1074, by decide +kernel, -1074, by decide, by decide, ?_⟩
  unfold Fl.EqAt sg; decide +kernel
theorem at_z2 : At 4607182418800017408 (1) 0 := by
  refine ⟨false, 4503599627370496, -52, by decide +kernel, -1074, by decide, by decide, ?_⟩
  unfold Fl.EqAt sg; decide +kernel
theorem at_z3 : At 9223372036854775808 (0) 0 := by
  refine ⟨true, 0, -1074, by decide +kernel, -1074, by decide, by decide, ?_⟩
  unfold Fl.EqAt sg; decide +kernel
theorem at_z4 : At 9223372036854775808 (0) 0 := by
  refine ⟨true, 0, -1074, by decide +kernel, -1074, by decide, by decide, ?_⟩
  unfold Fl.EqAt sg; decide +kernel
theorem at_p11 : At 0 (0) 0 := by
  refine ⟨false, 0, -1074, by decide +kernel, -1074, by decide, by decide, ?_⟩
  unfold Fl.EqAt sg; decide +kernel
theorem at_p12 : At 9223372036854775808 (0) 0 := by
  refine ⟨true, 0, -1074, by decide +kernel, -1074, by decide, by decide, ?_⟩
  unfold Fl.EqAt sg; decide +kernel
theorem at_p13 : At 13830554455654793216 (-1) 0 := by
  refine ⟨true, 4503599627370496, -52, by decide +kernel, -1074, by decide, by decide, ?_⟩
  unfold Fl.EqAt sg; decide +kernel
theorem at_p14 : At 0 (0) 0 := by
  refine ⟨false, 0, -1074, by decide +kernel, -1074, by decide, by decide, ?_⟩
  unfold Fl.EqAt sg; decide +kernel
theorem at_p21 : At 9223372036854775808 (0) 0 := by
  refine ⟨true, 0, -1074, by decide +kernel, -1074, by decide, by decide, ?_⟩
  unfold Fl.EqAt sg; decide +kernel
theorem at_p22 : At 0 (0) 0 := by
  refine ⟨false, 0, -1074, by decide +kernel, -1074, by decide, by decide, ?_⟩
  unfold Fl.EqAt sg; decide +kernel
theorem at_p23 : At 0 (0) 0 := by
  refine ⟨false, 0, -1074, by decide +kernel, -1074, by decide, by decide, ?_⟩
  unfold Fl.EqAt sg; decide +kernel
theorem at_p24 : At 4607182418800017408 (1) 0 := by
  refine ⟨false, 4503599627370496, -52, by decide +kernel, -1074, by decide, by decide, ?_⟩
  unfold Fl.EqAt sg; decide +kernel

set_option maxRecDepth 100000 in
set_option maxHeartbeats 1000000 in
theorem interp_m1 (b i n v1 v2 v3 v4 : Nat) (K : Int) (hK : K - i = -1) (h1 : 1 ≤ i) (hn : i + 3 ≤ n) (hl : n ≤ 1024) (hi1 : i = 1) (y1 : Fin v1) (y2 : Fin v2) (y3 : Fin v3) (y4 : Fin v4) :
    ∃ z, FloatKind.f64.format.order z v1 = some .eq ∧ ∀ w : World, w.cell? ⟨b, i - 1, none⟩ = some (.float .f64 v1) → w.cell? ⟨b, i, none⟩ = some (.float .f64 v2) → w.cell? ⟨b, i + 1, none⟩ = some (.float .f64 v3) → w.cell? ⟨b, i + 2, none⟩ = some (.float .f64 v4) →
      Calls Yba.prog 11 #[.slice (some ⟨b, 0, none⟩) n n, .float .f64 (floatOfInt .f64 K)] w fun e w' => e = .returned (.float .f64 z) ∧ ∃ m, w' = w.drewN m := by
  have hK0 : 0 ≤ K := by omega
  have hK1 : K ≤ 1024 := by omega
  have hp := ofInt_at K (by omega)
  have hpf := floor_at (s := 0) hp (by simp; omega)
  rw [Int.pow_zero, Int.ediv_one] at hpf
  have hti := toInt_at hpf (by omega) (by omega)
  have hcv : ∀ w : World, (convert 22 3 (.float .f64 (floorWord (floatOfInt .f64 K)))).run Yba.prog w = .ok (.int .i64 K) w := fun w => run_convert_float_int w 22 3 .f64 .i64 _ _ (by kernel_rfl) Yba.underlying3 hti
  have hsub : ∀ w : World, (binOp .sub 22 (.float .f64 (floatOfInt .f64 K)) (.float .f64 (floatOfInt .f64 (i : Int)))).run Yba.prog w = .ok (.float .f64 13830554455654793216) w := fun w =>
    run_float_arith w .sub 22 .f64 _ _ _ (by rw [sub_ofInt K i hK0 (by omega) (by omega) (by omega), hK]; kernel_rfl)
  have hmax : ∀ (ts : Array TypeId) (t : TypeId) (w : World), (Builtin.max_ ts t #[.int .i64 K, .int .i64 1]).run Yba.prog w = .ok (.int .i64 (i : Int)) w := fun ts t w => by
    rw [run_max_int2]; congr 2; split <;> omega
  have hmin : ∀ (ts : Array TypeId) (t : TypeId) (w : World), (Builtin.min_ ts t #[.int .i64 (i : Int), .int .i64 ((n : Int) - 3)]).run Yba.prog w = .ok (.int .i64 (i : Int)) w := fun ts t w => by
    rw [run_min_int2]; congr 2; split <;> omega
  have hneg : ∀ w : World, (Op.unary .neg (.float .f64 13830554455654793216)).run Yba.prog w = .ok (.float .f64 4607182418800017408) w := fun w => by kernel_rfl
  have f0 : ∀ w : World, (binOp .sub 22 (.float .f64 13830554455654793216) (.float .f64 4607182418800017408)).run Yba.prog w = .ok (.float .f64 13835058055282163712) w := fun w => run_float_arith w .sub 22 .f64 13830554455654793216 4607182418800017408 13835058055282163712 (by kernel_rfl)
  have f1 : ∀ w : World, (binOp .mul 22 (.float .f64 4607182418800017408) (.float .f64 13835058055282163712)).run Yba.prog w = .ok (.float .f64 13835058055282163712) w := fun w => run_float_arith w .mul 22 .f64 4607182418800017408 13835058055282163712 13835058055282163712 (by kernel_rfl)
  have f2 : ∀ w : World, (binOp .sub 22 (.float .f64 13830554455654793216) (.float .f64 4611686018427387904)).run Yba.prog w = .ok (.float .f64 13837309855095848960) w := fun w => run_float_arith w .sub 22 .f64 13830554455654793216 4611686018427387904 13837309855095848960 (by kernel_rfl)
  have f3 : ∀ w : World, (binOp .mul 22 (.float .f64 13835058055282163712) (.float .f64 13837309855095848960)).run Yba.prog w = .ok (.float .f64 4618441417868443648) w := fun w => run_float_arith w .mul 22 .f64 13835058055282163712 13837309855095848960 4618441417868443648 (by kernel_rfl)
  have f4 : ∀ w : World, (binOp .quo 22 (.float .f64 4618441417868443648) (.float .f64 4618441417868443648)).run Yba.prog w = .ok (.float .f64 4607182418800017408) w := fun w => run_float_arith w .quo 22 .f64 4618441417868443648 4618441417868443648 4607182418800017408 (by kernel_rfl)
  have f5 : ∀ w : World, (binOp .add 22 (.float .f64 13830554455654793216) (.float .f64 4607182418800017408)).run Yba.prog w = .ok (.float .f64 0) w := fun w => run_float_arith w .add 22 .f64 13830554455654793216 4607182418800017408 0 (by kernel_rfl)
  have f6 : ∀ w : World, (binOp .mul 22 (.float .f64 0) (.float .f64 13835058055282163712)).run Yba.prog w = .ok (.float .f64 9223372036854775808) w := fun w => run_float_arith w .mul 22 .f64 0 13835058055282163712 9223372036854775808 (by kernel_rfl)
  have f7 : ∀ w : World, (binOp .mul 22 (.float .f64 9223372036854775808) (.float .f64 13837309855095848960)).run Yba.prog w = .ok (.float .f64 0) w := fun w => run_float_arith w .mul 22 .f64 9223372036854775808 13837309855095848960 0 (by kernel_rfl)
  have f8 : ∀ w : World, (binOp .quo 22 (.float .f64 0) (.float .f64 4611686018427387904)).run Yba.prog w = .ok (.float .f64 0) w := fun w => run_float_arith w .quo 22 .f64 0 4611686018427387904 0 (by kernel_rfl)
  have f9 : ∀ w : World, (binOp .mul 22 (.float .f64 0) (.float .f64 13830554455654793216)).run Yba.prog w = .ok (.float .f64 9223372036854775808) w := fun w => run_float_arith w .mul 22 .f64 0 13830554455654793216 9223372036854775808 (by kernel_rfl)
  have f10 : ∀ w : World, (binOp .mul 22 (.float .f64 9223372036854775808) (.float .f64 13835058055282163712)).run Yba.prog w = .ok (.float .f64 0) w := fun w => run_float_arith w .mul 22 .f64 9223372036854775808 13835058055282163712 0 (by kernel_rfl)
  have f11 : ∀ w : World, (binOp .quo 22 (.float .f64 0) (.float .f64 4618441417868443648)).run Yba.prog w = .ok (.float .f64 0) w := fun w => run_float_arith w .quo 22 .f64 0 4618441417868443648 0 (by kernel_rfl)
  obtain ⟨z1, z2, z3, z4, s1, s2, s3, k1, k2, k3, k4, l1, l2, l3, ho⟩ := comb (tgt := v1) at_m11 at_m12 at_m13 at_m14 y1 y2 y3 y4 y1 (.inr ⟨rfl, .inl rfl⟩) (.inl rfl) (.inl rfl) (.inl rfl) (m1 := 1) (m2 := 1) (by decide) (by decide) (by decide) (by decide) (by decide)
  refine ⟨s3, ho, fun w c1 c2 c3 c4 => ?_⟩
  have g1 : ∀ w : World, (binOp .mul 22 (.float .f64 4607182418800017408) (.float .f64 v1)).run Yba.prog w = .ok (.float .f64 z1) w := fun w => run_float_arith w .mul 22 .f64 _ _ _ k1
  have g2 : ∀ w : World, (binOp .mul 22 (.float .f64 0) (.float .f64 v2)).run Yba.prog w = .ok (.float .f64 z2) w := fun w => run_float_arith w .mul 22 .f64 _ _ _ k2
  have g3 : ∀ w : World, (binOp .mul 22 (.float .f64 0) (.float .f64 v3)).run Yba.prog w = .ok (.float .f64 z3) w := fun w => run_float_arith w .mul 22 .f64 _ _ _ k3
  have g4 : ∀ w : World, (binOp .mul 22 (.float .f64 0) (.float .f64 v4)).run Yba.prog w = .ok (.float .f64 z4) w := fun w => run_float_arith w .mul 22 .f64 _ _ _ k4
  have g5 : ∀ w : World, (binOp .add 22 (.float .f64 z1) (.float .f64 z2)).run Yba.prog w = .ok (.float .f64 s1) w := fun w => run_float_arith w .add 22 .f64 _ _ _ l1
  have g6 : ∀ w : World, (binOp .sub 22 (.float .f64 s1) (.float .f64 z3)).run Yba.prog w = .ok (.float .f64 s2) w := fun w => run_float_arith w .sub 22 .f64 _ _ _ l2
  have g7 : ∀ w : World, (binOp .add 22 (.float .f64 s2) (.float .f64 z4)).run Yba.prog w = .ok (.float .f64 s3) w := fun w => run_float_arith w .add 22 .f64 _ _ _ l3
  clear k1 k2 k3 k4 l1 l2 l3 ho y1 y2 y3 y4 hti hK hi1
  go_enter Yba.func11, Yba.ntmps11
  go_wp2_with (go_at_call 14; refine (floor_any hp _).mono ?_; rintro e w' ⟨rfl, rfl⟩)
  go_quiet (fail)
  go_wp2
  go_ret
  exact ⟨rfl, nq, rfl⟩

set_option maxRecDepth 100000 in
set_option maxHeartbeats 1000000 in
theorem interp_z (b i n v1 v2 v3 v4 : Nat) (K : Int) (hK : K - i = 0) (h1 : 1 ≤ i) (hn : i + 3 ≤ n) (hl : n ≤ 1024)  (y1 : Fin v1) (y2 : Fin v2) (y3 : Fin v3) (y4 : Fin v4) :
    ∃ z, FloatKind.f64.format.order z v2 = some .eq ∧ ∀ w : World, w.cell? ⟨b, i - 1, none⟩ = some (.float .f64 v1) → w.cell? ⟨b, i, none⟩ = some (.float .f64 v2) → w.cell? ⟨b, i + 1, none⟩ = some (.float .f64 v3) → w.cell? ⟨b, i + 2, none⟩ = some (.float .f64 v4) →
      Calls Yba.prog 11 #[.slice (some ⟨b, 0, none⟩) n n, .float .f64 (floatOfInt .f64 K)] w fun e w' => e = .returned (.float .f64 z) ∧ ∃ m, w' = w.drewN m := by
  have hK0 : 0 ≤ K := by omega
  have hK1 : K ≤ 1024 := by omega
  have hp := ofInt_at K (by omega)
  have hpf := floor_at (s := 0) hp (by simp; omega)
  rw [Int.pow_zero, Int.ediv_one] at hpf
  have hti := toInt_at hpf (by omega) (by omega)
  have hcv : ∀ w : World, (convert 22 3 (.float .f64 (floorWord (floatOfInt .f64 K)))).run Yba.prog w = .ok (.int .i64 K) w := fun w => run_convert_float_int w 22 3 .f64 .i64 _ _ (by kernel_rfl) Yba.underlying3 hti
  have hsub : ∀ w : World, (binOp .sub 22 (.float .f64 (floatOfInt .f64 K)) (.float .f64 (floatOfInt .f64 (i : Int)))).run Yba.prog w = .ok (.float .f64 0) w := fun w =>
    run_float_arith w .sub 22 .f64 _ _ _ (by rw [sub_ofInt K i hK0 (by omega) (by omega) (by omega), hK]; kernel_rfl)
  have hmax : ∀ (ts : Array TypeId) (t : TypeId) (w : World), (Builtin.max_ ts t #[.int .i64 K, .int .i64 1]).run Yba.prog w = .ok (.int .i64 K) w := fun ts t w => by
    rw [run_max_int2]; congr 2; split <;> omega
  have hmin : ∀ (ts : Array TypeId) (t : TypeId) (w : World), (Builtin.min_ ts t #[.int .i64 K, .int .i64 ((n : Int) - 3)]).run Yba.prog w = .ok (.int .i64 (i : Int)) w := fun ts t w => by
    rw [run_min_int2]; congr 2; split <;> omega
  have hneg : ∀ w : World, (Op.unary .neg (.float .f64 0)).run Yba.prog w = .ok (.float .f64 9223372036854775808) w := fun w => by kernel_rfl
  have f0 : ∀ w : World, (binOp .sub 22 (.float .f64 0) (.float .f64 4607182418800017408)).run Yba.prog w = .ok (.float .f64 13830554455654793216) w := fun w => run_float_arith w .sub 22 .f64 0 4607182418800017408 13830554455654793216 (by kernel_rfl)
  have f1 : ∀ w : World, (binOp .mul 22 (.float .f64 9223372036854775808) (.float .f64 13830554455654793216)).run Yba.prog w = .ok (.float .f64 0) w := fun w => run_float_arith w .mul 22 .f64 9223372036854775808 13830554455654793216 0 (by kernel_rfl)
  have f2 : ∀ w : World, (binOp .sub 22 (.float .f64 0) (.float .f64 4611686018427387904)).run Yba.prog w = .ok (.float .f64 13835058055282163712) w := fun w => run_float_arith w .sub 22 .f64 0 4611686018427387904 13835058055282163712 (by kernel_rfl)
  have f3 : ∀ w : World, (binOp .mul 22 (.float .f64 0) (.float .f64 13835058055282163712)).run Yba.prog w = .ok (.float .f64 9223372036854775808) w := fun w => run_float_arith w .mul 22 .f64 0 13835058055282163712 9223372036854775808 (by kernel_rfl)
  have f4 : ∀ w : World, (binOp .quo 22 (.float .f64 9223372036854775808) (.float .f64 4618441417868443648)).run Yba.prog w = .ok (.float .f64 9223372036854775808) w := fun w => run_float_arith w .quo 22 .f64 9223372036854775808 4618441417868443648 9223372036854775808 (by kernel_rfl)
  have f5 : ∀ w : World, (binOp .add 22 (.float .f64 0) (.float .f64 4607182418800017408)).run Yba.prog w = .ok (.float .f64 4607182418800017408) w := fun w => run_float_arith w .add 22 .f64 0 4607182418800017408 4607182418800017408 (by kernel_rfl)
  have f6 : ∀ w : World, (binOp .mul 22 (.float .f64 4607182418800017408) (.float .f64 13830554455654793216)).run Yba.prog w = .ok (.float .f64 13830554455654793216) w := fun w => run_float_arith w .mul 22 .f64 4607182418800017408 13830554455654793216 13830554455654793216 (by kernel_rfl)
  have f7 : ∀ w : World, (binOp .mul 22 (.float .f64 13830554455654793216) (.float .f64 13835058055282163712)).run Yba.prog w = .ok (.float .f64 4611686018427387904) w := fun w => run_float_arith w .mul 22 .f64 13830554455654793216 13835058055282163712 4611686018427387904 (by kernel_rfl)
  have f8 : ∀ w : World, (binOp .quo 22 (.float .f64 4611686018427387904) (.float .f64 4611686018427387904)).run Yba.prog w = .ok (.float .f64 4607182418800017408) w := fun w => run_float_arith w .quo 22 .f64 4611686018427387904 4611686018427387904 4607182418800017408 (by kernel_rfl)
  have f9 : ∀ w : World, (binOp .mul 22 (.float .f64 4607182418800017408) (.float .f64 0)).run Yba.prog w = .ok (.float .f64 0) w := fun w => run_float_arith w .mul 22 .f64 4607182418800017408 0 0 (by kernel_rfl)
  have f10 : ∀ w : World, (binOp .quo 22 (.float .f64 9223372036854775808) (.float .f64 4611686018427387904)).run Yba.prog w = .ok (.float .f64 9223372036854775808) w := fun w => run_float_arith w .quo 22 .f64 9223372036854775808 4611686018427387904 9223372036854775808 (by kernel_rfl)
  have f11 : ∀ w : World, (binOp .mul 22 (.float .f64 0) (.float .f64 13830554455654793216)).run Yba.prog w = .ok (.float .f64 9223372036854775808) w := fun w => run_float_arith w .mul 22 .f64 0 13830554455654793216 9223372036854775808 (by kernel_rfl)
  obtain ⟨z1, z2, z3, z4, s1, s2, s3, k1, k2, k3, k4, l1, l2, l3, ho⟩ := comb (tgt := v2) at_z1 at_z2 at_z3 at_z4 y1 y2 y3 y4 y2 (.inl rfl) (.inr ⟨rfl, .inl rfl⟩) (.inl rfl) (.inl rfl) (m1 := 1) (m2 := 1) (by decide) (by decide) (by decide) (by decide) (by decide)
  refine ⟨s3, ho, fun w c1 c2 c3 c4 => ?_⟩
  have g1 : ∀ w : World, (binOp .mul 22 (.float .f64 9223372036854775808) (.float .f64 v1)).run Yba.prog w = .ok (.float .f64 z1) w := fun w => run_float_arith w .mul 22 .f64 _ _ _ k1
  have g2 : ∀ w : World, (binOp .mul 22 (.float .f64 4607182418800017408) (.float .f64 v2)).run Yba.prog w = .ok (.float .f64 z2) w := fun w => run_float_arith w .mul 22 .f64 _ _ _ k2
  have g3 : ∀ w : World, (binOp .mul 22 (.float .f64 9223372036854775808) (.float .f64 v3)).run Yba.prog w = .ok (.float .f64 z3) w := fun w => run_float_arith w .mul 22 .f64 _ _ _ k3
  have g4 : ∀ w : World, (binOp .mul 22 (.float .f64 9223372036854775808) (.float .f64 v4)).run Yba.prog w = .ok (.float .f64 z4) w := fun w => run_float_arith w .mul 22 .f64 _ _ _ k4
  have g5 : ∀ w : World, (binOp .add 22 (.float .f64 z1) (.float .f64 z2)).run Yba.prog w = .ok (.float .f64 s1) w := fun w => run_float_arith w .add 22 .f64 _ _ _ l1
  have g6 : ∀ w : World, (binOp .sub 22 (.float .f64 s1) (.float .f64 z3)).run Yba.prog w = .ok (.float .f64 s2) w := fun w => run_float_arith w .sub 22 .f64 _ _ _ l2
  have g7 : ∀ w : World, (binOp .add 22 (.float .f64 s2) (.float .f64 z4)).run Yba.prog w = .ok (.float .f64 s3) w := fun w => run_float_arith w .add 22 .f64 _ _ _ l3
  clear k1 k2 k3 k4 l1 l2 l3 ho y1 y2 y3 y4 hti hK
  go_enter Yba.func11, Yba.ntmps11
  go_wp2_with (go_at_call 14; refine (floor_any hp _).mono ?_; rintro e w' ⟨rfl, rfl⟩)
  go_quiet (fail)
  go_wp2
  go_ret
  exact ⟨rfl, nq, rfl⟩

set_option maxRecDepth 100000 in
set_option maxHeartbeats 1000000 in
theorem interp_p1 (b i n v1 v2 v3 v4 : Nat) (K : Int) (hK : K - i = 1) (h1 : 1 ≤ i) (hn : i + 3 ≤ n) (hl : n ≤ 1024) (hi1 : n = i + 3) (y1 : Fin v1) (y2 : Fin v2) (y3 : Fin v3) (y4 : Fin v4) :
    ∃ z, FloatKind.f64.format.order z v3 = some .eq ∧ ∀ w : World, w.cell? ⟨b, i - 1, none⟩ = some (.float .f64 v1) → w.cell? ⟨b, i, none⟩ = some (.float .f64 v2) → w.cell? ⟨b, i + 1, none⟩ = some (.float .f64 v3) → w.cell? ⟨b, i + 2, none⟩ = some (.float .f64 v4) →
      Calls Yba.prog 11 #[.slice (some ⟨b, 0, none⟩) n n, .float .f64 (floatOfInt .f64 K)] w fun e w' => e = .returned (.float .f64 z) ∧ ∃ m, w' = w.drewN m := by
  have hK0 : 0 ≤ K := by omega
  have hK1 : K ≤ 1024 := by omega
  have hp := ofInt_at K (by omega)
  have hpf := floor_at (s := 0) hp (by simp; omega)
  rw [Int.pow_zero, Int.ediv_one] at hpf
  have hti := toInt_at hpf (by omega) (by omega)
  have hcv : ∀ w : World, (convert 22 3 (.float .f64 (floorWord (floatOfInt .f64 K)))).run Yba.prog w = .ok (.int .i64 K) w := fun w => run_convert_float_int w 22 3 .f64 .i64 _ _ (by kernel_rfl) Yba.underlying3 hti
  have hsub : ∀ w : World, (binOp .sub 22 (.float .f64 (floatOfInt .f64 K)) (.float .f64 (floatOfInt .f64 (i : Int)))).run Yba.prog w = .ok (.float .f64 4607182418800017408) w := fun w =>
    run_float_arith w .sub 22 .f64 _ _ _ (by rw [sub_ofInt K i hK0 (by omega) (by omega) (by omega), hK]; kernel_rfl)
  have hmax : ∀ (ts : Array TypeId) (t : TypeId) (w : World), (Builtin.max_ ts t #[.int .i64 K, .int .i64 1]).run Yba.prog w = .ok (.int .i64 K) w := fun ts t w => by
    rw [run_max_int2]; congr 2; split <;> omega
  have hmin : ∀ (ts : Array TypeId) (t : TypeId) (w : World), (Builtin.min_ ts t #[.int .i64 K, .int .i64 ((n : Int) - 3)]).run Yba.prog w = .ok (.int .i64 (i : Int)) w := fun ts t w => by
    rw [run_min_int2]; congr 2; split <;> omega
  have hneg : ∀ w : World, (Op.unary .neg (.float .f64 4607182418800017408)).run Yba.prog w = .ok (.float .f64 13830554455654793216) w := fun w => by kernel_rfl
  have f0 : ∀ w : World, (binOp .sub 22 (.float .f64 4607182418800017408) (.float .f64 4607182418800017408)).run Yba.prog w = .ok (.float .f64 0) w := fun w => run_float_arith w .sub 22 .f64 4607182418800017408 4607182418800017408 0 (by kernel_rfl)
  have f1 : ∀ w : World, (binOp .mul 22 (.float .f64 13830554455654793216) (.float .f64 0)).run Yba.prog w = .ok (.float .f64 9223372036854775808) w := fun w => run_float_arith w .mul 22 .f64 13830554455654793216 0 9223372036854775808 (by kernel_rfl)
  have f2 : ∀ w : World, (binOp .sub 22 (.float .f64 4607182418800017408) (.float .f64 4611686018427387904)).run Yba.prog w = .ok (.float .f64 13830554455654793216) w := fun w => run_float_arith w .sub 22 .f64 4607182418800017408 4611686018427387904 13830554455654793216 (by kernel_rfl)
  have f3 : ∀ w : World, (binOp .mul 22 (.float .f64 9223372036854775808) (.float .f64 13830554455654793216)).run Yba.prog w = .ok (.float .f64 0) w := fun w => run_float_arith w .mul 22 .f64 9223372036854775808 13830554455654793216 0 (by kernel_rfl)
  have f4 : ∀ w : World, (binOp .quo 22 (.float .f64 0) (.float .f64 4618441417868443648)).run Yba.prog w = .ok (.float .f64 0) w := fun w => run_float_arith w .quo 22 .f64 0 4618441417868443648 0 (by kernel_rfl)
  have f5 : ∀ w : World, (binOp .add 22 (.float .f64 4607182418800017408) (.float .f64 4607182418800017408)).run Yba.prog w = .ok (.float .f64 4611686018427387904) w := fun w => run_float_arith w .add 22 .f64 4607182418800017408 4607182418800017408 4611686018427387904 (by kernel_rfl)
  have f6 : ∀ w : World, (binOp .mul 22 (.float .f64 4611686018427387904) (.float .f64 0)).run Yba.prog w = .ok (.float .f64 0) w := fun w => run_float_arith w .mul 22 .f64 4611686018427387904 0 0 (by kernel_rfl)
  have f7 : ∀ w : World, (binOp .mul 22 (.float .f64 0) (.float .f64 13830554455654793216)).run Yba.prog w = .ok (.float .f64 9223372036854775808) w := fun w => run_float_arith w .mul 22 .f64 0 13830554455654793216 9223372036854775808 (by kernel_rfl)
  have f8 : ∀ w : World, (binOp .quo 22 (.float .f64 9223372036854775808) (.float .f64 4611686018427387904)).run Yba.prog w = .ok (.float .f64 9223372036854775808) w := fun w => run_float_arith w .quo 22 .f64 9223372036854775808 4611686018427387904 9223372036854775808 (by kernel_rfl)
  have f9 : ∀ w : World, (binOp .mul 22 (.float .f64 4611686018427387904) (.float .f64 4607182418800017408)).run Yba.prog w = .ok (.float .f64 4611686018427387904) w := fun w => run_float_arith w .mul 22 .f64 4611686018427387904 4607182418800017408 4611686018427387904 (by kernel_rfl)
  have f10 : ∀ w : World, (binOp .mul 22 (.float .f64 4611686018427387904) (.float .f64 13830554455654793216)).run Yba.prog w = .ok (.float .f64 13835058055282163712) w := fun w => run_float_arith w .mul 22 .f64 4611686018427387904 13830554455654793216 13835058055282163712 (by kernel_rfl)
  have f11 : ∀ w : World, (binOp .quo 22 (.float .f64 13835058055282163712) (.float .f64 4611686018427387904)).run Yba.prog w = .ok (.float .f64 13830554455654793216) w := fun w => run_float_arith w .quo 22 .f64 13835058055282163712 4611686018427387904 13830554455654793216 (by kernel_rfl)
  obtain ⟨z1, z2, z3, z4, s1, s2, s3, k1, k2, k3, k4, l1, l2, l3, ho⟩ := comb (tgt := v3) at_p11 at_p12 at_p13 at_p14 y1 y2 y3 y4 y3 (.inl rfl) (.inl rfl) (.inr ⟨rfl, .inr rfl⟩) (.inl rfl) (m1 := 0) (m2 := 1) (by decide) (by decide) (by decide) (by decide) (by decide)
  refine ⟨s3, ho, fun w c1 c2 c3 c4 => ?_⟩
  have g1 : ∀ w : World, (binOp .mul 22 (.float .f64 0) (.float .f64 v1)).run Yba.prog w = .ok (.float .f64 z1) w := fun w => run_float_arith w .mul 22 .f64 _ _ _ k1
  have g2 : ∀ w : World, (binOp .mul 22 (.float .f64 9223372036854775808) (.float .f64 v2)).run Yba.prog w = .ok (.float .f64 z2) w := fun w => run_float_arith w .mul 22 .f64 _ _ _ k2
  have g3 : ∀ w : World, (binOp .mul 22 (.float .f64 13830554455654793216) (.float .f64 v3)).run Yba.prog w = .ok (.float .f64 z3) w := fun w => run_float_arith w .mul 22 .f64 _ _ _ k3
  have g4 : ∀ w : World, (binOp .mul 22 (.float .f64 0) (.float .f64 v4)).run Yba.prog w = .ok (.float .f64 z4) w := fun w => run_float_arith w .mul 22 .f64 _ _ _ k4
  have g5 : ∀ w : World, (binOp .add 22 (.float .f64 z1) (.float .f64 z2)).run Yba.prog w = .ok (.float .f64 s1) w := fun w => run_float_arith w .add 22 .f64 _ _ _ l1
  have g6 : ∀ w : World, (binOp .sub 22 (.float .f64 s1) (.float .f64 z3)).run Yba.prog w = .ok (.float .f64 s2) w := fun w => run_float_arith w .sub 22 .f64 _ _ _ l2
  have g7 : ∀ w : World, (binOp .add 22 (.float .f64 s2) (.float .f64 z4)).run Yba.prog w = .ok (.float .f64 s3) w := fun w => run_float_arith w .add 22 .f64 _ _ _ l3
  clear k1 k2 k3 k4 l1 l2 l3 ho y1 y2 y3 y4 hti hK hi1
  go_enter Yba.func11, Yba.ntmps11
  go_wp2_with (go_at_call 14; refine (floor_any hp _).mono ?_; rintro e w' ⟨rfl, rfl⟩)
  go_quiet (fail)
  go_wp2
  go_ret
  exact ⟨rfl, nq, rfl⟩

set_option maxRecDepth 100000 in
set_option maxHeartbeats 1000000 in
theorem interp_p2 (b i n v1 v2 v3 v4 : Nat) (K : Int) (hK : K - i = 2) (h1 : 1 ≤ i) (hn : i + 3 ≤ n) (hl : n ≤ 1024) (hi1 : n = i + 3) (y1 : Fin v1) (y2 : Fin v2) (y3 : Fin v3) (y4 : Fin v4) :
    ∃ z, FloatKind.f64.format.order z v4 = some .eq ∧ ∀ w : World, w.cell? ⟨b, i - 1, none⟩ = some (.float .f64 v1) → w.cell? ⟨b, i, none⟩ = some (.float .f64 v2) → w.cell? ⟨b, i + 1, none⟩ = some (.float .f64 v3) → w.cell? ⟨b, i + 2, none⟩ = some (.float .f64 v4) →
      Calls Yba.prog 11 #[.slice (some ⟨b, 0, none⟩) n n, .float .f64 (floatOfInt .f64 K)] w fun e w' => e = .returned (.float .f64 z) ∧ ∃ m, w' = w.drewN m := by
  have hK0 : 0 ≤ K := by omega
  have hK1 : K ≤ 1024 := by omega
  have hp := ofInt_at K (by omega)
  have hpf := floor_at (s := 0) hp (by simp; omega)
  rw [Int.pow_zero, Int.ediv_one] at hpf
  have hti := toInt_at hpf (by omega) (by omega)
  have hcv : ∀ w : World, (convert 22 3 (.float .f64 (floorWord (floatOfInt .f64 K)))).run Yba.prog w = .ok (.int .i64 K) w := fun w => run_convert_float_int w 22 3 .f64 .i64 _ _ (by kernel_rfl) Yba.underlying3 hti
  have hsub : ∀ w : World, (binOp .sub 22 (.float .f64 (floatOfInt .f64 K)) (.float .f64 (floatOfInt .f64 (i : Int)))).run Yba.prog w = .ok (.float .f64 4611686018427387904) w := fun w =>
    run_float_arith w .sub 22 .f64 _ _ _ (by rw [sub_ofInt K i hK0 (by omega) (by omega) (by omega), hK]; kernel_rfl)
  have hmax : ∀ (ts : Array TypeId) (t : TypeId) (w : World), (Builtin.max_ ts t #[.int .i64 K, .int .i64 1]).run Yba.prog w = .ok (.int .i64 K) w := fun ts t w => by
    rw [run_max_int2]; congr 2; split <;> omega
  have hmin : ∀ (ts : Array TypeId) (t : TypeId) (w : World), (Builtin.min_ ts t #[.int .i64 K, .int .i64 ((n : Int) - 3)]).run Yba.prog w = .ok (.int .i64 (i : Int)) w := fun ts t w => by
    rw [run_min_int2]; congr 2; split <;> omega
  have hneg : ∀ w : World, (Op.unary .neg (.float .f64 4611686018427387904)).run Yba.prog w = .ok (.float .f64 13835058055282163712) w := fun w => by kernel_rfl
  have f0 : ∀ w : World, (binOp .sub 22 (.float .f64 4611686018427387904) (.float .f64 4607182418800017408)).run Yba.prog w = .ok (.float .f64 4607182418800017408) w := fun w => run_float_arith w .sub 22 .f64 4611686018427387904 4607182418800017408 4607182418800017408 (by kernel_rfl)
  have f1 : ∀ w : World, (binOp .mul 22 (.float .f64 13835058055282163712) (.float .f64 4607182418800017408)).run Yba.prog w = .ok (.float .f64 13835058055282163712) w := fun w => run_float_arith w .mul 22 .f64 13835058055282163712 4607182418800017408 13835058055282163712 (by kernel_rfl)
  have f2 : ∀ w : World, (binOp .sub 22 (.float .f64 4611686018427387904) (.float .f64 4611686018427387904)).run Yba.prog w = .ok (.float .f64 0) w := fun w => run_float_arith w .sub 22 .f64 4611686018427387904 4611686018427387904 0 (by kernel_rfl)
  have f3 : ∀ w : World, (binOp .mul 22 (.float .f64 13835058055282163712) (.float .f64 0)).run Yba.prog w = .ok (.float .f64 9223372036854775808) w := fun w => run_float_arith w .mul 22 .f64 13835058055282163712 0 9223372036854775808 (by kernel_rfl)
  have f4 : ∀ w : World, (binOp .quo 22 (.float .f64 9223372036854775808) (.float .f64 4618441417868443648)).run Yba.prog w = .ok (.float .f64 9223372036854775808) w := fun w => run_float_arith w .quo 22 .f64 9223372036854775808 4618441417868443648 9223372036854775808 (by kernel_rfl)
  have f5 : ∀ w : World, (binOp .add 22 (.float .f64 4611686018427387904) (.float .f64 4607182418800017408)).run Yba.prog w = .ok (.float .f64 4613937818241073152) w := fun w => run_float_arith w .add 22 .f64 4611686018427387904 4607182418800017408 4613937818241073152 (by kernel_rfl)
  have f6 : ∀ w : World, (binOp .mul 22 (.float .f64 4613937818241073152) (.float .f64 4607182418800017408)).run Yba.prog w = .ok (.float .f64 4613937818241073152) w := fun w => run_float_arith w .mul 22 .f64 4613937818241073152 4607182418800017408 4613937818241073152 (by kernel_rfl)
  have f7 : ∀ w : World, (binOp .mul 22 (.float .f64 4613937818241073152) (.float .f64 0)).run Yba.prog w = .ok (.float .f64 0) w := fun w => run_float_arith w .mul 22 .f64 4613937818241073152 0 0 (by kernel_rfl)
  have f8 : ∀ w : World, (binOp .quo 22 (.float .f64 0) (.float .f64 4611686018427387904)).run Yba.prog w = .ok (.float .f64 0) w := fun w => run_float_arith w .quo 22 .f64 0 4611686018427387904 0 (by kernel_rfl)
  have f9 : ∀ w : World, (binOp .mul 22 (.float .f64 4613937818241073152) (.float .f64 4611686018427387904)).run Yba.prog w = .ok (.float .f64 4618441417868443648) w := fun w => run_float_arith w .mul 22 .f64 4613937818241073152 4611686018427387904 4618441417868443648 (by kernel_rfl)
  have f10 : ∀ w : World, (binOp .mul 22 (.float .f64 4618441417868443648) (.float .f64 0)).run Yba.prog w = .ok (.float .f64 0) w := fun w => run_float_arith w .mul 22 .f64 4618441417868443648 0 0 (by kernel_rfl)
  have f11 : ∀ w : World, (binOp .mul 22 (.float .f64 4618441417868443648) (.float .f64 4607182418800017408)).run Yba.prog w = .ok (.float .f64 4618441417868443648) w := fun w => run_float_arith w .mul 22 .f64 4618441417868443648 4607182418800017408 4618441417868443648 (by kernel_rfl)
  have f12 : ∀ w : World, (binOp .quo 22 (.float .f64 4618441417868443648) (.float .f64 4618441417868443648)).run Yba.prog w = .ok (.float .f64 4607182418800017408) w := fun w => run_float_arith w .quo 22 .f64 4618441417868443648 4618441417868443648 4607182418800017408 (by kernel_rfl)
  obtain ⟨z1, z2, z3, z4, s1, s2, s3, k1, k2, k3, k4, l1, l2, l3, ho⟩ := comb (tgt := v4) at_p21 at_p22 at_p23 at_p24 y1 y2 y3 y4 y4 (.inl rfl) (.inl rfl) (.inl rfl) (.inr ⟨rfl, .inl rfl⟩) (m1 := 0) (m2 := 0) (by decide) (by decide) (by decide) (by decide) (by decide)
  refine ⟨s3, ho, fun w c1 c2 c3 c4 => ?_⟩
  have g1 : ∀ w : World, (binOp .mul 22 (.float .f64 9223372036854775808) (.float .f64 v1)).run Yba.prog w = .ok (.float .f64 z1) w := fun w => run_float_arith w .mul 22 .f64 _ _ _ k1
  have g2 : ∀ w : World, (binOp .mul 22 (.float .f64 0) (.float .f64 v2)).run Yba.prog w = .ok (.float .f64 z2) w := fun w => run_float_arith w .mul 22 .f64 _ _ _ k2
  have g3 : ∀ w : World, (binOp .mul 22 (.float .f64 0) (.float .f64 v3)).run Yba.prog w = .ok (.float .f64 z3) w := fun w => run_float_arith w .mul 22 .f64 _ _ _ k3
  have g4 : ∀ w : World, (binOp .mul 22 (.float .f64 4607182418800017408) (.float .f64 v4)).run Yba.prog w = .ok (.float .f64 z4) w := fun w => run_float_arith w .mul 22 .f64 _ _ _ k4
  have g5 : ∀ w : World, (binOp .add 22 (.float .f64 z1) (.float .f64 z2)).run Yba.prog w = .ok (.float .f64 s1) w := fun w => run_float_arith w .add 22 .f64 _ _ _ l1
  have g6 : ∀ w : World, (binOp .sub 22 (.float .f64 s1) (.float .f64 z3)).run Yba.prog w = .ok (.float .f64 s2) w := fun w => run_float_arith w .sub 22 .f64 _ _ _ l2
  have g7 : ∀ w : World, (binOp .add 22 (.float .f64 s2) (.float .f64 z4)).run Yba.prog w = .ok (.float .f64 s3) w := fun w => run_float_arith w .add 22 .f64 _ _ _ l3
  clear k1 k2 k3 k4 l1 l2 l3 ho y1 y2 y3 y4 hti hK hi1
  go_enter Yba.func11, Yba.ntmps11
  go_wp2_with (go_at_call 14; refine (floor_any hp _).mono ?_; rintro e w' ⟨rfl, rfl⟩)
  go_quiet (fail)
  go_wp2
  go_ret
  exact ⟨rfl, nq, rfl⟩

/-- At every node the cubic gives the node's value. -/
theorem interp_any (ys : List Nat) (b k : Nat) (h4 : 4 ≤ ys.length) (hl : ys.length ≤ 1024) (hk : k < ys.length) (hf : ∀ y ∈ ys, Fin y) :
    ∃ z, FloatKind.f64.format.order z ys[k] = some .eq ∧ ∀ w : World, w.heap[b]? = some (floats ys) →
      Calls Yba.prog 11 #[.slice (some ⟨b, 0, none⟩) ys.length ys.length, .float .f64 (floatOfInt .f64 (k : Int))] w fun e w' => e = .returned (.float .f64 z) ∧ ∃ m, w' = w.drewN m := by
  have hfi : ∀ j (hj : j < ys.length), Fin ys[j] := fun j hj => hf _ (List.getElem_mem hj)
  by_cases c0 : k = 0
  · subst c0
    obtain ⟨z, ho, hc⟩ := interp_m1 b 1 ys.length ys[0] ys[1] ys[2] ys[3] 0 (by omega) (by omega) (by omega) hl rfl (hfi _ _) (hfi _ _) (hfi _ _) (hfi _ _)
    exact ⟨z, ho, fun w hw => hc w (floats_cell hw 0 (by omega)) (floats_cell hw 1 (by omega)) (floats_cell hw 2 (by omega)) (floats_cell hw 3 (by omega))⟩
  · by_cases c1 : k + 3 ≤ ys.length
    · obtain ⟨z, ho, hc⟩ := interp_z b k ys.length (ys[k - 1]'(by omega)) ys[k] (ys[k + 1]'(by omega)) (ys[k + 2]'(by omega)) k (by omega) (by omega) c1 hl (hfi _ _) (hfi _ _) (hfi _ _) (hfi _ _)
      exact ⟨z, ho, fun w hw => hc w (floats_cell hw (k - 1) (by omega)) (floats_cell hw k (by omega)) (floats_cell hw (k + 1) (by omega)) (floats_cell hw (k + 2) (by omega))⟩
    · by_cases c2 : k + 2 = ys.length
      · obtain ⟨i, rfl⟩ : ∃ i, k = i + 1 := ⟨k - 1, by omega⟩
        obtain ⟨z, ho, hc⟩ := interp_p1 b i ys.length (ys[i - 1]'(by omega)) (ys[i]'(by omega)) ys[i + 1] (ys[i + 2]'(by omega)) ((i + 1 : Nat) : Int) (by omega) (by omega) (by omega) hl (by omega) (hfi _ _) (hfi _ _) (hfi _ _) (hfi _ _)
        exact ⟨z, ho, fun w hw => hc w (floats_cell hw (i - 1) (by omega)) (floats_cell hw i (by omega)) (floats_cell hw (i + 1) (by omega)) (floats_cell hw (i + 2) (by omega))⟩
      · obtain ⟨i, rfl⟩ : ∃ i, k = i + 2 := ⟨k - 2, by omega⟩
        obtain ⟨z, ho, hc⟩ := interp_p2 b i ys.length (ys[i - 1]'(by omega)) (ys[i]'(by omega)) (ys[i + 1]'(by omega)) ys[i + 2] ((i + 2 : Nat) : Int) (by omega) (by omega) (by omega) hl (by omega) (hfi _ _) (hfi _ _) (hfi _ _) (hfi _ _)
        exact ⟨z, ho, fun w hw => hc w (floats_cell hw (i - 1) (by omega)) (floats_cell hw i (by omega)) (floats_cell hw (i + 1) (by omega)) (floats_cell hw (i + 2) (by omega))⟩
end Go.Proofs.Ybulkasma
