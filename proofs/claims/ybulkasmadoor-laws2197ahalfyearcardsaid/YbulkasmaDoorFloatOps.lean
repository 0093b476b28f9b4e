/-
  Plain facts on Ieee's doubles, word by word (over YbulkasmaDoorFloat): 'At x n q': the word x stands for n * 2^q. No Go in it but the words of Derived/Laws/FloatArith ('floatBits', 'floatOfInt', 'floatToIntVal').
-/
import Derived.Test.YbulkasmaDoorFloat
namespace Go.Proofs.YbulkasmaDoor.Fl
open Ieee

/-- The word x stands for n * 2^q. -/
def At (x : Nat) (n q : Int) : Prop := DV (double.read x) n q

theorem At.rescale {x : Nat} {n q : Int} (h : At x n q) (k : Nat) {n' q' : Int} (hn : n' = n * 2 ^ k) (hq : q' = q - k) : At x n' q' := by
  subst hn; subst hq; exact DV.rescale h k
theorem At.descale {x : Nat} {n q : Int} (k : Nat) {n' q' : Int} (h : At x n' q') (hn : n' = n * 2 ^ k) (hq : q = q' + k) : At x n q := by
  subst hn; subst hq; exact DV.descale h

theorem add_at {x y : Nat} {a b q : Int} (hx : At x a q) (hy : At y b q) (h1 : -1074 ≤ q) (h2 : q ≤ 971) (hs : (a + b).natAbs < 9007199254740992) : ∃ z, floatBits .add .f64 x y = some z ∧ At z (a + b) q := by
  obtain ⟨r, hr, hv⟩ := DV.sum hx hy
  refine ⟨double.write r, ?_, hv.write hs h1 h2⟩
  show ((double.read x).sum (double.read y)).map double.write = _
  rw [hr]; rfl
theorem sub_at {x y : Nat} {a b q : Int} (hx : At x a q) (hy : At y b q) (h1 : -1074 ≤ q) (h2 : q ≤ 971) (hs : (a - b).natAbs < 9007199254740992) : ∃ z, floatBits .sub .f64 x y = some z ∧ At z (a - b) q := by
  obtain ⟨r, hr, hv⟩ := DV.sum hx (DV.opposite hy)
  rw [show a + -b = a - b by omega] at hv
  refine ⟨double.write r, ?_, hv.write hs h1 h2⟩
  show ((double.read x).sum (double.read y).opposite).map double.write = _
  rw [hr]; rfl
theorem mul_at {x y : Nat} {a b q r : Int} (hx : At x a q) (hy : At y b r) (h1 : -1074 ≤ q + r) (h2 : q + r ≤ 971) (hs : (a * b).natAbs < 9007199254740992) : ∃ z, floatBits .mul .f64 x y = some z ∧ At z (a * b) (q + r) := by
  obtain ⟨z, hz, hv⟩ := DV.product hx hy
  refine ⟨double.write z, ?_, hv.write hs h1 h2⟩
  show ((double.read x).product (double.read y)).map double.write = _
  rw [hz]; rfl
/-- A quotient that comes out even: c * 2^t, where a * 2^q = c * b * 2^(t + r). -/
theorem div_at {x y : Nat} {a b c q r t : Int} (hx : At x a q) (hy : At y b r) (hb : 0 < b) (B : Int) (hB1 : B ≤ q) (hB2 : B ≤ t + r) (hc : a * 2 ^ (q - B).toNat = c * b * 2 ^ (t + r - B).toNat)
    (h1 : -1074 ≤ t) (h2 : t ≤ 971) (hs : c.natAbs < 9007199254740992) : ∃ z, floatBits .quo .f64 x y = some z ∧ At z c t := by
  obtain ⟨z, hz, hv⟩ := DV.quotient hx hy hb hB1 hB2 hc hs
  refine ⟨double.write z, ?_, hv.write hs h1 h2⟩
  show ((double.read x).quotient (52 + 2) (double.read y)).map double.write = _
  rw [hz]; rfl
theorem order_at {x y : Nat} {a b q : Int} (hx : At x a q) (hy : At y b q) : FloatKind.f64.format.order x y = some (compare a b) := DV.order hx hy

theorem ofInt_at (n : Int) (h : n.natAbs < 9007199254740992) : At (floatOfInt .f64 n) n 0 := by
  have : DV (.number (decide (n < 0)) n.natAbs 0) n 0 := by
    refine ⟨_, _, _, rfl, 0, Int.le_refl _, Int.le_refl _, ?_⟩
    unfold EqAt sg
    simp only [Int.sub_self, Int.toNat_zero, Int.pow_zero, Int.mul_one]
    by_cases hn : n < 0
    · simp [hn]; omega
    · simp [hn]; omega
  exact this.write h (by omega) (by omega)

/-- math.Floor's word. -/
def floorWord (x : Nat) : Nat := FloatKind.f64.encode ((FloatKind.f64.decode x).integral .down)
theorem floor_at {x : Nat} {n : Int} {s : Nat} (h : At x n (-(s : Int))) (hs : (n / 2 ^ s).natAbs < 9007199254740992) : At (floorWord x) (n / 2 ^ s) 0 :=
  DV.write (DV.floor h) hs (by omega) (by omega)
theorem At.notNaN {x : Nat} {n q : Int} (h : At x n q) : ∃ neg m p, FloatKind.f64.decode x = .number neg m p := by
  obtain ⟨neg, m, p, hd, _⟩ := h
  exact ⟨neg, m, p, hd⟩

theorem toInt_at {x : Nat} {n : Int} (h : At x n 0) (h1 : -9223372036854775808 ≤ n) (h2 : n ≤ 9223372036854775807) : floatToIntVal .f64 x .i64 = some n := by
  have h' : DV (double.read x) n (-((0 : Nat) : Int)) := h
  obtain ⟨neg, m, i, hd, hc⟩ := h'.cross
  have hsg : (FloatKind.f64.decode x).toInt .zero = some n := by
    show (double.read x).toInt .zero = _
    rw [hd]
    simp only [Datum.toInt, Datum.integral, signed_eq, cut_zero, Nat.shiftLeft_eq, Int.pow_zero, Int.mul_one] at *
    congr 1
    generalize m * 2 ^ i.toNat = N at *
    have habs := congrArg Int.natAbs hc
    rw [sg_natAbs, Int.natAbs_mul, Int.natAbs_pow] at habs
    have h3 : N / 2 ^ (-i).toNat = n.natAbs := by
      rw [habs]; exact Nat.mul_div_cancel _ (Nat.two_pow_pos _)
    rw [h3]
    have hp := pow_pos' (-i).toNat
    cases neg
    · simp only [sg, Bool.false_eq_true, if_false] at *
      have : 0 ≤ n := by
        rcases Int.lt_trichotomy n 0 with h4 | h4 | h4
        · have := Int.mul_neg_of_neg_of_pos h4 hp; omega
        · omega
        · omega
      omega
    · simp only [sg, if_true] at *
      have : n ≤ 0 := by
        rcases Int.lt_trichotomy 0 n with h4 | h4 | h4
        · have := Int.mul_pos h4 hp; omega
        · omega
        · omega
      omega
  unfold floatToIntVal
  rw [hsg]
  have e1 : IntKind.i64.min = -9223372036854775808 := by decide
  have e2 : IntKind.i64.max = 9223372036854775807 := by decide
  simp [e1, e2, h1, h2]

/-- A finite word stands for a whole number below 2^53 times a power of two. -/
theorem finite_at {x : Nat} {neg : Bool} {m : Nat} {p : Int} (h : double.read x = .number neg m p) : At x (sg neg m) p ∧ (sg neg m).natAbs < 9007199254740992 ∧ -1074 ≤ p ∧ p ≤ 971 := by
  refine ⟨⟨neg, m, p, h, p, Int.le_refl _, Int.le_refl _, rfl⟩, ?_⟩
  rw [sg_natAbs]
  unfold Format.read at h
  simp only [sign_weight, binade52, inf_rung, least] at h
  split at h
  · injection h with h1 h2 h3
    omega
  · split at h
    · injection h with h1 h2 h3
      omega
    · split at h <;> cases h
end Go.Proofs.YbulkasmaDoor.Fl
