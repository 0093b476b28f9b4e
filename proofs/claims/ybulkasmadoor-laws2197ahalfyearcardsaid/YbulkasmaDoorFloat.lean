/-
  Plain facts on Ieee's doubles, for the laws of this seat: what a word stands for, as a whole number times a power of two ('At x n q': the word x stands for n * 2^q); sums, products, quotients, order, whole parts, conversions, where the exact result is a double; and the floor of a rounded quotient of whole numbers. No Go in it.
-/
import Derived.Laws.FloatArith
namespace Go.Proofs.YbulkasmaDoor.Fl
open Ieee

/-- A magnitude with its sign. -/
def sg (neg : Bool) (m : Nat) : Int := if neg then -(m : Int) else m

theorem sg_natAbs (neg : Bool) (m : Nat) : (sg neg m).natAbs = m := by unfold sg; split <;> simp
theorem signed_eq (neg : Bool) (m u : Nat) : signed neg m u = sg neg m * 2 ^ u := by
  unfold signed sg
  rw [Nat.shiftLeft_eq]
  split <;> simp [Int.neg_mul]

theorem pow_split {p B B' : Int} (h1 : B' ≤ B) (h2 : B ≤ p) : (2 : Int) ^ (p - B').toNat = 2 ^ (p - B).toNat * 2 ^ (B - B').toNat := by
  rw [← Int.pow_add]
  congr 1
  omega
theorem pow_pos' (k : Nat) : (0 : Int) < 2 ^ k := Int.pow_pos (by decide)

/-- x * 2^p = y * 2^q, said over a base below both. -/
def EqAt (x : Int) (p : Int) (y : Int) (q : Int) (B : Int) : Prop := x * 2 ^ (p - B).toNat = y * 2 ^ (q - B).toNat

theorem EqAt.base {x y p q B B' : Int} (h : EqAt x p y q B) (h1 : B ≤ p) (h2 : B ≤ q) (h3 : B' ≤ p) (h4 : B' ≤ q) : EqAt x p y q B' := by
  unfold EqAt at *
  rcases Int.le_total B' B with hb | hb
  · rw [pow_split hb h1, pow_split hb h2, ← Int.mul_assoc, ← Int.mul_assoc, h]
  · rw [pow_split hb h3, pow_split hb h4, ← Int.mul_assoc, ← Int.mul_assoc] at h
    exact Int.eq_of_mul_eq_mul_right (Int.ne_of_gt (pow_pos' _)) h

/-- The datum d stands for n * 2^q. -/
def DV (d : Datum) (n : Int) (q : Int) : Prop := ∃ neg m p, d = .number neg m p ∧ ∃ B, B ≤ p ∧ B ≤ q ∧ EqAt (sg neg m) p n q B

theorem DV.get {d : Datum} {n q : Int} (h : DV d n q) : ∃ neg m p, d = .number neg m p ∧ ∀ B, B ≤ p → B ≤ q → EqAt (sg neg m) p n q B := by
  obtain ⟨neg, m, p, hd, B, h1, h2, he⟩ := h
  exact ⟨neg, m, p, hd, fun B' h3 h4 => he.base h1 h2 h3 h4⟩

theorem DV.rescale {d : Datum} {n q : Int} (h : DV d n q) (k : Nat) : DV d (n * 2 ^ k) (q - k) := by
  obtain ⟨neg, m, p, hd, h⟩ := h.get
  refine ⟨neg, m, p, hd, min p (q - k), Int.min_le_left _ _, Int.min_le_right _ _, ?_⟩
  have := h (min p (q - k)) (Int.min_le_left _ _) (by omega)
  unfold EqAt at *
  rw [this, Int.mul_assoc, ← Int.pow_add]
  congr 2
  omega
theorem DV.descale {d : Datum} {n q : Int} {k : Nat} (h : DV d (n * 2 ^ k) q) : DV d n (q + k) := by
  obtain ⟨neg, m, p, hd, h⟩ := h.get
  refine ⟨neg, m, p, hd, min p q, Int.min_le_left _ _, by omega, ?_⟩
  have := h (min p q) (Int.min_le_left _ _) (Int.min_le_right _ _)
  unfold EqAt at *
  rw [this, Int.mul_assoc, ← Int.pow_add]
  congr 2
  omega

theorem DV.sum {d e : Datum} {a b q : Int} (hd : DV d a q) (he : DV e b q) : ∃ r, d.sum e = some r ∧ DV r (a + b) q := by
  obtain ⟨s, m, i, rfl, gd⟩ := hd.get
  obtain ⟨t, n, j, rfl, ge⟩ := he.get
  refine ⟨_, rfl, ?_⟩
  simp only [signed_eq]
  generalize htot : sg s m * 2 ^ (i - min i j).toNat + sg t n * 2 ^ (j - min i j).toNat = total
  refine ⟨_, _, _, rfl, min (min i j) q, Int.min_le_left _ _, Int.min_le_right _ _, ?_⟩
  have hsg : sg (if total = 0 then s && t else decide (total < 0)) total.natAbs = total := by
    unfold sg
    by_cases h0 : total = 0
    · subst h0; simp
    · simp only [h0, if_false]
      by_cases hn : total < 0
      · simp [hn]; omega
      · simp [hn]; omega
  rw [hsg, ← htot]
  have h1 := gd (min (min i j) q) (by omega) (by omega)
  have h2 := ge (min (min i j) q) (by omega) (by omega)
  unfold EqAt at *
  rw [Int.add_mul, Int.add_mul, ← h1, ← h2, Int.mul_assoc, Int.mul_assoc, ← Int.pow_add, ← Int.pow_add]
  congr 4 <;> omega

theorem DV.opposite {d : Datum} {a q : Int} (hd : DV d a q) : DV d.opposite (-a) q := by
  obtain ⟨s, m, i, rfl, B, h1, h2, hd⟩ := hd
  refine ⟨!s, m, i, rfl, B, h1, h2, ?_⟩
  have hsg : sg (!s) m = - sg s m := by unfold sg; cases s <;> simp
  unfold EqAt at *
  rw [hsg, Int.neg_mul, Int.neg_mul, hd]

theorem DV.product {d e : Datum} {a b q r : Int} (hd : DV d a q) (he : DV e b r) : ∃ z, d.product e = some z ∧ DV z (a * b) (q + r) := by
  obtain ⟨s, m, i, rfl, B, h1, h2, hd⟩ := hd
  obtain ⟨t, n, j, rfl, C, k1, k2, he⟩ := he
  refine ⟨_, rfl, ?_⟩
  refine ⟨_, _, _, rfl, B + C, by omega, by omega, ?_⟩
  have hsg : sg (s ^^ t) (m * n) = sg s m * sg t n := by unfold sg; cases s <;> cases t <;> simp [Int.neg_mul, Int.mul_neg]
  unfold EqAt at *
  rw [hsg]
  have e1 : (i + j - (B + C)).toNat = (i - B).toNat + (j - C).toNat := by omega
  have e2 : (q + r - (B + C)).toNat = (q - B).toNat + (r - C).toNat := by omega
  rw [e1, e2, Int.pow_add, Int.pow_add]
  calc sg s m * sg t n * (2 ^ (i - B).toNat * 2 ^ (j - C).toNat) = (sg s m * 2 ^ (i - B).toNat) * (sg t n * 2 ^ (j - C).toNat) := by
        simp only [Int.mul_assoc, Int.mul_left_comm]
    _ = (a * 2 ^ (q - B).toNat) * (b * 2 ^ (r - C).toNat) := by rw [hd, he]
    _ = _ := by simp only [Int.mul_assoc, Int.mul_left_comm]

theorem compare_mul (a b : Int) (k : Nat) : compare (a * 2 ^ k) (b * 2 ^ k) = compare a b := by
  have hp := pow_pos' k
  simp only [compare, compareOfLessAndEq]
  have h1 : (a * 2 ^ k < b * 2 ^ k) ↔ a < b := ⟨fun h => Int.lt_of_mul_lt_mul_right h (Int.le_of_lt hp), fun h => Int.mul_lt_mul_of_pos_right h hp⟩
  have h2 : (a * 2 ^ k = b * 2 ^ k) ↔ a = b := ⟨fun h => Int.eq_of_mul_eq_mul_right (Int.ne_of_gt hp) h, fun h => by rw [h]⟩
  simp only [h1, h2]

theorem DV.order {d e : Datum} {a b q : Int} (hd : DV d a q) (he : DV e b q) : d.order e = some (compare a b) := by
  obtain ⟨s, m, i, rfl, gd⟩ := hd.get
  obtain ⟨t, n, j, rfl, ge⟩ := he.get
  simp only [Datum.order, signed_eq]
  have h1 := gd (min (min i j) q) (by omega) (by omega)
  have h2 := ge (min (min i j) q) (by omega) (by omega)
  unfold EqAt at *
  rw [← compare_mul _ _ (min i j - min (min i j) q).toNat, Int.mul_assoc, Int.mul_assoc, ← Int.pow_add, ← Int.pow_add]
  rw [show (i - min i j).toNat + (min i j - min (min i j) q).toNat = (i - min (min i j) q).toNat by omega,
    show (j - min i j).toNat + (min i j - min (min i j) q).toNat = (j - min (min i j) q).toNat by omega, h1, h2, compare_mul]

/-! ### Cutting -/

theorem cut_gap (n drop : Nat) : n / 2 ^ min drop (n.log2 + 2) = n / 2 ^ drop ∧ (n % 2 ^ min drop (n.log2 + 2) = 0 ↔ n % 2 ^ drop = 0) := by
  rcases Nat.le_total drop (n.log2 + 2) with h | h
  · rw [Nat.min_eq_left h]; exact ⟨rfl, Iff.rfl⟩
  · rw [Nat.min_eq_right h]
    have h1 : n < 2 ^ (n.log2 + 1) := Nat.lt_log2_self
    have h2 : n < 2 ^ (n.log2 + 2) := Nat.lt_of_lt_of_le h1 (Nat.pow_le_pow_right (by omega) (by omega))
    have h3 : n < 2 ^ drop := Nat.lt_of_lt_of_le h2 (Nat.pow_le_pow_right (by omega) h)
    rw [Nat.div_eq_of_lt h2, Nat.div_eq_of_lt h3, Nat.mod_eq_of_lt h2, Nat.mod_eq_of_lt h3]
    exact ⟨rfl, Iff.rfl⟩

theorem cut_zero (neg : Bool) (n drop : Nat) : Toward.zero.cut neg n drop = n / 2 ^ drop := by
  simp only [Toward.cut, Nat.one_shiftLeft, (cut_gap n drop).1]
  simp
theorem cut_down (neg : Bool) (n drop : Nat) : Toward.down.cut neg n drop = n / 2 ^ drop + (neg && n % 2 ^ drop != 0).toNat := by
  simp only [Toward.cut, Nat.one_shiftLeft, (cut_gap n drop).1]
  congr 2
  congr 1
  have := (cut_gap n drop).2
  by_cases h : n % 2 ^ drop = 0
  · rw [h, this.2 h]
  · have h' : ¬ n % 2 ^ min drop (n.log2 + 2) = 0 := fun e => h (this.1 e)
    rw [bne_iff_ne.2 h, bne_iff_ne.2 h']
theorem cut_even_exact (neg : Bool) (k drop : Nat) : Toward.even.cut neg (k * 2 ^ drop) drop = k := by
  have hp : 0 < 2 ^ drop := Nat.two_pow_pos _
  have h0 : (k * 2 ^ drop) % 2 ^ drop = 0 := Nat.mul_mod_left _ _
  have hg := cut_gap (k * 2 ^ drop) drop
  simp only [Toward.cut, Nat.one_shiftLeft, hg.1, hg.2.2 h0, Nat.mul_div_cancel _ hp]
  have hp' : 0 < 2 ^ min drop ((k * 2 ^ drop).log2 + 2) := Nat.two_pow_pos _
  have e1 : decide (2 ^ min drop ((k * 2 ^ drop).log2 + 2) < 2 * 0) = false := by simp
  have e2 : (2 ^ min drop ((k * 2 ^ drop).log2 + 2) == 2 * 0) = false := by simp
  rw [e1, e2]
  simp

/-! ### Whole parts -/

theorem DV.cross {d : Datum} {n : Int} {s : Nat} (h : DV d n (-(s : Int))) : ∃ neg m i, d = .number neg m i ∧ sg neg (m * 2 ^ i.toNat) * 2 ^ s = n * 2 ^ (-i).toNat := by
  obtain ⟨neg, m, i, rfl, g⟩ := h.get
  refine ⟨neg, m, i, rfl, ?_⟩
  have := g (-((-i).toNat + s : Nat)) (by omega) (by omega)
  unfold EqAt at this
  rw [show (i - -((-i).toNat + s : Nat)).toNat = i.toNat + s by omega, show (-(s : Int) - -((-i).toNat + s : Nat)).toNat = (-i).toNat by omega, Int.pow_add, ← Int.mul_assoc] at this
  rw [← this]
  congr 1
  unfold sg
  split <;> simp [Int.neg_mul]

theorem ediv_cross {x n : Int} {s D : Nat} (h : x * 2 ^ s = n * 2 ^ D) : n / 2 ^ s = x / 2 ^ D := by
  have h1 : n / 2 ^ s = (n * 2 ^ D) / (2 ^ s * 2 ^ D) := (Int.mul_ediv_mul_of_pos_left _ _ (pow_pos' D)).symm
  have h2 : x / 2 ^ D = (x * 2 ^ s) / (2 ^ D * 2 ^ s) := (Int.mul_ediv_mul_of_pos_left _ _ (pow_pos' s)).symm
  rw [h1, h2, h, Int.mul_comm (2 ^ D) (2 ^ s)]

theorem neg_ediv_ceil (N g : Nat) (hg : 0 < g) : (-(N : Int)) / (g : Int) = -((N / g + (N % g != 0).toNat : Nat) : Int) := by
  have hm := Nat.div_add_mod N g
  have hl := Nat.mod_lt N hg
  generalize hq : N / g = q at *
  generalize hr : N % g = r at *
  have hN : (N : Int) = g * q + r := by rw [← hm]; simp
  by_cases h : r = 0
  · subst h
    simp only [bne_self_eq_false, Bool.toNat_false, Nat.add_zero]
    rw [hN]
    rw [show (-((g : Int) * q + ((0 : Nat) : Int))) = (-(q : Int)) * g by rw [Int.neg_mul, Int.mul_comm (q : Int)]; simp]
    exact Int.mul_ediv_cancel _ (by omega)
  · rw [bne_iff_ne.2 h]
    simp only [Bool.toNat_true]
    rw [show (-(N : Int)) = ((g : Int) - r) + (-((q + 1 : Nat) : Int)) * g by
      rw [hN, Int.neg_mul, Int.mul_comm ((q + 1 : Nat) : Int), Int.natCast_add, Int.mul_add]; omega]
    rw [Int.add_mul_ediv_right _ _ (by omega), Int.ediv_eq_zero_of_lt (by omega) (by omega)]
    omega

theorem DV.floor {d : Datum} {n : Int} {s : Nat} (h : DV d n (-(s : Int))) : DV (d.integral .down) (n / 2 ^ s) 0 := by
  obtain ⟨neg, m, i, rfl, hx⟩ := h.cross
  refine ⟨neg, _, 0, rfl, 0, by omega, by omega, ?_⟩
  unfold EqAt
  simp only [Int.sub_self, Int.toNat_zero, Int.pow_zero, Int.mul_one]
  rw [ediv_cross hx, Nat.shiftLeft_eq, cut_down]
  generalize m * 2 ^ i.toNat = N
  have hg : 0 < 2 ^ (-i).toNat := Nat.two_pow_pos _
  have hc : ((2 : Int) ^ (-i).toNat) = ((2 ^ (-i).toNat : Nat) : Int) := by simp
  rw [hc]
  generalize 2 ^ (-i).toNat = g at *
  cases neg
  · simp [sg]
  · simp only [sg, if_true, Bool.true_and]
    exact (neg_ediv_ceil N g hg).symm

/-! ### Writing: a number that is a double is written as it is -/

theorem least : double.leastPlace = -1074 := by decide
theorem binade52 : double.binade = 4503599627370496 := by decide
theorem inf_rung : double.infRung = 9218868437227405312 := by decide
theorem sign_weight : double.signWeight = 9223372036854775808 := by decide

theorem read_word (neg : Bool) (rung : Nat) (h : rung < 9218868437227405312) :
    double.read (double.word neg rung) = if rung < 4503599627370496 then .number neg rung (-1074) else .number neg (4503599627370496 + rung % 4503599627370496) (-1074 + ((rung / 4503599627370496 - 1 : Nat) : Int)) := by
  have h1 : double.word neg rung / 9223372036854775808 % 2 = neg.toNat := by
    unfold Format.word
    rw [sign_weight]
    cases neg <;> simp <;> omega
  have h2 : double.word neg rung % 9223372036854775808 = rung := by
    unfold Format.word
    rw [sign_weight]
    cases neg <;> simp <;> omega
  unfold Format.read
  simp only [sign_weight, binade52, inf_rung, least, h1, h2]
  have h3 : (neg.toNat == 1) = neg := by cases neg <;> rfl
  rw [h3]
  split
  · rfl
  · first | rw [if_pos h] | rfl

theorem read_rung (neg : Bool) (e K : Nat) (he : e ≤ 2045) (hK : K < 9007199254740992) (hn : e = 0 ∨ 4503599627370496 ≤ K) :
    double.read (double.word neg (e * 4503599627370496 + K)) = .number neg K (-1074 + e) := by
  rw [read_word neg _ (by omega)]
  by_cases h0 : e * 4503599627370496 + K < 4503599627370496
  · rw [if_pos h0]
    have : e = 0 := by omega
    subst this
    simp
  · rw [if_neg h0]
    have h1 : 4503599627370496 ≤ K := by omega
    have h2 : (e * 4503599627370496 + K) / 4503599627370496 = e + 1 := by omega
    have h3 : (e * 4503599627370496 + K) % 4503599627370496 = K - 4503599627370496 := by omega
    rw [h2, h3, show 4503599627370496 + (K - 4503599627370496) = K by omega, show e + 1 - 1 = e by omega]

theorem log2_shift {m : Nat} (h : m ≠ 0) (k : Nat) : (m * 2 ^ k).log2 = m.log2 + k := by
  have hp : 0 < 2 ^ k := Nat.two_pow_pos _
  rw [Nat.log2_eq_iff (by intro e; rcases Nat.mul_eq_zero.1 e with e | e <;> omega)]
  have h1 := (Nat.log2_eq_iff h).1 rfl
  rw [Nat.pow_add, show m.log2 + k + 1 = (m.log2 + 1) + k by omega, Nat.pow_add 2 (m.log2 + 1) k]
  exact ⟨Nat.mul_le_mul_right _ h1.1, Nat.mul_lt_mul_of_pos_right h1.2 hp⟩

theorem sg_eq_zero {neg : Bool} {m : Nat} : sg neg m = 0 ↔ m = 0 := by unfold sg; cases neg <;> simp

/-- From a datum's value its magnitude's: mag * 2^(place - B) = |n| * 2^(q - B). -/
theorem EqAt.abs {neg : Bool} {m : Nat} {p n q B : Int} (h : EqAt (sg neg m) p n q B) : m * 2 ^ (p - B).toNat = n.natAbs * 2 ^ (q - B).toNat := by
  unfold EqAt at h
  have := congrArg Int.natAbs h
  rw [Int.natAbs_mul, Int.natAbs_mul, sg_natAbs, Int.natAbs_pow, Int.natAbs_pow] at this
  exact this
theorem EqAt.sign {neg : Bool} {m : Nat} {p n q B : Int} (h : EqAt (sg neg m) p n q B) : n = sg neg n.natAbs := by
  unfold EqAt at h
  have h1 := pow_pos' (p - B).toNat
  have h2 := pow_pos' (q - B).toNat
  cases neg
  · simp only [sg] at *
    have : 0 ≤ n * 2 ^ (q - B).toNat := by
      rw [← h]; exact Int.mul_nonneg (by simp) (Int.le_of_lt h1)
    have h3 : 0 ≤ n := by
      rcases Int.lt_trichotomy n 0 with h4 | h4 | h4
      · have := Int.mul_neg_of_neg_of_pos h4 h2; omega
      · omega
      · omega
    simp; omega
  · simp only [sg, if_true] at *
    have : n * 2 ^ (q - B).toNat ≤ 0 := by
      rw [← h, Int.neg_mul]
      have := Int.mul_nonneg (show (0 : Int) ≤ (m : Int) by omega) (Int.le_of_lt h1)
      omega
    have h3 : n ≤ 0 := by
      rcases Int.lt_trichotomy 0 n with h4 | h4 | h4
      · have := Int.mul_pos h4 h2; omega
      · omega
      · omega
    omega

theorem DV.zero (neg : Bool) (p q : Int) : DV (.number neg 0 p) 0 q := by
  refine ⟨neg, 0, p, rfl, min p q, Int.min_le_left _ _, Int.min_le_right _ _, ?_⟩
  unfold EqAt
  rw [sg_eq_zero.2 rfl]; simp

/-- Which binade: how far above the least place the last digit of n * 2^q stands. -/
def lift (n q : Int) : Nat := (max (q + (n.natAbs.log2 : Int) - 52) (-1074) + 1074).toNat
/-- The rung of n * 2^q, where that is a double. -/
def rungOf (n q : Int) : Nat := lift n q * 4503599627370496 + n.natAbs * 2 ^ (q - (-1074 + lift n q)).toNat

theorem DV.write_zero {d : Datum} {q : Int} (h : DV d 0 q) : ∃ neg, double.write d = double.word neg 0 ∧ double.read (double.write d) = .number neg 0 (-1074) := by
  obtain ⟨neg, mag, place, rfl, g⟩ := h.get
  have hm : mag = 0 := by
    have := (g (min place q) (Int.min_le_left _ _) (Int.min_le_right _ _)).abs
    rw [Int.natAbs_zero, Nat.zero_mul] at this
    rcases Nat.mul_eq_zero.1 this with h | h
    · exact h
    · exact absurd h (Nat.ne_of_gt (Nat.two_pow_pos _))
  subst hm
  have hw : double.write (.number neg 0 place) = double.word neg 0 := by
    show double.nearest neg 0 place = _
    unfold Format.nearest
    rw [if_pos rfl]
  refine ⟨neg, hw, ?_⟩
  rw [hw, read_word neg 0 (by decide)]
  rfl

theorem DV.write_word {d : Datum} {n q : Int} (h : DV d n q) (hn0 : n ≠ 0) (hn : n.natAbs < 9007199254740992) (h1 : -1074 ≤ q) (h2 : q ≤ 971) :
    double.write d = double.word (decide (n < 0)) (rungOf n q) ∧ double.read (double.write d) = .number (decide (n < 0)) (n.natAbs * 2 ^ (q - (-1074 + lift n q)).toNat) (-1074 + lift n q) ∧ -1074 + (lift n q : Int) ≤ q := by
  obtain ⟨neg, mag, place, rfl, g⟩ := h.get
  have hsign := (g (min place q) (Int.min_le_left _ _) (Int.min_le_right _ _)).sign
  have hneg : decide (n < 0) = neg := by
    cases neg
    · simp only [sg, Bool.false_eq_true, if_false] at hsign; simp; omega
    · simp only [sg, if_true] at hsign; simp; omega
  rw [hneg]
  unfold rungOf
  generalize hlift : lift n q = e
  unfold lift at hlift
  generalize hN : n.natAbs = N at *
  have habs : ∀ B, B ≤ place → B ≤ q → mag * 2 ^ (place - B).toNat = N * 2 ^ (q - B).toNat := fun B b1 b2 => by rw [← hN]; exact (g B b1 b2).abs
  have hN0 : N ≠ 0 := by omega
  have hm : mag ≠ 0 := by
    rintro rfl
    have := habs (min place q) (Int.min_le_left _ _) (Int.min_le_right _ _)
    rw [Nat.zero_mul] at this
    rcases Nat.mul_eq_zero.1 this.symm with h | h
    · exact hN0 h
    · exact absurd h (Nat.ne_of_gt (Nat.two_pow_pos _))
  have hlog : place + mag.log2 = q + N.log2 := by
    have h3 := congrArg Nat.log2 (habs (min place q) (Int.min_le_left _ _) (Int.min_le_right _ _))
    rw [log2_shift hm, log2_shift hN0] at h3
    omega
  have hl1 := (Nat.log2_eq_iff hN0).1 rfl
  have hl2 : N.log2 ≤ 52 := by
    rcases Nat.lt_or_ge 52 N.log2 with h | h
    · have : 2 ^ 53 ≤ 2 ^ N.log2 := Nat.pow_le_pow_right (by omega) h
      omega
    · exact h
  have hw : double.write (.number neg mag place) = double.word neg (e * 4503599627370496 + N * 2 ^ (q - (-1074 + e)).toNat) ∧ N * 2 ^ (q - (-1074 + e)).toNat < 9007199254740992 ∧ (e = 0 ∨ 4503599627370496 ≤ N * 2 ^ (q - (-1074 + e)).toNat) ∧ -1074 + (e : Int) ≤ q ∧ e ≤ 2045 := by
    show double.nearest neg mag place = _ ∧ _
    unfold Format.nearest
    rw [if_neg hm]
    simp only [least, binade52, inf_rung]
    rw [show ((double.fractionBits : Nat) : Int) = 52 from rfl]
    generalize hlast : max (place + (mag.log2 : Int) - 52) (-1074) = last
    have hlq : last ≤ q := by omega
    have hel : last = -1074 + e := by omega
    have hkept : Toward.even.cut neg (mag <<< (place - last).toNat) (last - place).toNat = N * 2 ^ (q - last).toNat := by
      rw [Nat.shiftLeft_eq]
      rcases Int.le_total last place with h3 | h3
      · have h4 := habs last h3 hlq
        rw [h4, show (last - place).toNat = 0 by omega]
        have := cut_even_exact neg (N * 2 ^ (q - last).toNat) 0
        simpa using this
      · have h4 := habs place (Int.le_refl _) (by omega)
        simp only [Int.sub_self, Int.toNat_zero, Nat.pow_zero, Nat.mul_one] at h4
        rw [show (place - last).toNat = 0 by omega, Nat.pow_zero, Nat.mul_one, h4,
          show (q - place).toNat = (q - last).toNat + (last - place).toNat by omega, Nat.pow_add, ← Nat.mul_assoc]
        exact cut_even_exact _ _ _
    rw [hkept]
    have hK : N * 2 ^ (q - last).toNat < 9007199254740992 := by
      have h3 : N * 2 ^ (q - last).toNat < 2 ^ (N.log2 + 1) * 2 ^ (q - last).toNat := Nat.mul_lt_mul_of_pos_right hl1.2 (Nat.two_pow_pos _)
      rw [← Nat.pow_add] at h3
      have h4 : 2 ^ (N.log2 + 1 + (q - last).toNat) ≤ 2 ^ 53 := Nat.pow_le_pow_right (by omega) (by omega)
      omega
    have hK2 : e = 0 ∨ 4503599627370496 ≤ N * 2 ^ (q - last).toNat := by
      rcases Int.le_total (place + (mag.log2 : Int) - 52) (-1074) with h3 | h3
      · left; omega
      · right
        have h4 : 2 ^ N.log2 * 2 ^ (q - last).toNat ≤ N * 2 ^ (q - last).toNat := Nat.mul_le_mul_right _ hl1.1
        rw [← Nat.pow_add, show N.log2 + (q - last).toNat = 52 by omega] at h4
        exact h4
    rw [← hel]
    generalize hKK : N * 2 ^ (q - last).toNat = K at *
    refine ⟨?_, hK, hK2, by omega, by omega⟩
    rw [show (last - -1074).toNat = e by omega, Nat.min_eq_left (by omega)]
  obtain ⟨hw, hK, hK2, hlq, he⟩ := hw
  refine ⟨hw, ?_, hlq⟩
  rw [hw, read_rung neg e _ he hK hK2]

theorem DV.write {d : Datum} {n q : Int} (h : DV d n q) (hn : n.natAbs < 9007199254740992) (h1 : -1074 ≤ q) (h2 : q ≤ 971) : DV (double.read (double.write d)) n q := by
  by_cases hn0 : n = 0
  · subst hn0
    obtain ⟨neg, _, hr⟩ := h.write_zero
    rw [hr]
    exact DV.zero _ _ _
  · obtain ⟨_, hr, hl⟩ := h.write_word hn0 hn h1 h2
    rw [hr]
    refine ⟨_, _, _, rfl, _, Int.le_refl _, hl, ?_⟩
    unfold EqAt
    rw [Int.sub_self, Int.toNat_zero, Int.pow_zero, Int.mul_one]
    generalize (q - (-1074 + (lift n q : Int))).toNat = k
    unfold sg
    by_cases hneg : n < 0
    · simp only [hneg, decide_true, if_true, Int.natCast_mul, Int.natCast_pow]
      rw [← Int.neg_mul, show -(n.natAbs : Int) = n by omega]; rfl
    · simp only [hneg, decide_false, Bool.false_eq_true, if_false, Int.natCast_mul, Int.natCast_pow]
      rw [show (n.natAbs : Int) = n by omega]; rfl

/-! ### Quotients -/

theorem cross_div {p q r s : Nat} (hq : 0 < q) (hs : 0 < s) (h : p * s = r * q) : p / q = r / s := by
  rw [← Nat.mul_div_mul_right p q hs, ← Nat.mul_div_mul_right r s hq, h, Nat.mul_comm q s]

/-- A quotient that comes out even. -/
theorem DV.quotient {d e : Datum} {a b c q r t B : Int} (hd : DV d a q) (he : DV e b r) (hb : 0 < b) (hB1 : B ≤ q) (hB2 : B ≤ t + r) (hc : EqAt a q (c * b) (t + r) B) (h53 : c.natAbs < 9007199254740992) :
    ∃ z, d.quotient 54 e = some z ∧ DV z c t := by
  obtain ⟨s, m, i, rfl, gd⟩ := hd.get
  obtain ⟨u, n, j, rfl, ge⟩ := he.get
  have hn0 : n ≠ 0 := by
    rintro rfl
    have := (ge (min j r) (Int.min_le_left _ _) (Int.min_le_right _ _)).abs
    rw [Nat.zero_mul] at this
    rcases Nat.mul_eq_zero.1 this.symm with h | h
    · omega
    · exact absurd h (Nat.ne_of_gt (Nat.two_pow_pos _))
  have hu : u = false := by
    have := (ge (min j r) (Int.min_le_left _ _) (Int.min_le_right _ _)).sign
    cases u
    · rfl
    · simp only [sg, if_true] at this; omega
  subst hu
  simp only [Datum.quotient, if_neg hn0, Bool.xor_false]
  refine ⟨_, rfl, ?_⟩
  by_cases hm : m = 0
  · subst hm
    have ha : a = 0 := by
      have := (gd (min i q) (Int.min_le_left _ _) (Int.min_le_right _ _)).abs
      rw [Nat.zero_mul] at this
      rcases Nat.mul_eq_zero.1 this.symm with h | h
      · omega
      · exact absurd h (Nat.ne_of_gt (Nat.two_pow_pos _))
    have hc0 : c = 0 := by
      unfold EqAt at hc
      rw [ha, Int.zero_mul] at hc
      rcases Int.mul_eq_zero.1 hc.symm with h | h
      · rcases Int.mul_eq_zero.1 h with h | h
        · exact h
        · omega
      · exact absurd h (Int.ne_of_gt (pow_pos' _))
    subst hc0
    have e0 : 2 * (0 <<< (54 + n.log2 - Nat.log2 0) / n) + (0 <<< (54 + n.log2 - Nat.log2 0) % n != 0).toNat = 0 := by simp
    rw [e0]
    exact DV.zero _ _ _
  · generalize hmore : 54 + n.log2 - m.log2 = more
    -- m * 2^i = |c| * n * 2^(t + j)
    generalize hX : min (min i q) (min (t + r) (t + j)) = X
    have x1 := (gd X (by omega) (by omega)).abs
    have x2 := (hc.base (B' := X) hB1 hB2 (by omega) (by omega))
    have x3 := (ge (X - t) (by omega) (by omega)).abs
    have hkey : m * 2 ^ (i - X).toNat = c.natAbs * n * 2 ^ (t + j - X).toNat := by
      unfold EqAt at x2
      have x2' := congrArg Int.natAbs x2
      rw [Int.natAbs_mul, Int.natAbs_mul, Int.natAbs_mul, Int.natAbs_pow, Int.natAbs_pow] at x2'
      rw [x1, show a.natAbs * 2 ^ (q - X).toNat = c.natAbs * b.natAbs * 2 ^ (t + r - X).toNat from x2', Nat.mul_assoc, show (t + r - X).toNat = (r - (X - t)).toNat by omega, ← x3, show (j - (X - t)).toNat = (t + j - X).toNat by omega, ← Nat.mul_assoc]
    have hlm := (Nat.log2_eq_iff hm).1 rfl
    have hln := (Nat.log2_eq_iff hn0).1 rfl
    have hbig : 2 ^ (54 + n.log2) ≤ m * 2 ^ more := by
      have h1 : 2 ^ m.log2 * 2 ^ more ≤ m * 2 ^ more := Nat.mul_le_mul_right _ hlm.1
      rw [← Nat.pow_add] at h1
      exact Nat.le_trans (Nat.pow_le_pow_right (by omega) (by omega)) h1
    have hsmall : c.natAbs * n < 2 ^ (54 + n.log2) := by
      have h1 : c.natAbs * n ≤ 9007199254740992 * n := Nat.mul_le_mul_right _ (by omega)
      have h2 : 9007199254740992 * n < 2 ^ 53 * 2 ^ (n.log2 + 1) := (Nat.mul_lt_mul_left (by decide)).2 hln.2
      rw [← Nat.pow_add, show 53 + (n.log2 + 1) = 54 + n.log2 by omega] at h2
      omega
    have hE : 0 < t + j - i + more := by
      rcases Int.lt_trichotomy 0 (t + j - i + more) with h | h | h
      · exact h
      all_goals
        exfalso
        have h1 : m * 2 ^ (i - X).toNat * 2 ^ (-(t + j - i + more) + more).toNat = c.natAbs * n * 2 ^ (i - X).toNat := by
          rw [hkey, Nat.mul_assoc, ← Nat.pow_add]
          congr 2
          omega
        have h2 : m * 2 ^ more * 2 ^ (-(t + j - i + more)).toNat * 2 ^ (i - X).toNat = c.natAbs * n * 2 ^ (i - X).toNat := by
          rw [← h1, show (-(t + j - i + more) + (more : Int)).toNat = more + (-(t + j - i + more)).toNat by omega, Nat.pow_add]
          simp only [Nat.mul_assoc, Nat.mul_left_comm, Nat.mul_comm]
        have h3 := Nat.eq_of_mul_eq_mul_right (Nat.two_pow_pos _) h2
        have h4 : m * 2 ^ more ≤ m * 2 ^ more * 2 ^ (-(t + j - i + more)).toNat := Nat.le_mul_of_pos_right _ (Nat.two_pow_pos _)
        omega
    have hdiv : m * 2 ^ more = c.natAbs * 2 ^ (t + j - i + more).toNat * n := by
      have h1 : m * 2 ^ more * 2 ^ (i - X).toNat = c.natAbs * 2 ^ (t + j - i + more).toNat * n * 2 ^ (i - X).toNat := by
        have h2 : m * 2 ^ more * 2 ^ (i - X).toNat = (m * 2 ^ (i - X).toNat) * 2 ^ more := Nat.mul_right_comm _ _ _
        rw [h2, hkey, Nat.mul_assoc, ← Nat.pow_add, show (t + j - X).toNat + more = (t + j - i + more).toNat + (i - X).toNat by omega, Nat.pow_add]
        simp only [Nat.mul_assoc, Nat.mul_left_comm, Nat.mul_comm]
      exact Nat.eq_of_mul_eq_mul_right (Nat.two_pow_pos _) h1
    rw [Nat.shiftLeft_eq, hdiv, Nat.mul_div_cancel _ (Nat.pos_of_ne_zero hn0), Nat.mul_mod_left]
    generalize hEE : (t + j - i + more).toNat = E at *
    have hsgn : c = sg s c.natAbs := by
      have h1 := (gd (min i q) (Int.min_le_left _ _) (Int.min_le_right _ _)).sign
      have h2 : a ≠ 0 := by
        intro h
        rw [h, Int.natAbs_zero, Nat.zero_mul] at x1
        rcases Nat.mul_eq_zero.1 x1 with h | h
        · exact hm h
        · exact absurd h (Nat.ne_of_gt (Nat.two_pow_pos _))
      unfold EqAt at hc
      have p1 := pow_pos' (q - B).toNat
      have p2 := pow_pos' (t + r - B).toNat
      cases s
      · simp only [sg, Bool.false_eq_true, if_false] at *
        rcases Int.lt_trichotomy 0 c with h | h | h
        · omega
        · omega
        · have h3 := Int.mul_neg_of_neg_of_pos h hb
          have h4 := Int.mul_neg_of_neg_of_pos h3 p2
          have h5 := Int.mul_pos (show 0 < a by omega) p1
          omega
      · simp only [sg, if_true] at *
        rcases Int.lt_trichotomy 0 c with h | h | h
        · have h3 := Int.mul_pos h hb
          have h4 := Int.mul_pos h3 p2
          have h5 := Int.mul_neg_of_neg_of_pos (show a < 0 by omega) p1
          omega
        · omega
        · omega
    refine ⟨s, _, _, rfl, i - j - more - 1, Int.le_refl _, by omega, ?_⟩
    unfold EqAt
    simp only [Int.sub_self, Int.toNat_zero, Int.pow_zero, Int.mul_one, bne_self_eq_false, Bool.toNat_false, Nat.add_zero]
    rw [show (t - (i - j - more - 1)).toNat = E + 1 by omega]
    conv => rhs; rw [hsgn]
    generalize c.natAbs = cc
    unfold sg
    split
    · simp only [Int.natCast_mul, Int.natCast_pow, Int.neg_mul, Int.pow_succ]
      rw [Int.mul_left_comm]; simp [Int.mul_comm]
    · simp only [Int.natCast_mul, Int.natCast_pow, Int.pow_succ]
      rw [Int.mul_left_comm]; simp [Int.mul_comm]
end Go.Proofs.YbulkasmaDoor.Fl
