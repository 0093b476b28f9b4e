/-
  The floor of a rounded quotient of two whole numbers is the floor of the quotient (a < 2^40, b < 2^11): the rounding never carries it over a whole number. Plain facts on Ieee's doubles. No Go in it.
-/
import Derived.Test.YbulkasmaFloatOps
namespace Go.Proofs.Ybulkasma.Fl
open Ieee

theorem cut_even_near (neg : Bool) (n drop : Nat) : Toward.even.cut neg n drop = n / 2 ^ drop ∨ Toward.even.cut neg n drop = n / 2 ^ drop + 1 := by
  simp only [Toward.cut, Nat.one_shiftLeft, (cut_gap n drop).1]
  have h : ∀ t : Bool, n / 2 ^ drop + t.toNat = n / 2 ^ drop ∨ n / 2 ^ drop + t.toNat = n / 2 ^ drop + 1 := fun t => by cases t <;> simp
  exact h _

/-- The word of a significand that may have carried: K from 2^52 to 2^53, both ends let in. -/
theorem read_carry (neg : Bool) (e K : Nat) (he : e ≤ 2044) (h1 : 4503599627370496 ≤ K) (h2 : K ≤ 9007199254740992) : DV (double.read (double.word neg (e * 4503599627370496 + K))) (sg neg K) (-1074 + e) := by
  by_cases h3 : K < 9007199254740992
  · rw [read_rung neg e K (by omega) h3 (.inr h1)]
    exact ⟨neg, K, _, rfl, _, Int.le_refl _, Int.le_refl _, rfl⟩
  · have hK : K = 9007199254740992 := by omega
    subst hK
    rw [show e * 4503599627370496 + 9007199254740992 = (e + 1) * 4503599627370496 + 4503599627370496 by omega, read_rung neg (e + 1) 4503599627370496 (by omega) (by omega) (.inr (Nat.le_refl _))]
    refine ⟨neg, _, _, rfl, -1074 + e, by omega, Int.le_refl _, ?_⟩
    unfold EqAt
    rw [show (-1074 + ((e + 1 : Nat) : Int) - (-1074 + (e : Int))).toNat = 1 by omega, Int.sub_self]
    cases neg <;> simp [sg]

theorem pow_mono_lt {a b : Nat} (h : a < b) : 2 ^ a < 2 ^ b := Nat.pow_lt_pow_right (by omega) h

theorem floor_div {x y : Nat} {a b : Nat} (hx : At x a 0) (hy : At y b 0) (ha0 : 0 < a) (ha : a < 2 ^ 40) (hb0 : 0 < b) (hb : b < 2 ^ 11) :
    ∃ z, floatBits .quo .f64 x y = some z ∧ (∃ n q, At z n q) ∧ At (floorWord z) ((a / b : Nat) : Int) 0 := by
  obtain ⟨s, m, i, hd, gd⟩ := DV.get hx
  obtain ⟨u, n, j, hd', ge⟩ := DV.get hy
  have hs : s = false := by
    have := (gd (min i 0) (Int.min_le_left _ _) (Int.min_le_right _ _)).sign
    cases s
    · rfl
    · simp only [sg, if_true] at this; omega
  have hu : u = false := by
    have := (ge (min j 0) (Int.min_le_left _ _) (Int.min_le_right _ _)).sign
    cases u
    · rfl
    · simp only [sg, if_true] at this; omega
  subst hs; subst hu
  have hm0 : m ≠ 0 := by
    rintro rfl
    have := (gd (min i 0) (Int.min_le_left _ _) (Int.min_le_right _ _)).abs
    rw [Nat.zero_mul] at this
    rcases Nat.mul_eq_zero.1 this.symm with h | h
    · omega
    · exact absurd h (Nat.ne_of_gt (Nat.two_pow_pos _))
  have hn0 : n ≠ 0 := by
    rintro rfl
    have := (ge (min j 0) (Int.min_le_left _ _) (Int.min_le_right _ _)).abs
    rw [Nat.zero_mul] at this
    rcases Nat.mul_eq_zero.1 this.symm with h | h
    · omega
    · exact absurd h (Nat.ne_of_gt (Nat.two_pow_pos _))
  have hnp : 0 < n := Nat.pos_of_ne_zero hn0
  generalize hmore : 54 + n.log2 - m.log2 = more
  generalize hQ : m * 2 ^ more / n = Q
  generalize hsig : (m * 2 ^ more % n != 0).toNat = sig
  have hsig1 : sig ≤ 1 := by rw [← hsig]; cases (m * 2 ^ more % n != 0) <;> simp
  have hquo : floatBits .quo .f64 x y = some (double.write (.number false (2 * Q + sig) (i - j - more - 1))) := by
    show ((double.read x).quotient (52 + 2) (double.read y)).map double.write = _
    rw [hd, hd']
    simp only [Datum.quotient, if_neg hn0, Bool.xor_false, Nat.shiftLeft_eq, hmore, hQ, hsig]
    rfl
  refine ⟨_, hquo, ?_⟩
  -- m * 2^more * b * 2^u = a * n * 2^v, u or v nought
  have hlm := (Nat.log2_eq_iff hm0).1 rfl
  have hln := (Nat.log2_eq_iff hn0).1 rfl
  have hbig : 2 ^ (54 + n.log2) ≤ m * 2 ^ more := by
    have h1 : 2 ^ m.log2 * 2 ^ more ≤ m * 2 ^ more := Nat.mul_le_mul_right _ hlm.1
    rw [← Nat.pow_add] at h1
    exact Nat.le_trans (Nat.pow_le_pow_right (by omega) (by omega)) h1
  have hbig2 : 9007199254740992 * n ≤ m * 2 ^ more := by
    have h2 : 9007199254740992 * n ≤ 2 ^ 53 * 2 ^ (n.log2 + 1) := Nat.mul_le_mul_left _ (Nat.le_of_lt hln.2)
    rw [← Nat.pow_add, show 53 + (n.log2 + 1) = 54 + n.log2 by omega] at h2
    exact Nat.le_trans h2 hbig
  generalize hGG : (more : Int) - i + j = GG
  have hcross : m * 2 ^ more * b * 2 ^ (-GG).toNat = a * n * 2 ^ GG.toNat := by
    generalize hX : min i 0 = X
    generalize hY : min j 0 = Y
    have x1 := (gd X (by omega) (by omega)).abs
    have x2 := (ge Y (by omega) (by omega)).abs
    simp only [Int.natAbs_natCast] at x1 x2
    have e1 : m * 2 ^ more * b * 2 ^ (-GG).toNat * (2 ^ (i - X).toNat * 2 ^ (0 - Y).toNat) = a * n * 2 ^ GG.toNat * (2 ^ (i - X).toNat * 2 ^ (0 - Y).toNat) := by
      have l1 : m * 2 ^ more * b * 2 ^ (-GG).toNat * (2 ^ (i - X).toNat * 2 ^ (0 - Y).toNat) = (m * 2 ^ (i - X).toNat) * (b * 2 ^ (0 - Y).toNat) * (2 ^ more * 2 ^ (-GG).toNat) := by
        simp only [Nat.mul_assoc, Nat.mul_left_comm, Nat.mul_comm]
      have l2 : a * n * 2 ^ GG.toNat * (2 ^ (i - X).toNat * 2 ^ (0 - Y).toNat) = a * n * (2 ^ GG.toNat * 2 ^ (i - X).toNat * 2 ^ (0 - Y).toNat) := by
        simp only [Nat.mul_assoc]
      rw [l1, l2, x1, ← x2]
      have l3 : a * 2 ^ (0 - X).toNat * (n * 2 ^ (j - Y).toNat) * (2 ^ more * 2 ^ (-GG).toNat) = a * n * (2 ^ (0 - X).toNat * 2 ^ (j - Y).toNat * 2 ^ more * 2 ^ (-GG).toNat) := by
        simp only [Nat.mul_assoc, Nat.mul_left_comm, Nat.mul_comm]
      rw [l3, ← Nat.pow_add, ← Nat.pow_add, ← Nat.pow_add, ← Nat.pow_add, ← Nat.pow_add]
      congr 2
      omega
    exact Nat.eq_of_mul_eq_mul_right (Nat.mul_pos (Nat.two_pow_pos _) (Nat.two_pow_pos _)) e1
  have hGpos : 0 < GG := by
    rcases Int.lt_trichotomy 0 GG with h | h | h
    · exact h
    all_goals
      exfalso
      rw [show GG.toNat = 0 by omega, Nat.pow_zero, Nat.mul_one] at hcross
      have h1 : m * 2 ^ more ≤ m * 2 ^ more * b := Nat.le_mul_of_pos_right _ hb0
      have h2 : m * 2 ^ more * b ≤ m * 2 ^ more * b * 2 ^ (-GG).toNat := Nat.le_mul_of_pos_right _ (Nat.two_pow_pos _)
      have h3 : a * n ≤ 2 ^ 40 * n := Nat.mul_le_mul_right _ (Nat.le_of_lt ha)
      omega
  obtain ⟨G, hG⟩ : ∃ G : Nat, GG = G := ⟨GG.toNat, by omega⟩
  have hG0 : 0 < G := by omega
  rw [show (-GG).toNat = 0 by omega, show GG.toNat = G by omega, Nat.pow_zero, Nat.mul_one] at hcross
  have hQ' : Q = a * 2 ^ G / b := by
    rw [← hQ]
    refine cross_div hnp hb0 ?_
    rw [hcross]
    simp only [Nat.mul_assoc, Nat.mul_comm, Nat.mul_left_comm]
  have hplace : i - j - more - 1 = -(G : Int) - 1 := by omega
  rw [hplace]
  -- bounds on Q
  have hQ53 : 9007199254740992 ≤ Q := by rw [← hQ]; exact (Nat.le_div_iff_mul_le hnp).2 hbig2
  have hQa : Q ≤ a * 2 ^ G := by rw [hQ']; exact Nat.div_le_self _ _
  generalize hMM : 2 * Q + sig = M
  have hM0 : M ≠ 0 := by omega
  have hlM := (Nat.log2_eq_iff hM0).1 rfl
  generalize hlMM : M.log2 = lM at *
  have hlM54 : 54 ≤ lM := by
    rcases Nat.lt_or_ge lM 54 with h | h
    · have : 2 ^ (lM + 1) ≤ 2 ^ 54 := Nat.pow_le_pow_right (by omega) (by omega)
      omega
    · exact h
  have hMup : M < 2 ^ (41 + G) := by
    have h1 : (a + 1) * 2 ^ G ≤ 2 ^ 40 * 2 ^ G := Nat.mul_le_mul_right _ ha
    rw [Nat.add_mul, Nat.one_mul, ← Nat.pow_add] at h1
    have h2 : 2 ^ (41 + G) = 2 * 2 ^ (40 + G) := by rw [show 41 + G = (40 + G) + 1 by omega, Nat.pow_succ, Nat.mul_comm]
    have h3 : 0 < 2 ^ G := Nat.two_pow_pos _
    omega
  have hlMup : lM ≤ 40 + G := by
    rcases Nat.lt_or_ge (40 + G) lM with h | h
    · have : 2 ^ (41 + G) ≤ 2 ^ lM := Nat.pow_le_pow_right (by omega) (by omega)
      omega
    · exact h
  have hG14 : 14 ≤ G := by omega
  have hMlo : 2 ^ (G - 11) ≤ Q := by
    rw [hQ']
    refine (Nat.le_div_iff_mul_le hb0).2 ?_
    have h1 : 2 ^ (G - 11) * b ≤ 2 ^ (G - 11) * 2 ^ 11 := Nat.mul_le_mul_left _ (Nat.le_of_lt hb)
    rw [← Nat.pow_add, show G - 11 + 11 = G by omega] at h1
    have h2 : 1 * 2 ^ G ≤ a * 2 ^ G := Nat.mul_le_mul_right _ ha0
    omega
  have hlMlo : G - 11 ≤ lM := by
    rcases Nat.lt_or_ge lM (G - 11) with h | h
    · have : 2 ^ (lM + 1) ≤ 2 ^ (G - 11) := Nat.pow_le_pow_right (by omega) (by omega)
      omega
    · exact h
  -- the last place that is kept is -g
  obtain ⟨g, hg⟩ : ∃ g : Nat, (g : Int) = (G : Int) + 53 - lM := ⟨G + 53 - lM, by omega⟩
  have hg13 : 13 ≤ g := by omega
  have hg2 : g ≤ 64 := by omega
  have hwrite : double.write (.number false M (-(G : Int) - 1)) = double.word false ((1074 - g) * 4503599627370496 + Toward.even.cut false M (lM - 52)) := by
    show double.nearest false M (-(G : Int) - 1) = _
    unfold Format.nearest
    rw [if_neg hM0]
    simp only [least, binade52, inf_rung, hlMM]
    rw [show ((double.fractionBits : Nat) : Int) = 52 from rfl]
    rw [show max (-(G : Int) - 1 + (lM : Int) - 52) (-1074) = -(g : Int) by omega]
    rw [show (-(G : Int) - 1 - -(g : Int)).toNat = 0 by omega, Nat.shiftLeft_zero, show (-(g : Int) - (-(G : Int) - 1)).toNat = lM - 52 by omega, show (-(g : Int) - -1074).toNat = 1074 - g by omega]
    rw [Nat.min_eq_left]
    have hk : Toward.even.cut false M (lM - 52) ≤ 9007199254740992 := by
      have h1 : M / 2 ^ (lM - 52) < 9007199254740992 := by
        rw [Nat.div_lt_iff_lt_mul (Nat.two_pow_pos _)]
        have : 9007199254740992 * 2 ^ (lM - 52) = 2 ^ (lM + 1) := by
          rw [show (9007199254740992 : Nat) = 2 ^ 53 from rfl, ← Nat.pow_add]; congr 1; omega
        omega
      rcases cut_even_near false M (lM - 52) with h | h <;> omega
    omega
  -- the significand ahead of the rounding
  generalize hK0 : M / 2 ^ (lM - 52) = K0
  have hK0lo : 4503599627370496 ≤ K0 := by
    rw [← hK0]
    refine (Nat.le_div_iff_mul_le (Nat.two_pow_pos _)).2 ?_
    have : 4503599627370496 * 2 ^ (lM - 52) = 2 ^ lM := by
      rw [show (4503599627370496 : Nat) = 2 ^ 52 from rfl, ← Nat.pow_add]; congr 1; omega
    omega
  have hK0hi : K0 < 9007199254740992 := by
    rw [← hK0, Nat.div_lt_iff_lt_mul (Nat.two_pow_pos _)]
    have : 9007199254740992 * 2 ^ (lM - 52) = 2 ^ (lM + 1) := by
      rw [show (9007199254740992 : Nat) = 2 ^ 53 from rfl, ← Nat.pow_add]; congr 1; omega
    omega
  have hK0eq : K0 = a * 2 ^ g / b := by
    have h1 : M / 2 ^ (lM - 52) = Q / 2 ^ (lM - 53) := by
      rw [show lM - 52 = 1 + (lM - 53) by omega, Nat.pow_add, ← Nat.div_div_eq_div_mul, Nat.pow_one, show M / 2 = Q by omega]
    rw [← hK0, h1, hQ', Nat.div_div_eq_div_mul]
    refine cross_div (Nat.mul_pos hb0 (Nat.two_pow_pos _)) hb0 ?_
    rw [show G = g + (lM - 53) by omega, Nat.pow_add]
    simp only [Nat.mul_assoc, Nat.mul_comm, Nat.mul_left_comm]
  have hfl0 : K0 / 2 ^ g = a / b := by
    rw [hK0eq, Nat.div_div_eq_div_mul, Nat.mul_comm b, ← Nat.div_div_eq_div_mul, Nat.mul_div_cancel _ (Nat.two_pow_pos _)]
  have hp13 : 2 ^ 11 < 2 ^ g := pow_mono_lt (by omega)
  have hfl1 : (K0 + 1) / 2 ^ g = a / b := by
    rw [← hfl0, Nat.succ_div]
    split
    · rename_i hdvd
      exfalso
      obtain ⟨c, hc⟩ := hdvd
      have h1 : K0 * b ≤ a * 2 ^ g := by rw [hK0eq]; exact Nat.div_mul_le_self _ _
      have h2 : a * 2 ^ g < (K0 + 1) * b := by
        rw [hK0eq]; exact (Nat.div_lt_iff_lt_mul hb0).1 (Nat.lt_succ_self _)
      rw [hc] at h2
      have h3 : a < c * b := by
        have : 2 ^ g * c * b = c * b * 2 ^ g := by rw [Nat.mul_comm (2 ^ g) c, Nat.mul_right_comm]
        rw [this] at h2
        exact Nat.lt_of_mul_lt_mul_right h2
      have h4 : (a + 1) * 2 ^ g ≤ c * b * 2 ^ g := Nat.mul_le_mul_right _ h3
      have h5 : c * b * 2 ^ g = K0 * b + b := by
        rw [show c * b * 2 ^ g = (2 ^ g * c) * b by rw [Nat.mul_comm (2 ^ g) c, Nat.mul_right_comm], ← hc, Nat.add_mul, Nat.one_mul]
      rw [Nat.add_mul, Nat.one_mul] at h4
      omega
    · rfl
  generalize hKK : Toward.even.cut false M (lM - 52) = KK at *
  have hKK' : KK = K0 ∨ KK = K0 + 1 := by
    have := cut_even_near false M (lM - 52)
    rw [hKK, hK0] at this; exact this
  have hval : At (double.write (.number false M (-(G : Int) - 1))) (KK : Int) (-(g : Int)) := by
    unfold At
    rw [hwrite]
    have := read_carry false (1074 - g) KK (by omega) (by omega) (by omega)
    rw [show (-1074 + ((1074 - g : Nat) : Int)) = -(g : Int) by omega] at this
    simpa [sg] using this
  refine ⟨⟨_, _, hval⟩, ?_⟩
  have hfl : (KK : Int) / 2 ^ g = ((a / b : Nat) : Int) := by
    rw [show ((2 : Int) ^ g) = ((2 ^ g : Nat) : Int) by simp, ← Int.natCast_ediv]
    rcases hKK' with h | h
    · rw [h, hfl0]
    · rw [h, hfl1]
  have hsm : a / b ≤ a := Nat.div_le_self _ _
  have := floor_at hval (by rw [hfl, Int.natAbs_natCast]; exact Nat.lt_of_le_of_lt hsm (by omega))
  rw [hfl] at this
  exact this
end Go.Proofs.Ybulkasma.Fl
