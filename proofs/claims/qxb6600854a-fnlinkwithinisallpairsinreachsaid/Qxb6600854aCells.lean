import Derived.Test.Qxb6600854aOps
/-! Two points in reach of each other lie in cells side by side. Plain: no program, no walk. -/
namespace Go.Proofs.Qxb6600854a.Fl
open Ieee
set_option exponentiation.threshold 5000
set_option linter.unusedSimpArgs false

theorem cut_zero (neg : Bool) (n drop : Nat) : Toward.zero.cut neg n drop = n / 2 ^ drop := by
  unfold Toward.cut
  simp only [Bool.toNat_false, Nat.add_zero, Nat.one_shiftLeft]
  by_cases hd : drop ≤ n.log2 + 2
  · rw [Nat.min_eq_left hd]
  · rw [Nat.min_eq_right (by omega)]
    have h1 : n < 2 ^ (n.log2 + 1) := Nat.lt_log2_self
    have h2 : 2 ^ (n.log2 + 1) ≤ 2 ^ (n.log2 + 2) := Nat.pow_le_pow_right (by decide) (by omega)
    have h3 : 2 ^ (n.log2 + 1) ≤ 2 ^ drop := Nat.pow_le_pow_right (by decide) (by omega)
    rw [Nat.div_eq_of_lt (by omega), Nat.div_eq_of_lt (by omega)]

theorem toInt_fin {r : Nat} {s : Bool} {K : Nat} (h : Fin r s K) (hs : s = true → K = 0) : (Ieee.double.read r).toInt .zero = some ((K / 2 ^ 1074 : Nat) : Int) := by
  obtain ⟨m, i, hr, hi, ha⟩ := h
  rw [hr]
  unfold Datum.toInt Datum.integral
  simp only [cut_zero, Nat.shiftLeft_eq, signed_eq, Nat.pow_zero, Nat.mul_one]
  have e : m * 2 ^ i.toNat / 2 ^ (-i).toNat = K / 2 ^ 1074 := by
    rcases Int.le_total 0 i with l | l
    · rw [show (-i).toNat = 0 by omega, Nat.pow_zero, Nat.div_one, ha, show (i + 1074).toNat = i.toNat + 1074 by omega, Nat.pow_add, ← Nat.mul_assoc, Nat.mul_div_cancel _ (Nat.two_pow_pos _)]
    · rw [show i.toNat = 0 by omega, Nat.pow_zero, Nat.mul_one, ha]
      rw [show (2 : Nat) ^ 1074 = 2 ^ (-i).toNat * 2 ^ (i + 1074).toNat by rw [← Nat.pow_add]; congr 1; omega, Nat.mul_div_mul_right _ _ (Nat.two_pow_pos _)]
  rw [e]
  cases s
  · rfl
  · rw [hs rfl]; simp

/-! ### How near the nearest is -/
theorem dense {v : Nat} (h : 4503599627370496 ≤ v) : ∃ k e : Nat, 4503599627370496 ≤ k ∧ k < 9007199254740992 ∧ k * 2 ^ e ≤ v ∧ v < (k + 1) * 2 ^ e := by
  obtain ⟨b1, b2⟩ := log2_bounds (show v ≠ 0 by omega)
  have hl : 52 ≤ v.log2 := by
    rcases Nat.lt_or_ge v.log2 52 with q | q
    · exfalso
      have : 2 ^ (v.log2 + 1) ≤ 2 ^ 52 := Nat.pow_le_pow_right (by decide) q
      have e : (2 : Nat) ^ 52 = 4503599627370496 := by decide
      omega
    · exact q
  have p := Nat.two_pow_pos (v.log2 - 52)
  have c1 : 4503599627370496 * 2 ^ (v.log2 - 52) ≤ v := by
    refine Nat.le_trans ?_ b1
    rw [show (4503599627370496 : Nat) = 2 ^ 52 by decide, ← Nat.pow_add]
    exact Nat.pow_le_pow_right (by decide) (by omega)
  have c2 : v < 9007199254740992 * 2 ^ (v.log2 - 52) := by
    refine Nat.lt_of_lt_of_le b2 ?_
    rw [show (9007199254740992 : Nat) = 2 ^ 53 by decide, ← Nat.pow_add]
    exact Nat.pow_le_pow_right (by decide) (by omega)
  refine ⟨v / 2 ^ (v.log2 - 52), v.log2 - 52, (Nat.le_div_iff_mul_le p).2 c1, (Nat.div_lt_iff_lt_mul p).2 c2, Nat.div_mul_le_self _ _, ?_⟩
  rw [Nat.add_mul, Nat.one_mul]
  exact Nat.lt_div_mul_add p

theorem Nr.lower {num den K : Nat} (h : Nr num den K) (hd : 0 < den) (hn : 4503599627370496 * den ≤ num) : num * 4503599627370496 ≤ K * 4503599627370497 * den := by
  obtain ⟨k, e, k1, k2, k3, k4⟩ := dense (v := num / den) ((Nat.le_div_iff_mul_le hd).2 hn)
  have hv := Nat.div_mul_le_self num den
  have hlt : num < (num / den + 1) * den := by
    rw [Nat.add_mul, Nat.one_mul]
    exact Nat.lt_div_mul_add hd
  have t := h.ge (k * 2 ^ e) ⟨k, e, ⟨by omega, .inl k1⟩, rfl⟩ (Nat.le_trans (Nat.mul_le_mul_right _ k3) hv)
  have a1 : num ≤ (k + 1) * 2 ^ e * den := Nat.le_trans (Nat.le_of_lt hlt) (Nat.mul_le_mul_right _ k4)
  have a2 : (k + 1) * 4503599627370496 ≤ k * 4503599627370497 := by omega
  calc num * 4503599627370496 ≤ (k + 1) * 2 ^ e * den * 4503599627370496 := Nat.mul_le_mul_right _ a1
    _ = (k + 1) * 4503599627370496 * (2 ^ e * den) := by simp only [Nat.mul_assoc, Nat.mul_comm, Nat.mul_left_comm]
    _ ≤ k * 4503599627370497 * (2 ^ e * den) := Nat.mul_le_mul_right _ a2
    _ = k * 2 ^ e * (4503599627370497 * den) := by simp only [Nat.mul_assoc, Nat.mul_comm, Nat.mul_left_comm]
    _ ≤ K * (4503599627370497 * den) := Nat.mul_le_mul_right _ t
    _ = K * 4503599627370497 * den := by rw [Nat.mul_assoc]

theorem Nr.upper {num den K : Nat} (h : Nr num den K) (hd : 0 < den) (hn : 4503599627370496 * den ≤ num) : K * 4503599627370496 * den ≤ num * 4503599627370497 := by
  obtain ⟨k, e, k1, k2, k3, k4⟩ := dense (v := num / den) ((Nat.le_div_iff_mul_le hd).2 hn)
  have hv := Nat.div_mul_le_self num den
  have hlt : num < (num / den + 1) * den := by
    rw [Nat.add_mul, Nat.one_mul]
    exact Nat.lt_div_mul_add hd
  have t := h.le ((k + 1) * 2 ^ e) ⟨k + 1, e, ⟨by omega, .inl (by omega)⟩, rfl⟩ (Nat.le_trans (Nat.le_of_lt hlt) (Nat.mul_le_mul_right _ k4))
  have a2 : (k + 1) * 4503599627370496 ≤ k * 4503599627370497 := by omega
  calc K * 4503599627370496 * den ≤ (k + 1) * 2 ^ e * 4503599627370496 * den := Nat.mul_le_mul_right _ (Nat.mul_le_mul_right _ t)
    _ = (k + 1) * 4503599627370496 * (2 ^ e * den) := by simp only [Nat.mul_assoc, Nat.mul_comm, Nat.mul_left_comm]
    _ ≤ k * 4503599627370497 * (2 ^ e * den) := Nat.mul_le_mul_right _ a2
    _ = k * 2 ^ e * den * 4503599627370497 := by simp only [Nat.mul_assoc, Nat.mul_comm, Nat.mul_left_comm]
    _ ≤ num * 4503599627370497 := Nat.mul_le_mul_right _ (Nat.le_trans (Nat.mul_le_mul_right _ k3) hv)

/-! ### Points two cells apart -/
theorem gap {a b C Qa Qb i : Nat} (ha : Nr (a * 2 ^ 1074) C Qa) (hb : Nr (b * 2 ^ 1074) C Qb) (i2 : 2 ≤ i) (hi : i ≤ 1048576) (hQa : i * 2 ^ 1074 ≤ Qa) (hQb : Qb < (i - 1) * 2 ^ 1074) :
    4294967295 * C < (a - b) * 4294967296 := by
  obtain ⟨j, rfl⟩ : ∃ j, i = j + 1 := ⟨i - 1, by omega⟩
  have hU : (2 : Nat) ^ 1074 = 4294967296 * 2 ^ 1042 := by
    rw [show (4294967296 : Nat) = 2 ^ 32 by decide, ← Nat.pow_add]
  have pW : 0 < 2 ^ 1042 := Nat.two_pow_pos _
  have n1 : ¬ a * 2 ^ 1074 ≤ ((j + 1) * 4294967296 - 1) * 2 ^ 1042 * C := fun h => by
    have := ha.le _ (rep_of 1042 ((j + 1) * 4294967296 - 1) (by omega)) h
    rw [hU, ← Nat.mul_assoc] at hQa
    have h3 : ((j + 1) * 4294967296 - 1 + 1) * 2 ^ 1042 ≤ Qa := by rw [show (j + 1) * 4294967296 - 1 + 1 = (j + 1) * 4294967296 by omega]; exact hQa
    rw [Nat.add_mul, Nat.one_mul] at h3
    omega
  have n2 : ¬ j * 2 ^ 1074 * C ≤ b * 2 ^ 1074 := fun h => by
    have := hb.ge _ (rep_of 1074 j (by omega)) h
    rw [Nat.add_sub_cancel] at hQb
    omega
  have m1 : ((j + 1) * 4294967296 - 1) * C < a * 4294967296 := by
    rcases Nat.lt_or_ge (((j + 1) * 4294967296 - 1) * C) (a * 4294967296) with q | q
    · exact q
    · exfalso
      apply n1
      rw [hU, ← Nat.mul_assoc]
      calc a * 4294967296 * 2 ^ 1042 ≤ ((j + 1) * 4294967296 - 1) * C * 2 ^ 1042 := Nat.mul_le_mul_right _ q
        _ = ((j + 1) * 4294967296 - 1) * 2 ^ 1042 * C := by rw [Nat.mul_assoc, Nat.mul_assoc, Nat.mul_comm C]
  have m2 : b < j * C := by
    rcases Nat.lt_or_ge b (j * C) with q | q
    · exact q
    · exfalso
      apply n2
      calc j * 2 ^ 1074 * C = j * C * 2 ^ 1074 := by rw [Nat.mul_assoc, Nat.mul_assoc, Nat.mul_comm C]
        _ ≤ b * 2 ^ 1074 := Nat.mul_le_mul_right _ q
  have e1 : ((j + 1) * 4294967296 - 1) * C = j * C * 4294967296 + 4294967295 * C := by
    rw [show (j + 1) * 4294967296 - 1 = j * 4294967296 + 4294967295 by omega, Nat.add_mul, Nat.mul_assoc, Nat.mul_assoc, Nat.mul_comm C]
  generalize j * C = Z at m2 e1
  omega

theorem sq_le {x y : Nat} (h : x * x ≤ y * y) : x ≤ y := by
  rcases Nat.lt_or_ge y x with q | q
  · have := Nat.mul_lt_mul_of_lt_of_le q (Nat.le_of_lt q) (by omega)
    omega
  · exact q

theorem far_small {R C D K K2 N : Nat} (hR : R < 2 ^ 584) (hC : 2 ^ 721 ≤ C) (hD : 4294967295 * C < D * 4294967296) (hK : Nr D 1 K) (hK2 : Nr (K * K) (2 ^ 1074) K2) (hN : Nr (R * R) (2 ^ 1074) N) : N < K2 := by
  have n1 : N ≤ 2 ^ 94 := hN.le _ (rep_pow 94) (by
    rw [← Nat.pow_add, show 94 + 1074 = 584 + 584 by decide, Nat.pow_add]
    exact Nat.mul_le_mul (Nat.le_of_lt hR) (Nat.le_of_lt hR))
  have d1 : 2 ^ 720 ≤ D := by
    have : (2 : Nat) ^ 721 = 2 * 2 ^ 720 := by rw [Nat.pow_succ, Nat.mul_comm]
    rw [this] at hC
    generalize 2 ^ 720 = z at hC ⊢
    omega
  have k1 : 2 ^ 720 ≤ K := hK.ge _ (rep_pow 720) (by rw [Nat.mul_one]; exact d1)
  have k2 : 2 ^ 366 ≤ K2 := hK2.ge _ (rep_pow 366) (by
    rw [← Nat.pow_add, show 366 + 1074 = 720 + 720 by decide, Nat.pow_add]
    exact Nat.mul_le_mul k1 k1)
  have : (2 : Nat) ^ 94 < 2 ^ 366 := Nat.pow_lt_pow_right (by decide) (by decide)
  omega

theorem far_big {R C1 C D K K2 N : Nat} (hR : 2 ^ 584 ≤ R) (hC1 : Nr (R * (4503599631874096 * 2 ^ 1022)) (2 ^ 1074) C1) (hCC : C1 ≤ C) (hC : 2 ^ 721 ≤ C) (hD : 4294967295 * C < D * 4294967296) (hK : Nr D 1 K) (hK2 : Nr (K * K) (2 ^ 1074) K2) (hN : Nr (R * R) (2 ^ 1074) N) : N < K2 := by
  have hU : (2 : Nat) ^ 1074 = 4503599627370496 * 2 ^ 1022 := by
    rw [show (4503599627370496 : Nat) = 2 ^ 52 by decide, ← Nat.pow_add]
  have pU : 0 < 2 ^ 1074 := Nat.two_pow_pos _
  have pW : 0 < 2 ^ 1022 := Nat.two_pow_pos _
  have b52 : (4503599627370496 : Nat) = 2 ^ 52 := by decide
  have d1 : 2 ^ 720 ≤ D := by
    have : (2 : Nat) ^ 721 = 2 * 2 ^ 720 := by rw [Nat.pow_succ, Nat.mul_comm]
    rw [this] at hC
    generalize 2 ^ 720 = z at hC ⊢
    omega
  have k1 : 2 ^ 720 ≤ K := hK.ge _ (rep_pow 720) (by rw [Nat.mul_one]; exact d1)
  have q1 := hC1.lower pU (by
    rw [b52, ← Nat.pow_add]
    have h1 : 2 ^ 584 * (2 ^ 52 * 2 ^ 1022) ≤ R * (4503599631874096 * 2 ^ 1022) := Nat.mul_le_mul hR (Nat.mul_le_mul_right _ (by decide))
    refine Nat.le_trans ?_ h1
    rw [← Nat.pow_add, ← Nat.pow_add]
    exact Nat.pow_le_pow_right (by decide) (by decide))
  have q3 := hK.lower (by decide) (by
    rw [b52, Nat.mul_one]
    exact Nat.le_trans (Nat.pow_le_pow_right (by decide) (by decide)) d1)
  have q4 := hK2.lower pU (by
    rw [b52, ← Nat.pow_add]
    refine Nat.le_trans (Nat.pow_le_pow_right (by decide) (show 52 + 1074 ≤ 720 + 720 by decide)) ?_
    rw [Nat.pow_add]
    exact Nat.mul_le_mul k1 k1)
  have q5 := hN.upper pU (by
    rw [b52, ← Nat.pow_add]
    refine Nat.le_trans (Nat.pow_le_pow_right (by decide) (show 52 + 1074 ≤ 584 + 584 by decide)) ?_
    rw [Nat.pow_add]
    exact Nat.mul_le_mul hR hR)
  have R0 : 0 < R := Nat.lt_of_lt_of_le (Nat.two_pow_pos _) hR
  rw [Nat.mul_one] at q3
  rcases Nat.lt_or_ge N K2 with g | g
  · exact g
  exfalso
  -- K * 2^52 ≤ R * (2^52 + 1)
  have s1 : K * 4503599627370496 ≤ R * 4503599627370497 := by
    apply sq_le
    calc K * 4503599627370496 * (K * 4503599627370496) = K * K * 4503599627370496 * 4503599627370496 := by simp only [Nat.mul_assoc, Nat.mul_left_comm]
      _ ≤ K2 * 4503599627370497 * 2 ^ 1074 * 4503599627370496 := Nat.mul_le_mul_right _ q4
      _ ≤ N * 4503599627370497 * 2 ^ 1074 * 4503599627370496 := Nat.mul_le_mul_right _ (Nat.mul_le_mul_right _ (Nat.mul_le_mul_right _ g))
      _ = N * 4503599627370496 * 2 ^ 1074 * 4503599627370497 := by
        generalize 2 ^ 1074 = u
        simp only [Nat.mul_assoc, Nat.mul_comm, Nat.mul_left_comm]
      _ ≤ R * R * 4503599627370497 * 4503599627370497 := Nat.mul_le_mul_right _ q5
      _ = R * 4503599627370497 * (R * 4503599627370497) := by simp only [Nat.mul_assoc, Nat.mul_left_comm]
  rw [hU] at q1
  generalize 2 ^ 1022 = W at q1 pW
  have q1' : R * 4503599631874096 ≤ C1 * 4503599627370497 := by
    refine Nat.le_of_mul_le_mul_right ?_ (show 0 < W * 4503599627370496 by omega)
    calc R * 4503599631874096 * (W * 4503599627370496) = R * (4503599631874096 * W) * 4503599627370496 := by simp only [Nat.mul_assoc, Nat.mul_left_comm]
      _ ≤ C1 * 4503599627370497 * (4503599627370496 * W) := q1
      _ = C1 * 4503599627370497 * (W * 4503599627370496) := by rw [Nat.mul_comm W]
  clear q1 q4 q5 hC1 hK hK2 hN hC d1 k1
  omega
end Go.Proofs.Qxb6600854a.Fl
