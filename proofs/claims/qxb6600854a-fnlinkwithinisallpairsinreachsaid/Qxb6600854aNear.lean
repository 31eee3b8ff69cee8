import Derived.Test.Qxb6600854aFloat
/-! What rounding to nearest keeps: told by the numbers that the format has. Plain: no program, no walk. -/
namespace Go.Proofs.Qxb6600854a.Fl
open Ieee

theorem cut_ge (neg : Bool) (n drop a : Nat) (h : a * 2 ^ drop ≤ n) : a ≤ Toward.even.cut neg n drop := by
  unfold Toward.cut
  simp only
  have key : a ≤ n / 1 <<< min drop (n.log2 + 2) := by
    rw [Nat.one_shiftLeft]
    by_cases a0 : a = 0
    · subst a0; exact Nat.zero_le _
    · have hd : drop ≤ n.log2 + 2 := by
        rcases Nat.lt_or_ge (n.log2 + 2) drop with q | q
        · exfalso
          have h1 : n < 2 ^ (n.log2 + 1) := Nat.lt_log2_self
          have h2 : 2 ^ (n.log2 + 1) ≤ 2 ^ drop := Nat.pow_le_pow_right (by decide) (by omega)
          have h3 : 2 ^ drop ≤ a * 2 ^ drop := Nat.le_mul_of_pos_left _ (by omega)
          omega
        · exact q
      rw [Nat.min_eq_left hd]
      exact (Nat.le_div_iff_mul_le (Nat.two_pow_pos _)).2 h
  exact Nat.le_trans key (Nat.le_add_right _ _)

theorem cut_le (neg : Bool) (n drop a : Nat) (h : n ≤ a * 2 ^ drop) : Toward.even.cut neg n drop ≤ a := by
  unfold Toward.cut
  simp only
  rw [Nat.one_shiftLeft]
  by_cases hd : drop ≤ n.log2 + 2
  · rw [Nat.min_eq_left hd]
    have pg : 0 < 2 ^ drop := Nat.two_pow_pos _
    generalize 2 ^ drop = g at h pg
    have e := Nat.div_add_mod n g
    have l := Nat.mod_lt n pg
    generalize n % g = r at *
    generalize hq : n / g = q at *
    by_cases r0 : r = 0
    · subst r0
      have : q ≤ a := Nat.le_of_mul_le_mul_left (by rw [Nat.mul_comm a g] at h; omega) pg
      have hb : (decide (g < 2 * 0) || (g == 2 * 0 && q % 2 == 1)) = false := by simp; omega
      rw [hb]
      exact this
    · have hq1 : q + 1 ≤ a := by
        rcases Nat.lt_or_ge q a with q' | q'
        · exact q'
        · exfalso
          have : g * a ≤ g * q := Nat.mul_le_mul_left _ q'
          rw [Nat.mul_comm a g] at h
          omega
      have : ((decide (g < 2 * r) || (g == 2 * r && q % 2 == 1))).toNat ≤ 1 := Bool.toNat_le _
      omega
  · rw [Nat.min_eq_right (by omega)]
    have h1 : n < 2 ^ (n.log2 + 1) := Nat.lt_log2_self
    have h2 : 2 ^ (n.log2 + 2) = 2 * 2 ^ (n.log2 + 1) := by rw [Nat.pow_succ]; omega
    have e1 : n / 2 ^ (n.log2 + 2) = 0 := Nat.div_eq_of_lt (by omega)
    have e2 : n % 2 ^ (n.log2 + 2) = n := Nat.mod_eq_of_lt (by omega)
    rw [e1, e2]
    have hb : (decide (2 ^ (n.log2 + 2) < 2 * n) || (2 ^ (n.log2 + 2) == 2 * n && 0 % 2 == 1)) = false := by simp; omega
    rw [hb]
    simp

/-! ### The numbers of float64, in units of the least place: k * 2 ^ e -/
def Can (k e : Nat) : Prop := k ≤ 9007199254740992 ∧ (4503599627370496 ≤ k ∨ e = 0)
def rho (k e : Nat) : Nat := e * 4503599627370496 + k

theorem pow_cmp (x y : Nat) {p q p' q' : Nat} (h : p + q' = p' + q) : (x * 2 ^ p ≤ y * 2 ^ q ↔ x * 2 ^ p' ≤ y * 2 ^ q') := by
  have up : ∀ (x y p q d : Nat), (x * 2 ^ p ≤ y * 2 ^ q ↔ x * 2 ^ (p + d) ≤ y * 2 ^ (q + d)) := fun x y p q d => by
    rw [Nat.pow_add, Nat.pow_add, ← Nat.mul_assoc, ← Nat.mul_assoc]
    exact ⟨fun h => Nat.mul_le_mul_right _ h, fun h => Nat.le_of_mul_le_mul_right h (Nat.two_pow_pos _)⟩
  rcases Nat.le_total p p' with l | l
  · obtain ⟨d, rfl⟩ := Nat.exists_eq_add_of_le l
    obtain rfl : q' = q + d := by omega
    exact up x y p q d
  · obtain ⟨d, rfl⟩ := Nat.exists_eq_add_of_le l
    obtain rfl : q = q' + d := by omega
    exact (up x y p' q' d).symm

theorem pow_lt_iff {a b : Nat} (h : 2 ^ a < 2 ^ b) : a < b := (Nat.pow_lt_pow_iff_right (by decide)).1 h
theorem pow_le_iff {a b : Nat} (h : 2 ^ a ≤ 2 ^ b) : a ≤ b := (Nat.pow_le_pow_iff_right (by decide)).1 h

structure NearD (mag up dn k e : Nat) : Prop where
  can : Can k e
  ge : ∀ k' e' : Nat, Can k' e' → k' * 2 ^ (e' + dn) ≤ mag * 2 ^ up → rho k' e' ≤ rho k e
  le : ∀ k' e' : Nat, Can k' e' → mag * 2 ^ up ≤ k' * 2 ^ (e' + dn) → rho k e ≤ rho k' e'

/-- The number is k * 2 ^ e where k comes of the cut at place e. -/
theorem near_core {mag up dn k e : Nat} (hc : Can k e)
    (lo : 0 < e → 4503599627370496 * 2 ^ (e + dn) ≤ mag * 2 ^ up) (hi : mag * 2 ^ up < 9007199254740992 * 2 ^ (e + dn))
    (cg : ∀ a : Nat, a * 2 ^ (e + dn) ≤ mag * 2 ^ up → a ≤ k) (cl : ∀ a : Nat, mag * 2 ^ up ≤ a * 2 ^ (e + dn) → k ≤ a) : NearD mag up dn k e := by
  obtain ⟨c1, c2⟩ := hc
  have c1' := c1
  refine ⟨⟨c1, c2⟩, fun k' e' h' h => ?_, fun k' e' h' h => ?_⟩
  · obtain ⟨d1, d2⟩ := h'
    unfold rho
    rcases Nat.lt_trichotomy e' e with l | l | l
    · omega
    · subst l; have := cg k' h; omega
    · exfalso
      have k2 : 4503599627370496 ≤ k' := by omega
      have s1 : 2 ^ (e' + dn) = 2 ^ (e + dn) * 2 ^ (e' - e) := by rw [← Nat.pow_add]; congr 1; omega
      have s2 : 2 ≤ 2 ^ (e' - e) := by
        have : 2 ^ 1 ≤ 2 ^ (e' - e) := Nat.pow_le_pow_right (by decide) (by omega)
        omega
      have s3 : 4503599627370496 * (2 ^ (e + dn) * 2) ≤ k' * 2 ^ (e' + dn) := by
        rw [s1]; exact Nat.mul_le_mul k2 (Nat.mul_le_mul_left _ s2)
      omega
  · obtain ⟨d1, d2⟩ := h'
    unfold rho
    rcases Nat.lt_trichotomy e' e with l | l | l
    · have l0 := lo (by omega)
      have s1 : 2 ^ (e + dn) = 2 ^ (e' + dn) * 2 ^ (e - e') := by rw [← Nat.pow_add]; congr 1; omega
      have t1 : 4503599627370496 * 2 ^ (e + dn) ≤ k' * 2 ^ (e' + dn) := Nat.le_trans l0 h
      rw [s1, ← Nat.mul_assoc, Nat.mul_comm 4503599627370496, Nat.mul_assoc, Nat.mul_comm k'] at t1
      have t2 : 4503599627370496 * 2 ^ (e - e') ≤ k' := Nat.le_of_mul_le_mul_left t1 (Nat.two_pow_pos _)
      have t3 : e - e' ≤ 1 := by
        rcases Nat.lt_or_ge 1 (e - e') with q | q
        · exfalso
          have : 2 ^ 2 ≤ 2 ^ (e - e') := Nat.pow_le_pow_right (by decide) q
          omega
        · exact q
      have t4 : e = e' + 1 := by omega
      subst t4
      rw [show e' + 1 - e' = 1 by omega] at t2
      have t5 : k' = 9007199254740992 := by omega
      have := cl 4503599627370496 (by
        refine Nat.le_trans h ?_
        rw [t5, show e' + 1 + dn = (e' + dn) + 1 by omega, Nat.pow_succ]; omega)
      omega
    · subst l; have := cl k' h; omega
    · omega

theorem log2_bounds {m : Nat} (h : m ≠ 0) : 2 ^ m.log2 ≤ m ∧ m < 2 ^ (m.log2 + 1) := ⟨Nat.log2_self_le h, Nat.lt_log2_self⟩

/-- 'nearest' of a number that is not 0. -/
theorem nearest_spec (neg : Bool) (mag : Nat) (place : Int) (hm : mag ≠ 0) :
    ∃ k e : Nat, Ieee.double.nearest neg mag place = Ieee.double.word neg (min (rho k e) Ieee.double.infRung) ∧ NearD mag (place + 1074).toNat (-1074 - place).toNat k e := by
  obtain ⟨b1, b2⟩ := log2_bounds hm
  have lp : Ieee.double.leastPlace = -1074 := by decide
  have fb : Ieee.double.fractionBits = 52 := rfl
  have bn : Ieee.double.binade = 4503599627370496 := by decide
  unfold Format.nearest
  rw [if_neg hm]
  simp only [lp, fb, bn]
  generalize hl : mag.log2 = L at b1 b2
  obtain ⟨last, hlast⟩ : ∃ last : Int, max (place + (L : Int) - ((52 : Nat) : Int)) (-1074) = last := ⟨_, rfl⟩
  rw [hlast]
  have l1 : place + (L : Int) - 52 ≤ last := by omega
  have l2 : -1074 ≤ last := by omega
  have l3 : last = -1074 ∨ last = place + (L : Int) - 52 := by omega
  obtain ⟨e, he⟩ : ∃ e : Nat, (last - -1074).toNat = e := ⟨_, rfl⟩
  rw [he]
  refine ⟨_, e, rfl, ?_⟩
  have ee : (e : Int) = last + 1074 := by omega
  have key : ∀ a : Nat, (a * 2 ^ (e + (-1074 - place).toNat) ≤ mag * 2 ^ (place + 1074).toNat ↔ a * 2 ^ (last - place).toNat ≤ mag * 2 ^ (place - last).toNat) := fun a => pow_cmp _ _ (by omega)
  have key2 : ∀ a : Nat, (mag * 2 ^ (place + 1074).toNat ≤ a * 2 ^ (e + (-1074 - place).toNat) ↔ mag * 2 ^ (place - last).toNat ≤ a * 2 ^ (last - place).toNat) := fun a => pow_cmp _ _ (by omega)
  have cg : ∀ a : Nat, a * 2 ^ (e + (-1074 - place).toNat) ≤ mag * 2 ^ (place + 1074).toNat → a ≤ Toward.even.cut neg (mag <<< (place - last).toNat) (last - place).toNat := fun a h => cut_ge _ _ _ _ (by rw [Nat.shiftLeft_eq]; exact (key a).1 h)
  have cl : ∀ a : Nat, mag * 2 ^ (place + 1074).toNat ≤ a * 2 ^ (e + (-1074 - place).toNat) → Toward.even.cut neg (mag <<< (place - last).toNat) (last - place).toNat ≤ a := fun a h => cut_le _ _ _ _ (by rw [Nat.shiftLeft_eq]; exact (key2 a).1 h)
  have hi : mag * 2 ^ (place + 1074).toNat < 9007199254740992 * 2 ^ (e + (-1074 - place).toNat) := by
    have h1 : mag * 2 ^ (place + 1074).toNat < 2 ^ (L + 1) * 2 ^ (place + 1074).toNat := Nat.mul_lt_mul_of_pos_right b2 (Nat.two_pow_pos _)
    have h2 : 2 ^ (L + 1) * 2 ^ (place + 1074).toNat ≤ 2 ^ 53 * 2 ^ (e + (-1074 - place).toNat) := by
      rw [← Nat.pow_add, ← Nat.pow_add]
      exact Nat.pow_le_pow_right (by decide) (by omega)
    have h3 : (2 : Nat) ^ 53 = 9007199254740992 := by decide
    omega
  have lo : 0 < e → 4503599627370496 * 2 ^ (e + (-1074 - place).toNat) ≤ mag * 2 ^ (place + 1074).toNat := fun e0 => by
    have h1 : 2 ^ L * 2 ^ (place + 1074).toNat ≤ mag * 2 ^ (place + 1074).toNat := Nat.mul_le_mul_right _ b1
    have h2 : 2 ^ 52 * 2 ^ (e + (-1074 - place).toNat) ≤ 2 ^ L * 2 ^ (place + 1074).toNat := by
      rw [← Nat.pow_add, ← Nat.pow_add]
      exact Nat.pow_le_pow_right (by decide) (by omega)
    have h3 : (2 : Nat) ^ 52 = 4503599627370496 := by decide
    omega
  generalize Toward.even.cut neg (mag <<< (place - last).toNat) (last - place).toNat = k at cg cl
  refine near_core ⟨cl _ (Nat.le_of_lt hi), ?_⟩ lo hi cg cl
  rcases Nat.eq_zero_or_pos e with q | q
  · exact .inr q
  · exact .inl (cg _ (lo q))
end Go.Proofs.Qxb6600854a.Fl
