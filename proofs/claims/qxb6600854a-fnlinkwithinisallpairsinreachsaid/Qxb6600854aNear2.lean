import Derived.Test.Qxb6600854aNear
/-! Rounding to nearest, told in whole numbers of the least place. Plain: no program, no walk. -/
namespace Go.Proofs.Qxb6600854a.Fl
open Ieee

/-- A number that float64 has (in units of the least place; how great it is is not asked). -/
def Rep (t : Nat) : Prop := ∃ k e : Nat, Can k e ∧ t = k * 2 ^ e

theorem rep_of : ∀ (e k : Nat), k ≤ 9007199254740992 → Rep (k * 2 ^ e)
  | 0, k, h => ⟨k, 0, ⟨h, .inr rfl⟩, rfl⟩
  | e + 1, k, h => by
    by_cases q : 4503599627370496 ≤ k
    · exact ⟨k, e + 1, ⟨h, .inl q⟩, rfl⟩
    · have := rep_of e (2 * k) (by omega)
      rw [show k * 2 ^ (e + 1) = 2 * k * 2 ^ e by rw [Nat.pow_succ]; rw [Nat.mul_comm (2 ^ e) 2, ← Nat.mul_assoc, Nat.mul_comm k 2]]
      exact this
theorem rep_zero : Rep 0 := ⟨0, 0, ⟨by omega, .inr rfl⟩, rfl⟩
theorem rep_pow (e : Nat) : Rep (2 ^ e) := by have := rep_of e 1 (by omega); rwa [Nat.one_mul] at this

theorem rho_le {k e k' e' : Nat} (h : Can k e) (h' : Can k' e') (hr : rho k' e' ≤ rho k e) : k' * 2 ^ e' ≤ k * 2 ^ e := by
  obtain ⟨c1, c2⟩ := h
  obtain ⟨d1, d2⟩ := h'
  unfold rho at hr
  rcases Nat.lt_trichotomy e' e with l | l | l
  · have s1 : 2 ^ e = 2 ^ (e' + 1) * 2 ^ (e - e' - 1) := by rw [← Nat.pow_add]; congr 1; omega
    have s2 : 2 ^ (e' + 1) ≤ 2 ^ e := Nat.pow_le_pow_right (by decide) (by omega)
    have s3 : 4503599627370496 * 2 ^ (e' + 1) ≤ k * 2 ^ e := Nat.mul_le_mul (by omega) s2
    have s4 : k' * 2 ^ e' ≤ 9007199254740992 * 2 ^ e' := Nat.mul_le_mul_right _ d1
    rw [Nat.pow_succ] at s3
    omega
  · subst l; exact Nat.mul_le_mul_right _ (by omega)
  · obtain rfl : e' = e + 1 := by omega
    obtain rfl : k' = 4503599627370496 := by omega
    obtain rfl : k = 9007199254740992 := by omega
    rw [Nat.pow_succ]; omega

/-- K is the number of float64 that is nearest to num / den (both from below and from above no number of float64 lies between). -/
structure Nr (num den K : Nat) : Prop where
  rep : Rep K
  ge : ∀ t : Nat, Rep t → t * den ≤ num → t ≤ K
  le : ∀ t : Nat, Rep t → num ≤ t * den → K ≤ t

theorem Nr.of_near {mag up dn k e : Nat} (h : NearD mag up dn k e) : Nr (mag * 2 ^ up) (2 ^ dn) (k * 2 ^ e) := by
  refine ⟨⟨k, e, h.can, rfl⟩, fun t ht hle => ?_, fun t ht hle => ?_⟩
  · obtain ⟨k', e', c', rfl⟩ := ht
    exact rho_le h.can c' (h.ge k' e' c' (by rw [Nat.pow_add, ← Nat.mul_assoc]; exact hle))
  · obtain ⟨k', e', c', rfl⟩ := ht
    exact rho_le c' h.can (h.le k' e' c' (by rw [Nat.pow_add, ← Nat.mul_assoc]; exact hle))
theorem Nr.pow {m p q p' q' K : Nat} (h : Nr (m * 2 ^ p) (2 ^ q) K) (he : p + q' = p' + q) : Nr (m * 2 ^ p') (2 ^ q') K :=
  ⟨h.rep, fun t ht hle => h.ge t ht ((pow_cmp t m (by omega)).1 hle), fun t ht hle => h.le t ht ((pow_cmp m t (by omega)).1 hle)⟩

def neg1 (s : Bool) (a : Nat) : Int := if s then -(a : Int) else (a : Int)

/-- A finite word and its number. -/
def Fin (x : Nat) (s : Bool) (a : Nat) : Prop := ∃ m i, Ieee.double.read x = .number s m i ∧ -1074 ≤ i ∧ a = m * 2 ^ (i + 1074).toNat

theorem Fin.key {x : Nat} {s : Bool} {a : Nat} (h : Fin x s a) : key Ieee.double x = some (neg1 s a) := by
  obtain ⟨m, i, hr, hi, ha⟩ := h
  unfold Fl.key
  rw [hr]
  simp only [fval, signed_eq]
  rw [show Ieee.double.leastPlace = -1074 by decide, show i - -1074 = i + 1074 by omega, ← ha]
  rfl

theorem fin_rho (s : Bool) {k e : Nat} (hc : Can k e) (hr : rho k e < 9218868437227405312) : Fin (Ieee.double.word s (rho k e)) s (k * 2 ^ e) := by
  have lp : Ieee.double.leastPlace = -1074 := by decide
  have bn : Ieee.double.binade = 4503599627370496 := by decide
  have sw : Ieee.double.signWeight = 9223372036854775808 := by decide
  have ir : Ieee.double.infRung = 9218868437227405312 := by decide
  obtain ⟨c1, c2⟩ := hc
  have hw : Ieee.double.word s (rho k e) / 9223372036854775808 % 2 = s.toNat ∧ Ieee.double.word s (rho k e) % 9223372036854775808 = rho k e := by
    unfold Format.word
    rw [sw]
    generalize rho k e = r at hr
    cases s
    · simp only [Bool.false_eq_true, if_false, Bool.toNat_false]; omega
    · simp only [if_true, Bool.toNat_true]; omega
  unfold Fin Format.read
  simp only [lp, bn, sw, ir, hw.1, hw.2]
  have hs : (s.toNat == 1) = s := by cases s <;> rfl
  rw [hs]
  by_cases h1 : rho k e < 4503599627370496
  · rw [if_pos h1]
    refine ⟨_, _, rfl, Int.le_refl _, ?_⟩
    have e0 : e = 0 := by unfold rho at h1; omega
    subst e0
    simp [rho]
  · rw [if_neg h1, if_pos hr]
    refine ⟨_, _, rfl, by omega, ?_⟩
    unfold rho at h1 ⊢
    by_cases k2 : k = 9007199254740992
    · subst k2
      have e1 : (e * 4503599627370496 + 9007199254740992) / 4503599627370496 = e + 2 := by omega
      have e2 : (e * 4503599627370496 + 9007199254740992) % 4503599627370496 = 0 := by omega
      rw [e1, e2, show (-1074 + ((e + 2 - 1 : Nat) : Int) + 1074).toNat = e + 1 by omega, Nat.pow_succ]
      omega
    · by_cases kb : 4503599627370496 ≤ k
      · have e1 : (e * 4503599627370496 + k) / 4503599627370496 = e + 1 := by omega
        have e2 : (e * 4503599627370496 + k) % 4503599627370496 = k - 4503599627370496 := by omega
        rw [e1, e2, show (-1074 + ((e + 1 - 1 : Nat) : Int) + 1074).toNat = e by omega, show 4503599627370496 + (k - 4503599627370496) = k by omega]
      · exfalso; omega

theorem fin_rep {x : Nat} {s : Bool} {a : Nat} (h : Fin x s a) : Rep a := by
  obtain ⟨m, i, hr, hi, ha⟩ := h
  have hm : m ≤ 9007199254740992 := by
    have bn : Ieee.double.binade = 4503599627370496 := by decide
    unfold Format.read at hr
    simp only [bn] at hr
    split at hr
    · injection hr with _ h2 _; omega
    · split at hr
      · injection hr with _ h2 _; omega
      · split at hr <;> cases hr
  rw [ha]
  exact rep_of _ _ hm

set_option exponentiation.threshold 5000 in
/-- 'nearest', no overflow. -/
theorem nearest_fin (s : Bool) (mag : Nat) (place : Int) (h : mag * 2 ^ (place + 1074).toNat ≤ 2 ^ 2000 * 2 ^ (-1074 - place).toNat) :
    ∃ K : Nat, Fin (Ieee.double.nearest s mag place) s K ∧ Nr (mag * 2 ^ (place + 1074).toNat) (2 ^ (-1074 - place).toNat) K := by
  have ir : Ieee.double.infRung = 9218868437227405312 := by decide
  by_cases hm : mag = 0
  · subst hm
    refine ⟨0, ?_, rep_zero, fun t ht hle => ?_, fun t _ _ => Nat.zero_le _⟩
    · unfold Format.nearest
      rw [if_pos rfl]
      have := fin_rho s (k := 0) (e := 0) ⟨by omega, .inr rfl⟩ (by decide)
      simpa [rho] using this
    · rw [Nat.zero_mul] at hle
      have hp : 0 < 2 ^ (-1074 - place).toNat := Nat.two_pow_pos _
      rcases Nat.eq_zero_or_pos t with q | q
      · omega
      · have := Nat.mul_pos q hp; omega
  · obtain ⟨k, e, he, hn⟩ := nearest_spec s mag place hm
    have hr : rho k e ≤ rho 4503599627370496 1948 := hn.le _ _ ⟨by omega, .inl (by omega)⟩ (by
      refine Nat.le_trans h ?_
      rw [Nat.pow_add, ← Nat.mul_assoc]
      refine Nat.mul_le_mul_right _ ?_
      rw [show (4503599627370496 : Nat) = 2 ^ 52 by decide, ← Nat.pow_add]
      exact Nat.le_refl _)
    have hr2 : rho k e < 9218868437227405312 := by unfold rho at hr ⊢; omega
    refine ⟨k * 2 ^ e, ?_, Nr.of_near hn⟩
    rw [he, ir, Nat.min_eq_left (by omega)]
    exact fin_rho s hn.can hr2
end Go.Proofs.Qxb6600854a.Fl
