import Ieee.Arith
/-! How two floats stand to each other, as the order of two whole numbers. Plain: no program, no walk. -/
namespace Go.Proofs.Qxb6600854a.Fl
open Ieee

def bigExp (f : Format) : Nat := f.fractionBits + 1 + 2 ^ f.exponentBits

/-- A number as a multiple of the least place; an infinity beyond every number; a NaN as none. -/
def fval (f : Format) : Datum → Option Int
  | .nan .. => none
  | .infinity s => some (if s then -(2 ^ bigExp f : Nat) else (2 ^ bigExp f : Nat))
  | .number s m i => some (signed s m (i - f.leastPlace).toNat)

def key (f : Format) (w : Nat) : Option Int := fval f (f.read w)

theorem signed_eq (s : Bool) (m k : Nat) : signed s m k = if s then -((m * 2 ^ k : Nat) : Int) else ((m * 2 ^ k : Nat) : Int) := by
  unfold signed; rw [Nat.shiftLeft_eq]

theorem signed_add (s : Bool) (m a b : Nat) : signed s m (a + b) = signed s m a * ((2 ^ b : Nat) : Int) := by
  rw [signed_eq, signed_eq, Nat.pow_add, ← Nat.mul_assoc]
  cases s
  · simp only [Bool.false_eq_true, if_false]; rw [Int.natCast_mul]
  · simp only [if_true]; rw [Int.natCast_mul, Int.neg_mul]

theorem read_number {f : Format} {w : Nat} {s : Bool} {m : Nat} {i : Int} (h : f.read w = .number s m i) : f.leastPlace ≤ i ∧ m * 2 ^ (i - f.leastPlace).toNat < 2 ^ bigExp f := by
  have pb : 0 < f.binade := Nat.two_pow_pos _
  unfold Format.read at h
  simp only at h
  split at h
  · rename_i hr
    injection h with h1 h2 h3
    subst h2; subst h3
    refine ⟨Int.le_refl _, ?_⟩
    rw [Int.sub_self, Int.toNat_zero, Nat.pow_zero, Nat.mul_one]
    refine Nat.lt_of_lt_of_le hr ?_
    unfold Format.binade bigExp
    exact Nat.pow_le_pow_right (by decide) (Nat.le_trans (Nat.le_succ _) (Nat.le_add_right _ _))
  · rename_i hr
    split at h
    · rename_i hr2
      injection h with h1 h2 h3
      subst h2; subst h3
      refine ⟨by omega, ?_⟩
      generalize hq : w % f.signWeight = r at *
      have e1 : (f.leastPlace + ((r / f.binade - 1 : Nat) : Int) - f.leastPlace).toNat = r / f.binade - 1 := by omega
      rw [e1]
      have l1 : r / f.binade < 2 ^ f.exponentBits - 1 := by
        unfold Format.infRung at hr2
        exact Nat.div_lt_of_lt_mul (by rw [Nat.mul_comm]; exact hr2)
      have l2 : r % f.binade < f.binade := Nat.mod_lt _ pb
      have l3 : f.binade + r % f.binade < 2 ^ (f.fractionBits + 1) := by
        rw [Nat.pow_succ]; unfold Format.binade at *; omega
      have l4 : 2 ^ (r / f.binade - 1) ≤ 2 ^ 2 ^ f.exponentBits := Nat.pow_le_pow_right (by decide) (Nat.le_trans (Nat.sub_le _ _) (Nat.le_of_lt (Nat.lt_of_lt_of_le l1 (Nat.sub_le _ _))))
      unfold bigExp
      rw [Nat.pow_add]
      exact Nat.mul_lt_mul_of_lt_of_le l3 l4 (Nat.two_pow_pos _)
    · split at h <;> cases h

theorem compare_int (a b : Int) : compare a b = if a < b then .lt else if a = b then .eq else .gt := rfl

theorem compare_scale (a b : Int) (c : Int) (h : 0 < c) : compare (a * c) (b * c) = compare a b := by
  rw [compare_int, compare_int]
  have h1 : a * c < b * c ↔ a < b := ⟨fun q => Int.lt_of_mul_lt_mul_right q (by omega), fun q => Int.mul_lt_mul_of_pos_right q h⟩
  have h2 : a * c = b * c ↔ a = b := ⟨fun q => Int.eq_of_mul_eq_mul_right (by omega) q, fun q => by rw [q]⟩
  simp only [h1, h2]

theorem order_eq (f : Format) (x y : Nat) : f.order x y = (key f x).bind fun a => (key f y).bind fun b => some (compare a b) := by
  unfold Format.order key
  have pos : (0 : Int) < ((2 ^ bigExp f : Nat) : Int) := by have := Nat.two_pow_pos (bigExp f); omega
  cases hx : f.read x with
  | nan s t => cases f.read y <;> simp [fval, Datum.order]
  | infinity s =>
    cases hy : f.read y with
    | nan t u => simp [fval, Datum.order]
    | infinity t =>
      simp only [fval, Datum.order, Option.bind_some, compare_int]
      generalize ((2 ^ bigExp f : Nat) : Int) = K at pos
      cases s <;> cases t <;> simp only [Bool.false_eq_true, if_false, if_true]
      · rw [if_neg (by omega)]; rfl
      · rw [if_neg (by omega), if_neg (by omega)]; rfl
      · rw [if_pos (by omega)]; rfl
      · rw [if_neg (by omega)]; rfl
    | number t n j =>
      obtain ⟨_, lt⟩ := read_number hy
      simp only [fval, Datum.order, Option.bind_some, signed_eq]
      generalize n * 2 ^ (j - f.leastPlace).toNat = N at lt
      generalize 2 ^ bigExp f = K at pos lt
      cases s <;> cases t <;> simp only [Bool.false_eq_true, if_false, if_true, compare_int]
      · rw [if_neg (by omega), if_neg (by omega)]
      · rw [if_neg (by omega), if_neg (by omega)]
      · rw [if_pos (by omega)]
      · rw [if_pos (by omega)]
  | number s m i =>
    cases hy : f.read y with
    | nan t u => simp [fval, Datum.order]
    | infinity t =>
      obtain ⟨_, lt⟩ := read_number hx
      simp only [fval, Datum.order, Option.bind_some, signed_eq]
      generalize m * 2 ^ (i - f.leastPlace).toNat = N at lt
      generalize 2 ^ bigExp f = K at pos lt
      cases s <;> cases t <;> simp only [Bool.false_eq_true, if_false, if_true, compare_int]
      · rw [if_pos (by omega)]
      · rw [if_neg (by omega), if_neg (by omega)]
      · rw [if_pos (by omega)]
      · rw [if_neg (by omega), if_neg (by omega)]
    | number t n j =>
      obtain ⟨l1, _⟩ := read_number hx
      obtain ⟨l2, _⟩ := read_number hy
      simp only [fval, Datum.order, Option.bind_some]
      congr 1
      have e1 : (i - f.leastPlace).toNat = (i - min i j).toNat + (min i j - f.leastPlace).toNat := by omega
      have e2 : (j - f.leastPlace).toNat = (j - min i j).toNat + (min i j - f.leastPlace).toNat := by omega
      rw [e1, e2, signed_add, signed_add, compare_scale]
      have := Nat.two_pow_pos (min i j - f.leastPlace).toNat
      omega

end Go.Proofs.Qxb6600854a.Fl
