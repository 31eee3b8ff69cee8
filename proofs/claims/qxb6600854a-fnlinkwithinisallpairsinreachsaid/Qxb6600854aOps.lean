import Derived.Test.Qxb6600854aNear2
/-! The operations of float64 on finite words. Plain: no program, no walk. -/
namespace Go.Proofs.Qxb6600854a.Fl
open Ieee
set_option exponentiation.threshold 5000
set_option linter.unusedSimpArgs false

theorem mul_fin {x y : Nat} {s t : Bool} {a b : Nat} (hx : Fin x s a) (hy : Fin y t b) (hb : a * b ≤ 2 ^ 2000 * 2 ^ 1074) :
    ∃ r K : Nat, Ieee.double.mul x y = some r ∧ Fin r (s ^^ t) K ∧ Nr (a * b) (2 ^ 1074) K := by
  obtain ⟨m, i, rx, hi, rfl⟩ := hx
  obtain ⟨n, j, ry, hj, rfl⟩ := hy
  have e1 : m * 2 ^ (i + 1074).toNat * (n * 2 ^ (j + 1074).toNat) = m * n * 2 ^ ((i + 1074).toNat + (j + 1074).toNat) := by
    rw [Nat.pow_add]; simp only [Nat.mul_assoc, Nat.mul_left_comm]
  rw [e1] at hb ⊢
  obtain ⟨K, h1, h2⟩ := nearest_fin (s ^^ t) (m * n) (i + j) ((pow_cmp _ _ (by omega)).1 hb)
  refine ⟨_, K, ?_, h1, h2.pow (by omega)⟩
  unfold Format.mul
  rw [rx, ry]
  rfl

theorem neg1_signed (s : Bool) (m k : Nat) : neg1 s (m * 2 ^ k) = signed s m k := (signed_eq s m k).symm

theorem sum_spec (s : Bool) (m : Nat) (i : Int) (t : Bool) (n : Nat) (j : Int) (hi : -1074 ≤ i) (hj : -1074 ≤ j) :
    ∃ sg tot base, Datum.sum (.number s m i) (.number t n j) = some (.number sg tot base) ∧ -1074 ≤ base ∧ tot * 2 ^ (base + 1074).toNat = (neg1 s (m * 2 ^ (i + 1074).toNat) + neg1 t (n * 2 ^ (j + 1074).toNat)).natAbs ∧ (s = false → t = false → sg = false) := by
  refine ⟨_, _, _, rfl, by omega, ?_, ?_⟩
  · have e1 : (i + 1074).toNat = (i - min i j).toNat + (min i j + 1074).toNat := by omega
    have e2 : (j + 1074).toNat = (j - min i j).toNat + (min i j + 1074).toNat := by omega
    rw [neg1_signed, neg1_signed, e1, e2, signed_add, signed_add, ← Int.add_mul, Int.natAbs_mul, Int.natAbs_natCast]
  · intro h1 h2
    subst h1 h2
    simp only [signed_eq, Bool.false_eq_true, if_false, Bool.and_self]
    split
    · rfl
    · simp only [decide_eq_false_iff_not]; omega

theorem add_fin {x y : Nat} {a b : Nat} (hx : Fin x false a) (hy : Fin y false b) (hb : a + b ≤ 2 ^ 2000) :
    ∃ r K : Nat, Ieee.double.add x y = some r ∧ Fin r false K ∧ Nr (a + b) 1 K := by
  obtain ⟨m, i, rx, hi, rfl⟩ := hx
  obtain ⟨n, j, ry, hj, rfl⟩ := hy
  obtain ⟨sg, tot, base, hs, hbase, ht, hsg⟩ := sum_spec false m i false n j hi hj
  obtain rfl := hsg rfl rfl
  have ht' : tot * 2 ^ (base + 1074).toNat = m * 2 ^ (i + 1074).toNat + n * 2 ^ (j + 1074).toNat := by
    rw [ht]; simp only [neg1, Bool.false_eq_true, if_false]; omega
  have dn : (-1074 - base).toNat = 0 := by omega
  obtain ⟨K, h1, h2⟩ := nearest_fin false tot base (by rw [ht', dn, Nat.pow_zero, Nat.mul_one]; exact hb)
  rw [ht', dn, Nat.pow_zero] at h2
  refine ⟨_, K, ?_, h1, h2⟩
  unfold Format.add
  rw [rx, ry, hs]
  rfl

theorem sub_fin {x y : Nat} {s t : Bool} {a b : Nat} (hx : Fin x s a) (hy : Fin y t b) (hb : (neg1 s a - neg1 t b).natAbs ≤ 2 ^ 2000) :
    ∃ r K sg, Ieee.double.sub x y = some r ∧ Fin r sg K ∧ Nr (neg1 s a - neg1 t b).natAbs 1 K := by
  obtain ⟨m, i, rx, hi, rfl⟩ := hx
  obtain ⟨n, j, ry, hj, rfl⟩ := hy
  obtain ⟨sg, tot, base, hs, hbase, ht, _⟩ := sum_spec s m i (!t) n j hi hj
  have e : neg1 (!t) (n * 2 ^ (j + 1074).toNat) = - neg1 t (n * 2 ^ (j + 1074).toNat) := by cases t <;> simp [neg1]
  rw [e, ← Int.sub_eq_add_neg] at ht
  have dn : (-1074 - base).toNat = 0 := by omega
  obtain ⟨K, h1, h2⟩ := nearest_fin sg tot base (by rw [ht, dn, Nat.pow_zero, Nat.mul_one]; exact hb)
  rw [ht, dn, Nat.pow_zero] at h2
  refine ⟨_, K, sg, ?_, h1, h2⟩
  unfold Format.sub
  rw [rx, ry]
  simp only [Datum.opposite]
  rw [hs]
  rfl

theorem st_cases (n q r T st : Nat) (hn : 0 < n) (hr : r < n) (hst : (r = 0 ∧ st = 0) ∨ (0 < r ∧ st = 1)) : (2 * T ≤ 2 * q + st ↔ T * n ≤ n * q + r) ∧ (2 * q + st ≤ 2 * T ↔ n * q + r ≤ T * n) := by
  rw [Nat.mul_comm T n]
  rcases Nat.lt_trichotomy T q with l | l | l
  · have h := Nat.mul_le_mul_left n (show T + 1 ≤ q from l)
    rw [Nat.mul_add, Nat.mul_one] at h
    constructor
    · constructor <;> intro <;> omega
    · constructor <;> intro <;> omega
  · subst l
    constructor
    · constructor <;> intro <;> omega
    · constructor <;> intro <;> omega
  · have h := Nat.mul_le_mul_left n (show q + 1 ≤ T from l)
    rw [Nat.mul_add, Nat.mul_one] at h
    constructor
    · constructor <;> intro <;> omega
    · constructor <;> intro <;> omega

theorem st_small (n q r k g st : Nat) (hn : 0 < n) (hk : k ≤ 9007199254740992) (hq : (q = 0 ∧ r = 0 ∧ st = 0) ∨ 9007199254740992 ≤ q) : (k ≤ (2 * q + st) * 2 ^ g ↔ k * n ≤ (n * q + r) * 2 ^ (g + 1)) ∧ ((2 * q + st) * 2 ^ g ≤ k ↔ (n * q + r) * 2 ^ (g + 1) ≤ k * n) := by
  have p := Nat.two_pow_pos g
  rcases hq with ⟨rfl, rfl, rfl⟩ | hq
  · simp only [Nat.mul_zero, Nat.add_zero, Nat.zero_mul]
    refine ⟨⟨fun h => ?_, fun h => ?_⟩, ⟨fun _ => Nat.zero_le _, fun _ => Nat.zero_le _⟩⟩
    · have : k = 0 := by omega
      subst this; simp
    · rcases Nat.eq_zero_or_pos k with q | q
      · omega
      · have := Nat.mul_pos q hn; omega
  · have h1 : (2 * q + st) * 1 ≤ (2 * q + st) * 2 ^ g := Nat.mul_le_mul_left _ p
    have h2 : (n * q + r) * 2 ≤ (n * q + r) * 2 ^ (g + 1) := by
      rw [Nat.pow_succ]; exact Nat.mul_le_mul_left _ (by omega)
    have h3 : n * 9007199254740992 ≤ n * q := Nat.mul_le_mul_left _ hq
    have h4 : k * n ≤ 9007199254740992 * n := Nat.mul_le_mul_right _ hk
    constructor
    · constructor <;> intro <;> omega
    · constructor <;> intro <;> omega

/-- A rounded quotient with a digit for what is left over is the rounded true quotient. -/
theorem Nr.quot {num den num' den' K : Nat} (h : Nr num den K) (he : ∀ k e : Nat, k ≤ 9007199254740992 → ((k * 2 ^ e * den ≤ num ↔ k * 2 ^ e * den' ≤ num') ∧ (num ≤ k * 2 ^ e * den ↔ num' ≤ k * 2 ^ e * den'))) : Nr num' den' K := by
  refine ⟨h.rep, fun t ht hle => ?_, fun t ht hle => ?_⟩
  · obtain ⟨k, e, c, rfl⟩ := ht
    exact h.ge _ ⟨k, e, c, rfl⟩ ((he k e c.1).1.2 hle)
  · obtain ⟨k, e, c, rfl⟩ := ht
    exact h.le _ ⟨k, e, c, rfl⟩ ((he k e c.1).2.2 hle)

theorem div_fin {x y : Nat} {s : Bool} {a b : Nat} (hx : Fin x s a) (hy : Fin y false b) (hb0 : 0 < b) (hb : a * 2 ^ 1074 ≤ 2 ^ 2000 * b) :
    ∃ r K : Nat, Ieee.double.div x y = some r ∧ Fin r s K ∧ Nr (a * 2 ^ 1074) b K := by
  obtain ⟨m, i, rx, hi, rfl⟩ := hx
  obtain ⟨n, j, ry, hj, rfl⟩ := hy
  have hn : 0 < n := by
    rcases Nat.eq_zero_or_pos n with q | q
    · subst q; simp at hb0
    · exact q
  obtain ⟨more, hmore⟩ : ∃ more, 52 + 2 + n.log2 - m.log2 = more := ⟨_, rfl⟩
  obtain ⟨q, hq⟩ : ∃ q, m <<< more / n = q := ⟨_, rfl⟩
  obtain ⟨r, hr⟩ : ∃ r, m <<< more % n = r := ⟨_, rfl⟩
  have hdm : n * q + r = m * 2 ^ more := by rw [← hq, ← hr, Nat.div_add_mod, Nat.shiftLeft_eq]
  have hrn : r < n := by rw [← hr]; exact Nat.mod_lt _ hn
  obtain ⟨st, hst⟩ : ∃ st, (r != 0).toNat = st := ⟨_, rfl⟩
  have hst2 : (r = 0 ∧ st = 0) ∨ (0 < r ∧ st = 1) := by
    rcases Nat.eq_zero_or_pos r with e | e
    · left; subst e; exact ⟨rfl, by rw [← hst]; rfl⟩
    · right; refine ⟨e, ?_⟩
      rw [← hst]
      have : (r != 0) = true := by simp; omega
      rw [this]; rfl
  have hbig : (q = 0 ∧ r = 0 ∧ st = 0) ∨ 9007199254740992 ≤ q := by
    rcases Nat.eq_zero_or_pos m with e | e
    · left
      subst e
      rw [Nat.zero_mul] at hdm
      have r0 : r = 0 := by omega
      have : n * q = 0 := by omega
      rcases Nat.mul_eq_zero.1 this with z | z
      · omega
      · exact ⟨z, r0, by omega⟩
    · right
      obtain ⟨m1, _⟩ := log2_bounds (show m ≠ 0 by omega)
      obtain ⟨_, n2⟩ := log2_bounds (show n ≠ 0 by omega)
      have h1 : 2 ^ (53 + (n.log2 + 1)) ≤ m * 2 ^ more := by
        refine Nat.le_trans ?_ (Nat.mul_le_mul_right _ m1)
        rw [← Nat.pow_add]
        exact Nat.pow_le_pow_right (by decide) (by omega)
      rw [Nat.pow_add] at h1
      rw [← hq, Nat.shiftLeft_eq]
      refine (Nat.le_div_iff_mul_le hn).2 (Nat.le_trans ?_ h1)
      exact Nat.mul_le_mul (by decide) (Nat.le_of_lt n2)
  have core : ∀ k e : Nat, k ≤ 9007199254740992 → ((k * 2 ^ e * 2 ^ (-1074 - (i - j - more - 1)).toNat ≤ (2 * q + st) * 2 ^ (i - j - more - 1 + 1074).toNat ↔ k * 2 ^ e * (n * 2 ^ (j + 1074).toNat) ≤ m * 2 ^ (i + 1074).toNat * 2 ^ 1074)
      ∧ ((2 * q + st) * 2 ^ (i - j - more - 1 + 1074).toNat ≤ k * 2 ^ e * 2 ^ (-1074 - (i - j - more - 1)).toNat ↔ m * 2 ^ (i + 1074).toNat * 2 ^ 1074 ≤ k * 2 ^ e * (n * 2 ^ (j + 1074).toNat))) := fun k e hk => by
    have e1 : k * 2 ^ e * 2 ^ (-1074 - (i - j - more - 1)).toNat = k * 2 ^ (e + (-1074 - (i - j - more - 1)).toNat) := by rw [Nat.pow_add, Nat.mul_assoc]
    have e2 : k * 2 ^ e * (n * 2 ^ (j + 1074).toNat) = k * n * 2 ^ (e + (j + 1074).toNat) := by
      rw [Nat.pow_add]; simp only [Nat.mul_assoc, Nat.mul_left_comm]
    have e3 : m * 2 ^ (i + 1074).toNat * 2 ^ 1074 = m * 2 ^ ((i + 1074).toNat + 1074) := by rw [Nat.pow_add, Nat.mul_assoc]
    rw [e1, e2, e3]
    rcases Int.le_total 0 ((e : Int) - 1074 - (i - j - more)) with dl | dl
    · obtain ⟨d, hd⟩ : ∃ d : Nat, (e : Int) - 1074 - (i - j - more) = d := ⟨((e : Int) - 1074 - (i - j - more)).toNat, by omega⟩
      obtain ⟨s1, s2⟩ := st_cases n q r (k * 2 ^ d) st hn hrn hst2
      have f1 : 2 * (k * 2 ^ d) = k * 2 ^ (d + 1) := by rw [Nat.pow_succ]; simp only [Nat.mul_assoc, Nat.mul_comm, Nat.mul_left_comm]
      have f2 : k * 2 ^ d * n = k * n * 2 ^ d := by simp only [Nat.mul_assoc, Nat.mul_comm]
      rw [hdm, f1, f2] at s1 s2
      have g1 := pow_cmp k (2 * q + st) (p := e + (-1074 - (i - j - more - 1)).toNat) (q := (i - j - more - 1 + 1074).toNat) (p' := d + 1) (q' := 0) (by omega)
      have g2 := pow_cmp (2 * q + st) k (q := e + (-1074 - (i - j - more - 1)).toNat) (p := (i - j - more - 1 + 1074).toNat) (q' := d + 1) (p' := 0) (by omega)
      have g3 := pow_cmp (k * n) m (p := e + (j + 1074).toNat) (q := (i + 1074).toNat + 1074) (p' := d) (q' := more) (by omega)
      have g4 := pow_cmp m (k * n) (q := e + (j + 1074).toNat) (p := (i + 1074).toNat + 1074) (q' := d) (p' := more) (by omega)
      rw [Nat.pow_zero, Nat.mul_one] at g1 g2
      exact ⟨g1.trans (s1.trans g3.symm), g2.trans (s2.trans g4.symm)⟩
    · by_cases d0 : (e : Int) - 1074 - (i - j - more) = 0
      · obtain ⟨s1, s2⟩ := st_cases n q r k st hn hrn hst2
        rw [hdm] at s1 s2
        have g1 := pow_cmp k (2 * q + st) (p := e + (-1074 - (i - j - more - 1)).toNat) (q := (i - j - more - 1 + 1074).toNat) (p' := 1) (q' := 0) (by omega)
        have g2 := pow_cmp (2 * q + st) k (q := e + (-1074 - (i - j - more - 1)).toNat) (p := (i - j - more - 1 + 1074).toNat) (q' := 1) (p' := 0) (by omega)
        have g3 := pow_cmp (k * n) m (p := e + (j + 1074).toNat) (q := (i + 1074).toNat + 1074) (p' := 0) (q' := more) (by omega)
        have g4 := pow_cmp m (k * n) (q := e + (j + 1074).toNat) (p := (i + 1074).toNat + 1074) (q' := 0) (p' := more) (by omega)
        rw [Nat.pow_zero, Nat.mul_one, Nat.pow_one, Nat.mul_comm k 2] at g1 g2
        rw [Nat.pow_zero, Nat.mul_one] at g3 g4
        exact ⟨g1.trans (s1.trans g3.symm), g2.trans (s2.trans g4.symm)⟩
      · obtain ⟨g, hg⟩ : ∃ g : Nat, (e : Int) - 1074 - (i - j - more) = -(g : Int) - 1 := ⟨(-((e : Int) - 1074 - (i - j - more)) - 1).toNat, by omega⟩
        obtain ⟨s1, s2⟩ := st_small n q r k g st hn hk hbig
        rw [hdm] at s1 s2
        have f3 : m * 2 ^ more * 2 ^ (g + 1) = m * 2 ^ (more + (g + 1)) := by rw [Nat.mul_assoc, ← Nat.pow_add]
        rw [f3] at s1 s2
        have g1 := pow_cmp k (2 * q + st) (p := e + (-1074 - (i - j - more - 1)).toNat) (q := (i - j - more - 1 + 1074).toNat) (p' := 0) (q' := g) (by omega)
        have g2 := pow_cmp (2 * q + st) k (q := e + (-1074 - (i - j - more - 1)).toNat) (p := (i - j - more - 1 + 1074).toNat) (q' := 0) (p' := g) (by omega)
        have g3 := pow_cmp (k * n) m (p := e + (j + 1074).toNat) (q := (i + 1074).toNat + 1074) (p' := 0) (q' := more + (g + 1)) (by omega)
        have g4 := pow_cmp m (k * n) (q := e + (j + 1074).toNat) (p := (i + 1074).toNat + 1074) (q' := 0) (p' := more + (g + 1)) (by omega)
        rw [Nat.pow_zero, Nat.mul_one] at g1 g2 g3 g4
        exact ⟨g1.trans (s1.trans g3.symm), g2.trans (s2.trans g4.symm)⟩
  have hlim := (core 1 2000 (by decide)).2.2 (by rw [Nat.one_mul]; exact hb)
  rw [Nat.one_mul] at hlim
  obtain ⟨K, h1, h2⟩ := nearest_fin s (2 * q + st) (i - j - more - 1) hlim
  refine ⟨_, K, ?_, h1, h2.quot core⟩
  unfold Format.div
  rw [rx, ry]
  simp only [Datum.quotient]
  rw [if_neg (by omega)]
  simp only [Option.map_some, Format.write, Bool.xor_false, show Ieee.double.fractionBits = 52 from rfl, hmore, hq, hr, hst]
end Go.Proofs.Qxb6600854a.Fl
