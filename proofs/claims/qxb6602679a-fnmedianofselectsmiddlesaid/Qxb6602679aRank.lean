import Derived.Test.Qxb6602679aMed
import Derived.Laws.FloatArith
/-! The classes of float32 that the law compares by: by value, -0 below +0, all NaNs one class above all. Plain. -/
namespace Go.Proofs.Qxb6602679a.Med
open Ieee

def nnB (x : Nat) : Bool := (Fl.key single x).isSome
theorem nnB_iff (x : Nat) : nnB x = true ↔ nn x := Iff.rfl
/-- The negative zero's word. -/
def nzB (x : Nat) : Bool := decide (x = 2147483648)
def rank (x : Nat) : Int := if nnB x then (if nzB x then -1 else 2 * kv x) else 2 * (2 ^ Fl.bigExp single : Nat) + 1

theorem nan_test (x : Nat) : (FloatKind.f32.format.order x x != some .eq) = !nnB x := by
  show (single.order x x != some .eq) = !nnB x
  unfold nnB
  rw [Fl.order_eq]
  cases Fl.key single x with
  | none => rfl
  | some a => simp [Fl.compare_int]

theorem key_zero {x : Nat} (hx : x < 4294967296) (h : Fl.key single x = some 0) : x = 0 ∨ x = 2147483648 := by
  unfold Fl.key at h
  unfold Format.read at h
  have sw : single.signWeight = 2147483648 := by decide
  have bi : single.binade = 8388608 := by decide
  have pos : (0 : Int) < ((2 ^ Fl.bigExp single : Nat) : Int) := by have := Nat.two_pow_pos (Fl.bigExp single); omega
  simp only [sw, bi] at h
  split at h
  · rename_i hr
    simp only [Fl.fval, Int.sub_self, Int.toNat_zero, Fl.signed_eq, Nat.pow_zero, Nat.mul_one, Option.some.injEq] at h
    split at h <;> omega
  · split at h
    · rename_i hr hr2
      simp only [Fl.fval, Fl.signed_eq, Option.some.injEq] at h
      have hk := Nat.two_pow_pos (single.leastPlace + ((x % 2147483648 / 8388608 - 1 : Nat) : Int) - single.leastPlace).toNat
      generalize 2 ^ (single.leastPlace + ((x % 2147483648 / 8388608 - 1 : Nat) : Int) - single.leastPlace).toNat = K at h hk
      have : 0 < (8388608 + x % 2147483648 % 8388608) := by omega
      exfalso
      have := Nat.mul_pos this hk
      split at h <;> omega
    · split at h
      · simp only [Fl.fval, Option.some.injEq] at h
        split at h <;> omega
      · simp [Fl.fval] at h

theorem key_0 : Fl.key single 0 = some 0 := by decide
theorem key_nz : Fl.key single 2147483648 = some 0 := by decide

theorem zero_test {x : Nat} (hx : x < 4294967296) (h0 : x ≠ 0) (h1 : x ≠ 2147483648) : (FloatKind.f32.format.order x 0 != some .eq) = true := by
  show (single.order x 0 != some .eq) = true
  rw [Fl.order_eq, key_0]
  cases hk : Fl.key single x with
  | none => rfl
  | some a =>
    have ha : a ≠ 0 := by rintro rfl; rcases key_zero hx hk with e | e <;> contradiction
    by_cases l : a < 0
    · simp [Fl.compare_int, l]
    · simp [Fl.compare_int, l, ha]

theorem kv_le (x : Nat) (h : nn x) : kv x ≤ ((2 ^ Fl.bigExp single : Nat) : Int) := by
  obtain ⟨a, ha⟩ := Option.isSome_iff_exists.1 h
  have e : kv x = a := by simp [kv, ha]
  rw [e]
  have pos : (0 : Int) < ((2 ^ Fl.bigExp single : Nat) : Int) := by have := Nat.two_pow_pos (Fl.bigExp single); omega
  unfold Fl.key at ha
  cases hr : single.read x with
  | nan s t => rw [hr] at ha; simp [Fl.fval] at ha
  | infinity s =>
    rw [hr] at ha
    simp only [Fl.fval, Option.some.injEq] at ha
    rw [← ha]
    split <;> omega
  | number s m i =>
    obtain ⟨_, lt⟩ := Fl.read_number hr
    rw [hr] at ha
    simp only [Fl.fval, Fl.signed_eq, Option.some.injEq] at ha
    rw [← ha]
    generalize m * 2 ^ (i - single.leastPlace).toNat = N at lt
    generalize 2 ^ Fl.bigExp single = K at lt pos
    split <;> omega

theorem kv_nz : kv 2147483648 = 0 := by simp [kv, key_nz]
theorem kv_0 : kv 0 = 0 := by simp [kv, key_0]

theorem rank_nan {x : Nat} (h : nnB x = false) : rank x = 2 * (2 ^ Fl.bigExp single : Nat) + 1 := by simp [rank, h]
theorem rank_nn {x : Nat} (h : nnB x = true) : rank x = if nzB x then -1 else 2 * kv x := by simp [rank, h]
theorem rank_nn_lt {x : Nat} (h : nnB x = true) : rank x < 2 * (2 ^ Fl.bigExp single : Nat) + 1 := by
  have h1 := kv_le x h
  have h2 := Nat.two_pow_pos (Fl.bigExp single)
  rw [rank_nn h]
  generalize 2 ^ Fl.bigExp single = K at h1 h2
  split <;> omega

/-- 'a < b' decides, or else 'b < a', or else the signs of two zeros. -/
theorem rank_lt {x y : Nat} (hx : nnB x = true) (hy : nnB y = true) (h : lt32 x y = true) : rank x < rank y := by
  rw [lt_nn hx hy, decide_eq_true_eq] at h
  rw [rank_nn hx, rank_nn hy]
  have ex : nzB x = true → kv x = 0 := fun e => by rw [of_decide_eq_true e]; exact kv_nz
  have ey : nzB y = true → kv y = 0 := fun e => by rw [of_decide_eq_true e]; exact kv_nz
  split <;> split <;> rename_i e1 e2 <;> first | (have := ex e1; have := ey e2; omega) | (have := ex e1; omega) | (have := ey e2; omega) | omega
theorem kv_eq {x y : Nat} (hx : nnB x = true) (hy : nnB y = true) (h1 : lt32 x y = false) (h2 : lt32 y x = false) : kv x = kv y := by
  rw [lt_nn hx hy, decide_eq_false_iff_not] at h1
  rw [lt_nn hy hx, decide_eq_false_iff_not] at h2
  omega
/-- Of two that are equal by value the ranks part by the sign of zero alone. -/
theorem rank_eq {x y : Nat} (hx : nnB x = true) (hy : nnB y = true) (h : kv x = kv y) :
    (decide (rank x < rank y) = (nzB x && !nzB y)) ∧ (decide (rank x = rank y) = (nzB x == nzB y)) := by
  rw [rank_nn hx, rank_nn hy]
  cases ex : nzB x <;> cases ey : nzB y
  · simp [h]
  · have : y = 2147483648 := of_decide_eq_true ey
    have : kv y = 0 := by rw [this]; exact kv_nz
    have e : kv x = 0 := by omega
    simp [e]
  · have : x = 2147483648 := of_decide_eq_true ex
    have : kv x = 0 := by rw [this]; exact kv_nz
    have e : kv y = 0 := by omega
    simp [e]
  · simp
theorem eq_test {x y : Nat} (hx : nnB x = true) (hy : nnB y = true) : (FloatKind.f32.format.order x y != some .eq) = !decide (kv x = kv y) := by
  rw [order_nn hx hy, Fl.compare_int]
  by_cases l : kv x < kv y
  · have : ¬ kv x = kv y := by omega
    simp [l, this]
  · by_cases e : kv x = kv y <;> simp [l, e]
theorem rank_ne {x y : Nat} (hx : nnB x = true) (hy : nnB y = true) (h : ¬ kv x = kv y) : rank x ≠ rank y := by
  rw [rank_nn hx, rank_nn hy]
  have ex : nzB x = true → kv x = 0 := fun e => by rw [of_decide_eq_true e]; exact kv_nz
  have ey : nzB y = true → kv y = 0 := fun e => by rw [of_decide_eq_true e]; exact kv_nz
  split <;> split <;> rename_i e1 e2 <;> first | (have := ex e1; have := ey e2; omega) | (have := ex e1; omega) | (have := ey e2; omega) | omega

end Go.Proofs.Qxb6602679a.Med
