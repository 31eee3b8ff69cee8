import Derived.Test.Qxb6600854aRows
import Derived.WalkKit
import Derived.ProofKit
namespace Go.Proofs.Qxb6600854a.Grid
open Go.ChangeShapes Go.WideShapes Go.ChangeAt Go.RowKit

/-- What 'copies' answers: one copy where the hops reach the side, else the devices over the reached ones, rounded up. -/
def gc (d s h : Int) : Int := if s ≤ h then 1 else (d + (2 * h * h + 2 * h + 1) - 1) / (2 * h * h + 2 * h + 1)

theorem sq_bd (h : Int) (h0 : 0 ≤ h) (h1 : h ≤ 1073741824) : 0 ≤ 2 * h * h ∧ 2 * h * h ≤ 2305843009213693952 := by
  have a : h * h ≤ 1073741824 * 1073741824 := Int.mul_le_mul h1 h1 h0 (by decide)
  have b : 0 ≤ h * h := Int.mul_nonneg h0 h0
  have c : 2 * h * h = 2 * (h * h) := Int.mul_assoc _ _ _
  omega

theorem ret_int {k : IntKind} {a b : Int} (h : a = b) : Ending.returned (.int k a) = .returned (.int k b) := by rw [h]

theorem walk13a (d s h : Int) (w : World) (hs : s ≤ h) :
    Calls Try.prog 13 #[.int .i64 d, .int .i64 s, .int .i64 h] w fun e w' => e = .returned (.int .i64 1) ∧ Grown w w' := by
  go_enter Try.func13, Try.ntmps13
  go_wp2
  go_ret
  exact ⟨rfl, by repeat (first | exact Grown.refl _ | apply Grown.drew | apply Grown.alloc)⟩
theorem walk13b (d s h M : Int) (w : World) (hd0 : 0 ≤ d) (hd1 : d ≤ 1152921504606846976) (hh0 : 0 ≤ h) (hh1 : h ≤ 1073741824) (hs : h < s)
    (hM : 2 * h * h = M) (m0 : 0 ≤ M) (m1 : M ≤ 2305843009213693952) :
    Calls Try.prog 13 #[.int .i64 d, .int .i64 s, .int .i64 h] w fun e w' => e = .returned (.int .i64 ((d + (M + 2 * h + 1) - 1) / (M + 2 * h + 1))) ∧ Grown w w' := by
  have q0 : 0 ≤ (d + (M + 2 * h + 1) - 1) / (M + 2 * h + 1) := Int.ediv_nonneg (by omega) (by omega)
  have q1 : (d + (M + 2 * h + 1) - 1) / (M + 2 * h + 1) ≤ d + (M + 2 * h + 1) - 1 := Int.ediv_le_self _ (by omega)
  go_enter Try.func13, Try.ntmps13
  go_wp2
  go_ret
  exact ⟨rfl, by repeat (first | exact Grown.refl _ | apply Grown.drew | apply Grown.alloc)⟩
theorem walk13 (d s h : Int) (w : World) (hd0 : 0 ≤ d) (hd1 : d ≤ 1152921504606846976) (hh0 : 0 ≤ h) (hh1 : h ≤ 1073741824) :
    Calls Try.prog 13 #[.int .i64 d, .int .i64 s, .int .i64 h] w fun e w' => e = .returned (.int .i64 (gc d s h)) ∧ Grown w w' := by
  unfold gc
  by_cases hs : s ≤ h
  · rw [if_pos hs]; exact walk13a d s h w hs
  · rw [if_neg hs]
    obtain ⟨m0, m1⟩ := sq_bd h hh0 hh1
    exact walk13b d s h _ w hd0 hd1 hh0 hh1 (by omega) rfl m0 m1

/-! ### The plain law -/
theorem gc_cover (d s h : Int) (hd0 : 0 ≤ d) (hh0 : 0 ≤ h) (hs : h < s) :
    0 ≤ gc d s h ∧ gc d s h ≤ d / ((h + 1) * (h + 1) + h * h) + 1 ∧ d ≤ gc d s h * ((h + 1) * (h + 1) + h * h) ∧ (gc d s h - 1) * ((h + 1) * (h + 1) + h * h) < d
      ∧ gc d s h * ((h + 1) * (h + 1) + h * h) ≤ d + ((h + 1) * (h + 1) + h * h) - 1 := by
  have hsq : 0 ≤ h * h := Int.mul_nonneg hh0 hh0
  have e1 : (h + 1) * (h + 1) + h * h = 2 * h * h + 2 * h + 1 := by
    rw [Int.add_mul, Int.mul_add, Int.mul_add, Int.mul_assoc 2 h h]; omega
  have e2 : 2 * h * h = 2 * (h * h) := Int.mul_assoc _ _ _
  rw [e1]
  unfold gc
  rw [if_neg (by omega)]
  obtain ⟨R, hR⟩ : ∃ R, 2 * h * h + 2 * h + 1 = R := ⟨_, rfl⟩
  have hR1 : 1 ≤ R := by omega
  rw [hR]
  clear hR e1 e2 hsq
  have a := Int.mul_ediv_add_emod (d + R - 1) R
  have b0 := Int.emod_nonneg (d + R - 1) (show R ≠ 0 by omega)
  have b1 := Int.emod_lt_of_pos (d + R - 1) (show 0 < R by omega)
  have c0 : 0 ≤ (d + R - 1) / R := Int.ediv_nonneg (by omega) (by omega)
  have c1 : (d + R - 1) / R ≤ d / R + 1 := by
    have := Int.add_mul_ediv_right d 1 (show R ≠ 0 by omega)
    rw [Int.one_mul] at this
    rw [← this]
    exact Int.ediv_le_ediv (by omega) (by omega)
  obtain ⟨q, hq⟩ : ∃ q, (d + R - 1) / R = q := ⟨_, rfl⟩
  rw [hq] at a c0 c1 ⊢
  have e3 : (q - 1) * R = q * R - R := by rw [Int.sub_mul, Int.one_mul]
  have e4 : R * q = q * R := Int.mul_comm _ _
  exact ⟨c0, c1, by omega, by omega, by omega⟩

end Go.Proofs.Qxb6600854a.Grid
