import Derived.Test.Qxb6600854aIns
import Derived.Shelf.Lay
import Derived.Shelf.Strconv.Itoa0
import Derived.Shelf.Small.Bits
namespace Go.Proofs.Qxb6600854a
open Go.Shelf
shelf_lay Lays.n125 Nm 125 at Try as Try.lays125
theorem Sr.len30 (x : Int) (w : World) (h0 : 0 ≤ x) (h1 : x ≤ 18446744073709551615) :
    Calls Try.prog 30 #[.int .u64 x] w fun e w' => e = .returned (.int .i64 (Lib.bitLen x.toNat)) ∧ w' = w := Any.bits_Len Try.lays125 x w h0 h1
namespace Sr
open Go.ChangeShapes Go.WideShapes Go.ChangeAt Go.RowKit Go.Sort

theorem blen_pow : ∀ x : Nat, x < 65536 → x < 2 ^ Lib.bitLen x ∧ (0 < x → 2 ^ Lib.bitLen x ≤ 2 * x) := by
  intro x
  induction x using Nat.strongRecOn with
  | ind x ih =>
    intro h
    by_cases e : x = 0
    · subst e
      exact ⟨by decide, fun q => by omega⟩
    · obtain ⟨i1, i2⟩ := ih (x / 2) (by omega) (by omega)
      rw [Lib.bitLen_half x e (by omega), Nat.pow_add]
      by_cases e1 : x = 1
      · subst e1
        exact ⟨by decide, fun _ => by decide⟩
      · have := i2 (by omega)
        exact ⟨by omega, fun _ => by omega⟩
theorem blen_bound (x : Nat) (h0 : 0 < x) (h : x < 65536) : Lib.bitLen x ≤ 16 ∧ x < 2 ^ Lib.bitLen x ∧ 2 ^ Lib.bitLen x ≤ 2 * x :=
  ⟨Lib.bitLen_le x 16 (by omega) (by simpa using h), (blen_pow x h).1, (blen_pow x h).2 h0⟩

set_option maxHeartbeats 1000000 in
theorem npt43 (x : Nat) (w : World) (h0 : 0 < x) (h1 : x < 65536) :
    Calls Try.prog 43 #[.int .i64 x] w fun e w' => ∃ m : Nat, e = .returned (.int .u64 m) ∧ x ≤ m ∧ m ≤ 2 * x ∧ w' = w := by
  have b := blen_bound x h0 h1
  have hl := len30 (x : Int) w (by omega) (by omega)
  rw [Int.toNat_natCast] at hl
  generalize Lib.bitLen x = k at b hl
  go_enter Try.func43, Try.ntmps43
  go_wp2_with fail
  go_at_call 30
  refine hl.mono ?_
  rintro e w' ⟨rfl, rfl⟩
  go_wp2_with fail
  go_ret
  refine ⟨2 ^ k, ?_, by omega, by omega, rfl⟩
  have e : IntKind.u64.wrap (2 ^ k) = ((2 ^ k : Nat) : Int) := by
    have h2 : (2 : Int) ^ k = ((2 ^ k : Nat) : Int) := by simp
    rw [h2]
    have h3 : 2 ^ k ≤ 131072 := by omega
    simp only [IntKind.wrap, IntKind.bits, IntKind.signed]
    generalize 2 ^ k = z at h3
    simp
    omega
  exact congrArg (fun z => Ending.returned (Value.int IntKind.u64 z)) e
end Sr
end Go.Proofs.Qxb6600854a
