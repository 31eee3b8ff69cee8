import Derived.Test.Qxb6600854aIns
import Derived.Shelf.Small.Bits
namespace Go.Proofs.Qxb6600854a
open Go.Shelf
/-! The shelf laid at this program in plain words: bits.Len and its callees. -/
def Try.lays125_ren : Go.Shelf.Ren := ⟨fun | 125 => 30 | 128 => 40 | 129 => 41 | n => n, fun | 46 => 50 | 3 => 3 | 51 => 69 | 53 => 25 | 4 => 4 | 5 => 5 | 9 => 9 | n => n, fun | n => n⟩
theorem Try.lays125 : Go.Proofs.Lays.n125 Try.prog Try.lays125_ren := {
  mixed := by kernel_rfl
  f125 := Try.func30.trans (congrArg some (by kernel_rfl))
  f128 := Try.func40.trans (congrArg some (by kernel_rfl))
  f129 := Try.func41.trans (congrArg some (by kernel_rfl))
  t3 := Try.underlying3
  a3 := Try.isAgg3
  z3 := Try.sizeOf3
  v3 := Try.zeroValue3
  t4 := Try.underlying4
  a4 := Try.isAgg4
  z4 := Try.sizeOf4
  v4 := Try.zeroValue4
  t5 := Try.underlying5
  a5 := Try.isAgg5
  z5 := Try.sizeOf5
  v5 := Try.zeroValue5
  t9 := Try.underlying9
  a9 := Try.isAgg9
  z9 := Try.sizeOf9
  v9 := Try.zeroValue9
  t46 := Try.underlying50
  a46 := Try.isAgg50
  z46 := Try.sizeOf50
  v46 := Try.zeroValue50
  t51 := Try.underlying69
  a51 := Try.isAgg69
  z51 := Try.sizeOf69
  v51 := Try.zeroValue69
  t53 := Try.underlying25
  a53 := Try.isAgg25
  z53 := Try.sizeOf25
  v53 := Try.zeroValue25 }
theorem Sr.len30 (x : Int) (w : World) (h0 : 0 ≤ x) (h1 : x ≤ 18446744073709551615) :
    Calls Try.prog 30 #[.int .u64 x] w fun e w' => e = .returned (.int .i64 (Lib.bitLen x.toNat)) ∧ w' = w := Any.bits_Len Try.lays125 x w h0 h1
namespace Sr
open Go.ChangeShapes Go.WideShapes Go.ChangeAt Go.RowKit Go.Sort

theorem blen_pow : ∀ x : Nat, x < 65536 → x < 2 ^ Lib.bitLen x ∧ (0 < x → 2 ^ Lib.bitLen x ≤ 2 * x) := by
  intro x
  induction x using Nat.strongRecOn with
  | ind x ih =>
    intro h
    by_cases e : x = 0
    · subst e
      exact ⟨by decide, fun q => by omega⟩
    · obtain ⟨i1, i2⟩ := ih (x / 2) (by omega) (by omega)
      rw [Lib.bitLen_half x e (by omega), Nat.pow_add]
      by_cases e1 : x = 1
      · subst e1
        exact ⟨by decide, fun _ => by decide⟩
      · have := i2 (by omega)
        exact ⟨by omega, fun _ => by omega⟩
theorem blen_bound (x : Nat) (h0 : 0 < x) (h : x < 65536) : Lib.bitLen x ≤ 16 ∧ x < 2 ^ Lib.bitLen x ∧ 2 ^ Lib.bitLen x ≤ 2 * x :=
  ⟨Lib.bitLen_le x 16 (by omega) (by simpa using h), (blen_pow x h).1, (blen_pow x h).2 h0⟩

set_option maxHeartbeats 1000000 in
theorem npt43 (x : Nat) (w : World) (h0 : 0 < x) (h1 : x < 65536) :
    Calls Try.prog 43 #[.int .i64 x] w fun e w' => ∃ m : Nat, e = .returned (.int .u64 m) ∧ x ≤ m ∧ m ≤ 2 * x ∧ w' = w := by
  have b := blen_bound x h0 h1
  have hl := len30 (x : Int) w (by omega) (by omega)
  rw [Int.toNat_natCast] at hl
  generalize Lib.bitLen x = k at b hl
  go_enter Try.func43, Try.ntmps43
  go_wp2_with fail
  go_at_call 30
  refine hl.mono ?_
  rintro e w' ⟨rfl, rfl⟩
  go_wp2_with fail
  go_ret
  refine ⟨2 ^ k, ?_, by omega, by omega, rfl⟩
  have e : IntKind.u64.wrap (2 ^ k) = ((2 ^ k : Nat) : Int) := by
    have h2 : (2 : Int) ^ k = ((2 ^ k : Nat) : Int) := by simp
    rw [h2]
    have h3 : 2 ^ k ≤ 131072 := by omega
    simp only [IntKind.wrap, IntKind.bits, IntKind.signed]
    generalize 2 ^ k = z at h3
    simp
    omega
  exact congrArg (fun z => Ending.returned (Value.int IntKind.u64 z)) e
end Sr
end Go.Proofs.Qxb6600854a
