import Derived.Test.Qxb6600854aRows
import Derived.WalkKit
import Derived.ProofKit
import Derived.Below
import Derived.Laws.BitsAllLaws
import Derived.Deep.LoopGhost
import Derived.Deep.Draws
import Derived.BigQuiet
import Derived.Deep.QuietTactic
namespace Go.Proofs.Qxb6600854a.Cell
open Go.ChangeShapes Go.WideShapes Go.ChangeAt Go.RowKit

theorem isNaN28 (x : Int) (w : World) : Calls Try.prog 28 #[.int .u64 x] w fun e w' => e = .returned (.bool false) ∧ w' = w := by
  go_enter Try.func28, Try.ntmps28
  go_wp2
  go_ret
  exact ⟨by simp, rfl⟩
theorem isNaN31 (x : Int) (w : World) : Calls Try.prog 31 #[.int .u64 x] w fun e w' => e = .returned (.bool false) ∧ w' = w := by
  go_enter Try.func31, Try.ntmps31
  go_wp2
  go_ret
  exact ⟨by simp, rfl⟩
theorem less27 (x y : Int) (w : World) : Calls Try.prog 27 #[.int .u64 x, .int .u64 y] w fun e w' => e = .returned (.bool (decide (x < y))) ∧ w' = w := by
  go_enter Try.func27, Try.ntmps27
  go_wp2_with (go_at_call 31; refine (isNaN31 _ _).mono ?_; rintro e w' ⟨rfl, rfl⟩)
  go_ret
  exact ⟨rfl, rfl⟩

theorem or_key (cx cy : Int) (h0 : 0 ≤ cx) (h1 : cx ≤ 2097151) (h2 : 0 ≤ cy) (h3 : cy ≤ 2097151) : bits .or .u64 (cy * 2097152) cx = cy * 2097152 + cx := by
  obtain ⟨a, rfl⟩ := Int.eq_ofNat_of_zero_le h0
  obtain ⟨b, rfl⟩ := Int.eq_ofNat_of_zero_le h2
  rw [u64_or _ _ (by omega) (by omega) (by omega) (by omega)]
  have e := Nat.two_pow_add_eq_or_of_lt (i := 21) (b := a) (by omega) b
  have e2 : ((b : Int) * 2097152).toNat = 2 ^ 21 * b := by omega
  rw [e2, Int.toNat_natCast, ← e]
  omega

theorem ret_u64 {a b : Int} (h : a = b) : Ending.returned (.int .u64 a) = .returned (.int .u64 b) := by rw [h]

theorem key23 (cx cy : Int) (w : World) (h0 : 0 ≤ cx) (h1 : cx ≤ 2097151) (h2 : 0 ≤ cy) (h3 : cy ≤ 2097151) :
    Calls Try.prog 23 #[.int .i64 cx, .int .i64 cy] w fun e w' => e = .returned (.int .u64 (cy * 2097152 + cx)) ∧ w' = w := by
  go_enter Try.func23, Try.ntmps23
  go_wp2
  go_ret
  exact ⟨ret_u64 (or_key cx cy h0 h1 h2 h3), rfl⟩

/-- 'cellLen': how many keys from the first lie in the cell. -/
theorem len25 (b off n c : Nat) (f : Nat → Int) (x : Int) (w : World) (hn : n ≤ 131072)
    (hc : ∀ j, j < n → w.cell? ⟨b, off + j, none⟩ = some (.int .u64 (f j))) (hz : ∀ j, j < n → 0 ≤ f j ∧ f j < 18446744073709551616) :
    Calls Try.prog 25 #[.slice (some ⟨b, off, none⟩) n c, .int .u64 x] w fun e w' => ∃ m : Nat, m ≤ n ∧ (∀ j, j < m → f j / 1048576 = x) ∧ (m < n → f m / 1048576 ≠ x) ∧ e = .returned (.int .i64 m) ∧ w' = w := by
  have HC : Hid (∀ j, j < n → w.cell? ⟨b, off + j, none⟩ = some (.int .u64 (f j))) := hc
  have HZ : Hid (∀ j, j < n → 0 ≤ f j ∧ f j < 18446744073709551616) := hz
  clear hc hz
  go_enter Try.func25, Try.ntmps25
  go_wp2
  go_loop [5] (fun i => ∃ k : Nat, k ≤ n ∧ i = .int .i64 k ∧ Hid (∀ j, j < k → f j / 1048576 = x)) (fun i => n - (intOf i).toNat)
  case atStart => exact ⟨0, Nat.zero_le _, rfl, fun j hj => absurd hj (Nat.not_lt_zero _)⟩
  case round =>
    obtain ⟨k, hk, rfl, hj⟩ := hrel
    by_cases hlt : k < n
    · have cm := HC.out k hlt
      obtain ⟨z0, z1⟩ := HZ.out k hlt
      generalize hy : f k = y at cm z0 z1
      have Y : Hid (f k = y) := hy
      clear hy
      by_cases hyx : y / 1048576 = x
      · have t : (y / 1048576 == x) = true := by simp [hyx]
        have T : Hid (y / 1048576 = x) := hyx
        clear hyx
        go_wp2
        go_round
        case rel =>
          refine ⟨k + 1, by omega, by go_num, fun j hj' => ?_⟩
          by_cases e : j = k
          · rw [e, Y.out, T.out]
          · exact hj.out j (by omega)
        case measure => simp [intOf]; omega
      · have t : (y / 1048576 == x) = false := by simp [hyx]
        have T : Hid (¬ y / 1048576 = x) := hyx
        clear hyx
        go_wp2
        go_ret
        exact ⟨k, hk, hj.out, fun _ => by rw [Y.out]; exact T.out, rfl, rfl⟩
    · go_wp2
      go_ret
      exact ⟨k, hk, hj.out, fun h => absurd h hlt, rfl, rfl⟩

theorem len25_none (p : Option Addr) (c : Nat) (x : Int) (w : World) :
    Calls Try.prog 25 #[.slice p 0 c, .int .u64 x] w fun e w' => e = .returned (.int .i64 0) ∧ w' = w := by
  go_enter Try.func25, Try.ntmps25
  go_wp2
  go_loop [5] (fun i => i = .int .i64 0) (fun _ => 0)
  case atStart => rfl
  case round =>
    obtain rfl := hrel
    go_wp2
    go_ret
    exact ⟨rfl, rfl⟩

set_option maxHeartbeats 1000000 in
/-- slices.BinarySearch of ascending keys: the first place whose key is not less than the target. -/
theorem search24 (b off n c : Nat) (f : Nat → Int) (x : Int) (w : World) (hn : n ≤ 131072)
    (hc : ∀ j, j < n → w.cell? ⟨b, off + j, none⟩ = some (.int .u64 (f j))) (hs : ∀ i j, i ≤ j → j < n → f i ≤ f j) :
    Calls Try.prog 24 #[.slice (some ⟨b, off, none⟩) n c, .int .u64 x] w fun e w' => ∃ (m : Nat) (v : Bool), m ≤ n ∧ (∀ j, j < m → f j < x) ∧ (∀ j, m ≤ j → j < n → x ≤ f j) ∧ e = .returned (.tuple #[.int .i64 m, .bool v]) ∧ ∃ q, w' = w.drewN q := by
  have HC : Hid (∀ j, j < n → w.cell? ⟨b, off + j, none⟩ = some (.int .u64 (f j))) := hc
  have S : Hid (∀ i j, i ≤ j → j < n → f i ≤ f j) := hs
  clear hc hs
  go_enter Try.func24, Try.ntmps24
  go_wp2
  go_loopg [7, 8] n (fun g s7 s8 wr => ∃ lo hi q : Nat, s7 = .int .i64 lo ∧ s8 = .int .i64 hi ∧ lo ≤ hi ∧ hi ≤ n ∧ hi - lo ≤ g ∧ wr = w.drewN q ∧ (∀ t, t < lo → f t < x) ∧ (∀ t, hi ≤ t → t < n → x ≤ f t))
  case atStart => exact ⟨0, n, 0, rfl, rfl, Nat.zero_le _, Nat.le_refl _, by omega, rfl, fun t ht => absurd ht (Nat.not_lt_zero _), fun t h1 h2 => by omega⟩
  case round =>
    obtain ⟨lo, hi, q, rfl, rfl, hlh, hin, hg, rfl, h1, h2⟩ := hrel
    have I : Hid ((∀ t, t < lo → f t < x) ∧ (∀ t, hi ≤ t → t < n → x ≤ f t)) := ⟨h1, h2⟩
    clear h1 h2
    by_cases hlt : lo < hi
    · have cm := HC.out ((lo + hi) / 2) (by omega)
      generalize hy : f ((lo + hi) / 2) = y at cm
      have Y : Hid (f ((lo + hi) / 2) = y) := hy
      clear hy
      by_cases hyx : y < x
      · go_wp2_with (first | (go_at_call 27; refine (less27 _ _ _).mono ?_; rintro e w' ⟨rfl, rfl⟩) | (go_at_call 28; refine (isNaN28 _ _).mono ?_; rintro e w' ⟨rfl, rfl⟩))
        go_roundg (hi - ((lo + hi) / 2 + 1))
        case measure => omega
        case rel =>
          refine ⟨(lo + hi) / 2 + 1, hi, _, by rw [show ((lo : Int) + (hi : Int)) / 2 + 1 = (((lo + hi) / 2 + 1 : Nat) : Int) by omega], rfl, by omega, hin, Nat.le_refl _, rfl, fun t ht => ?_, I.out.2⟩
          have := S.out t ((lo + hi) / 2) (by omega) (by omega)
          rw [Y.out] at this
          omega
      · go_wp2_with (first | (go_at_call 27; refine (less27 _ _ _).mono ?_; rintro e w' ⟨rfl, rfl⟩) | (go_at_call 28; refine (isNaN28 _ _).mono ?_; rintro e w' ⟨rfl, rfl⟩))
        go_roundg ((lo + hi) / 2 - lo)
        case measure => omega
        case rel =>
          refine ⟨lo, (lo + hi) / 2, _, rfl, by rw [show ((lo : Int) + (hi : Int)) / 2 = (((lo + hi) / 2 : Nat) : Int) by omega], by omega, by omega, Nat.le_refl _, rfl, I.out.1, fun t ht htn => ?_⟩
          have := S.out ((lo + hi) / 2) t ht htn
          rw [Y.out] at this
          omega
    · have : hi = lo := by omega
      subst this
      by_cases hn : hi < n
      · have cl := HC.out hi (by omega)
        generalize hy : f hi = y at cl
        clear hy
        by_cases hyx : y = x
        · go_wp2_with (first | (go_at_call 27; refine (less27 _ _ _).mono ?_; rintro e w' ⟨rfl, rfl⟩) | (go_at_call 28; refine (isNaN28 _ _).mono ?_; rintro e w' ⟨rfl, rfl⟩))
          go_ret2
          exact ⟨hi, _, hin, I.out.1, I.out.2, rfl, _, rfl⟩
        · go_wp2_with (first | (go_at_call 27; refine (less27 _ _ _).mono ?_; rintro e w' ⟨rfl, rfl⟩) | (go_at_call 28; refine (isNaN28 _ _).mono ?_; rintro e w' ⟨rfl, rfl⟩))
          go_ret2
          exact ⟨hi, _, hin, I.out.1, I.out.2, rfl, _, rfl⟩
      · go_wp2_with (first | (go_at_call 27; refine (less27 _ _ _).mono ?_; rintro e w' ⟨rfl, rfl⟩) | (go_at_call 28; refine (isNaN28 _ _).mono ?_; rintro e w' ⟨rfl, rfl⟩))
        go_ret2
        exact ⟨hi, _, hin, I.out.1, I.out.2, rfl, _, rfl⟩

end Go.Proofs.Qxb6600854a.Cell
