import Derived.Test.Qxb6600854aCell
namespace Go.Proofs.Qxb6600854a.Cell
open Go.ChangeShapes Go.WideShapes Go.ChangeAt Go.RowKit

theorem search24_none (p : Option Addr) (c : Nat) (x : Int) (w : World) :
    Calls Try.prog 24 #[.slice p 0 c, .int .u64 x] w fun e w' => e = .returned (.tuple #[.int .i64 0, .bool false]) ∧ ∃ q, w' = w.drewN q := by
  go_enter Try.func24, Try.ntmps24
  go_wp2
  go_loop [7, 8] (fun i j => i = .int .i64 0 ∧ j = .int .i64 0) (fun _ _ => 0)
  case atStart => exact ⟨rfl, rfl⟩
  case round =>
    obtain ⟨rfl, rfl⟩ := hrel
    go_wp2
    go_ret2
    exact ⟨rfl, 0, rfl⟩

theorem run20_out (p : Option Addr) (n c : Nat) (cx cy : Int) (w : World) (h : cx < 0 ∨ 2097151 < cx ∨ 2097151 < cy) :
    Calls Try.prog 20 #[.slice p n c, .int .i64 cx, .int .i64 cy] w fun e w' => e = .returned (.tuple #[.int .i64 0, .int .i64 0]) ∧ w' = w := by
  by_cases h1 : cx < 0
  · go_enter Try.func20, Try.ntmps20
    go_wp2
    go_ret2
    exact ⟨rfl, rfl⟩
  by_cases h2 : 2097151 < cx
  · go_enter Try.func20, Try.ntmps20
    go_wp2
    go_ret2
    exact ⟨rfl, rfl⟩
  · have h3 : 2097151 < cy := by omega
    clear h
    go_enter Try.func20, Try.ntmps20
    go_wp2
    go_ret2
    exact ⟨rfl, rfl⟩

theorem run20_none (p : Option Addr) (cx cy : Int) (w : World) (h0 : 0 ≤ cx) (h1 : cx ≤ 2097151) (h2 : 0 ≤ cy) (h3 : cy ≤ 2097151) (hp : p = none ∨ ∃ b, p = some ⟨b, 0, none⟩) :
    Calls Try.prog 20 #[.slice p 0 0, .int .i64 cx, .int .i64 cy] w fun e w' => e = .returned (.tuple #[.int .i64 0, .int .i64 0]) ∧ ∃ q, w' = w.drewN q := by
  rcases hp with rfl | ⟨b, rfl⟩
  all_goals
    go_enter Try.func20, Try.ntmps20
    go_wp2_with fail
    refine (key23 cx cy _ h0 h1 h2 h3).mono ?_
    rintro e w' ⟨rfl, rfl⟩
    go_wp2_with fail
    refine (search24_none _ _ _ _).mono ?_
    rintro e w' ⟨rfl, q, rfl⟩
    go_wp2_with fail
    refine (len25_none _ _ _ _).mono ?_
    rintro e w' ⟨rfl, rfl⟩
    go_wp2
    go_ret2
    exact ⟨rfl, q, rfl⟩

/-- 'cellRun' of ascending keys: the places of the keys of the cell. -/
theorem run20 (b n : Nat) (f : Nat → Int) (cx cy : Int) (w : World) (hn : n ≤ 131072) (h0 : 0 ≤ cx) (h1 : cx ≤ 2097151) (h2 : 0 ≤ cy) (h3 : cy ≤ 2097151)
    (hc : ∀ j, j < n → w.cell? ⟨b, 0 + j, none⟩ = some (.int .u64 (f j))) (hz : ∀ j, j < n → 0 ≤ f j ∧ f j < 18446744073709551616) (hs : ∀ i j, i ≤ j → j < n → f i ≤ f j) :
    Calls Try.prog 20 #[.slice (some ⟨b, 0, none⟩) n n, .int .i64 cx, .int .i64 cy] w fun e w' => ∃ m t : Nat, m ≤ t ∧ t ≤ n ∧ (∀ j, j < m → f j / 1048576 < cy * 2097152 + cx) ∧ (∀ j, m ≤ j → j < t → f j / 1048576 = cy * 2097152 + cx) ∧ (∀ j, t ≤ j → j < n → cy * 2097152 + cx < f j / 1048576)
      ∧ e = .returned (.tuple #[.int .i64 m, .int .i64 t]) ∧ ∃ q, w' = w.drewN q := by
  have HC : Hid (∀ j, j < n → w.cell? ⟨b, 0 + j, none⟩ = some (.int .u64 (f j))) := hc
  have HZ : Hid (∀ j, j < n → 0 ≤ f j ∧ f j < 18446744073709551616) := hz
  have HS : Hid (∀ i j, i ≤ j → j < n → f i ≤ f j) := hs
  clear hc hz hs
  go_enter Try.func20, Try.ntmps20
  go_wp2_with fail
  refine (key23 cx cy _ h0 h1 h2 h3).mono ?_
  rintro e w' ⟨rfl, rfl⟩
  go_wp2_with fail
  refine (search24 b 0 n n f ((cy * 2097152 + cx) * 1048576) _ hn HC.out HS.out).mono ?_
  rintro e w' ⟨m, v, hm, a1, a2, rfl, q, rfl⟩
  have A : Hid ((∀ j, j < m → f j < (cy * 2097152 + cx) * 1048576) ∧ (∀ j, m ≤ j → j < n → (cy * 2097152 + cx) * 1048576 ≤ f j)) := ⟨a1, a2⟩
  clear a1 a2
  by_cases hmn : m < n
  · go_wp2_with fail
    refine (len25 b m (n - m) (n - m) (fun j => f (m + j)) (cy * 2097152 + cx) _ (by omega) (fun j hj => ?_) (fun j hj => HZ.out (m + j) (by omega))).mono ?_
    · have := HC.out (m + j) (by omega)
      rw [Nat.zero_add] at this
      exact this
    rintro e w' ⟨k, hk, b1, b2, rfl, rfl⟩
    have B : Hid ((∀ j, j < k → f (m + j) / 1048576 = cy * 2097152 + cx) ∧ (k < n - m → f (m + k) / 1048576 ≠ cy * 2097152 + cx)) := ⟨b1, b2⟩
    clear b1 b2
    go_wp2
    go_ret2
    refine ⟨m, m + k, by omega, by omega, fun j hj => ?_, fun j hj hj' => ?_, fun j hj hj' => ?_, by simp, q, rfl⟩
    · have := A.out.1 j hj; omega
    · have := B.out.1 (j - m) (by omega)
      rw [show m + (j - m) = j by omega] at this
      exact this
    · have e1 := B.out.2 (by omega)
      have e2 := A.out.2 (m + k) (by omega) (by omega)
      have e3 := HS.out (m + k) j (by omega) hj'
      omega
  · have : m = n := by omega
    subst this
    go_wp2_with fail
    refine (len25_none _ _ _ _).mono ?_
    rintro e w' ⟨rfl, rfl⟩
    go_wp2
    go_ret2
    refine ⟨m, m, by omega, by omega, fun j hj => ?_, fun j hj hj' => absurd hj' (by omega), fun j hj hj' => absurd hj' (by omega), by simp, q, rfl⟩
    have := A.out.1 j hj; omega

end Go.Proofs.Qxb6600854a.Cell
