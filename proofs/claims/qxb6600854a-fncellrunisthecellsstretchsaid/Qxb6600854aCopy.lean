import Derived.Test.Qxb6600854aCellRun
import Derived.Test.Qxb6600854aRow
namespace Go.Proofs.Qxb6600854a.Cell
open Go.ChangeShapes Go.WideShapes Go.ChangeAt Go.RowKit

theorem Try.info25 : (Try.prog.info? 25).map (fun i => (i.zero, i.size, i.bytes)) = some (some (.int .u64 0), 1, 8) := by kernel_rfl

theorem nil_nil (W : World) : (binOp .eql 22 (.slice none 0 0) (.slice none 0 0)).run Try.prog W = .ok (.bool true) W := by kernel_rfl
theorem some_nil (x : Addr) (n c : Nat) (W : World) : (binOp .eql 22 (.slice (some x) n c) (.slice none 0 0)).run Try.prog W = .ok (.bool false) W := by kernel_rfl

theorem copy10_nil (w : World) : Calls Try.prog 10 #[.slice none 0 0] w fun e w' => e = .returned (.slice none 0 0) ∧ w' = w := by
  have hnil := nil_nil
  go_enter Try.func10, Try.ntmps10
  go_wp2
  go_ret
  exact ⟨rfl, rfl⟩

theorem copy10_empty (x : Addr) (c : Nat) (w : World) :
    Calls Try.prog 10 #[.slice (some x) 0 c] w fun e w' => e = .returned (.slice (some ⟨w.heap.size, 0, none⟩) 0 0) ∧ w' = w.alloc (.cells #[] 25) := by
  have hnil := some_nil
  go_enter Try.func10, Try.ntmps10
  go_wp2_with (at_make; refine Row.wpList_make_row _ rfl _ _ 22 rfl 25 (.int .u64 0) 8 Try.underlying22 Try.info25 rfl _ _ _ _ 0 rfl rfl rfl rfl (by omega) (by omega) ?_)
  go_loop [4] (fun i => i = .int .i64 0) (fun _ => 0)
  case atStart => rfl
  case round =>
    obtain rfl := hrel
    go_wp2
    go_ret
    exact ⟨rfl, rfl⟩

theorem copy10 (b off n c : Nat) (f : Nat → Int) (w : World) (hn : n ≤ 131072)
    (hc : ∀ j, j < n → w.cell? ⟨b, off + j, none⟩ = some (.int .u64 (f j))) :
    Calls Try.prog 10 #[.slice (some ⟨b, off, none⟩) n c] w fun e w' => e = .returned (.slice (some ⟨w.heap.size, 0, none⟩) n n) ∧ w' = w.alloc (.cells (Row.cpTo (fun j => .int .u64 (f j)) n (.int .u64 0) n) 25) := by
  have HC : Hid (∀ j, j < n → w.cell? ⟨b, off + j, none⟩ = some (.int .u64 (f j))) := hc
  clear hc
  have hnil := some_nil
  go_enter Try.func10, Try.ntmps10
  go_wp2_with (at_make; refine Row.wpList_make_row _ rfl _ _ 22 rfl 25 (.int .u64 0) 8 Try.underlying22 Try.info25 rfl _ _ _ _ n rfl rfl rfl rfl (by omega) (by omega) ?_)
  go_loopw [4] (fun i wr => ∃ k : Nat, k ≤ n ∧ i = .int .i64 k ∧ wr = w.alloc (.cells (Row.cpTo (fun j => .int .u64 (f j)) n (.int .u64 0) k) 25)) (fun i _ => n - (intOf i).toNat)
  case atStart => exact ⟨0, Nat.zero_le _, rfl, rfl⟩
  case round =>
    obtain ⟨k, hk, rfl, rfl⟩ := hrel
    by_cases hlt : k < n
    · have cm := HC.out k hlt
      have hb : b < w.heap.size := World.block_lt_of_cell? _ _ cm
      have sz := Row.cpTo_size (fun j => Value.int .u64 (f j)) n (.int .u64 0) k
      have cw := Row.cpTo_get (fun j => Value.int .u64 (f j)) n (.int .u64 0) k k hlt
      go_wp2
      go_roundw
      case rel => exact ⟨k + 1, by omega, by go_num, rfl⟩
      case measure => simp [intOf]; omega
    · have : k = n := by omega
      subst this
      go_wp2
      go_ret
      exact ⟨rfl, rfl⟩
theorem bytes9_ok (a : Option Addr) (n c : Nat) (x y : Int) (w : World) (h : n ≤ 1048576) :
    Calls Try.prog 9 #[.slice a n c, .int .i64 x, .int .i64 y] w fun e w' => e = .returned (.bool true) ∧ w' = w := by
  go_enter Try.func9, Try.ntmps9
  go_wp2
  go_ret
  exact ⟨rfl, rfl⟩
theorem bytes9_no (a : Option Addr) (n c : Nat) (x y : Int) (w : World) (h : 1048576 < n) :
    Calls Try.prog 9 #[.slice a n c, .int .i64 x, .int .i64 y] w fun e w' => e = .returned (.bool false) ∧ w' = w := by
  go_enter Try.func9, Try.ntmps9
  go_wp2
  go_ret
  exact ⟨rfl, rfl⟩

theorem run11_out (p : Option Addr) (n c : Nat) (cx cy : Int) (w : World) (h : cx < 0 ∨ 2097151 < cx ∨ 2097151 < cy) :
    Calls Try.prog 11 #[.slice p n c, .int .i64 cx, .int .i64 cy] w fun e w' => e = .returned (.tuple #[.int .i64 0, .int .i64 0]) ∧ w' = w := by
  have H := run20_out p n c cx cy w h
  clear h
  go_enter Try.func11, Try.ntmps11
  go_wp2_with (go_at_call 20; refine H.mono ?_; rintro e w' ⟨rfl, rfl⟩)
  go_ret2
  exact ⟨rfl, rfl⟩
theorem run11_none (p : Option Addr) (cx cy : Int) (w : World) (h0 : 0 ≤ cx) (h1 : cx ≤ 2097151) (h2 : 0 ≤ cy) (h3 : cy ≤ 2097151) (hp : p = none ∨ ∃ b, p = some ⟨b, 0, none⟩) :
    Calls Try.prog 11 #[.slice p 0 0, .int .i64 cx, .int .i64 cy] w fun e w' => e = .returned (.tuple #[.int .i64 0, .int .i64 0]) ∧ ∃ q, w' = w.drewN q := by
  have H := run20_none p cx cy w h0 h1 h2 h3 hp
  clear hp
  go_enter Try.func11, Try.ntmps11
  go_wp2_with (go_at_call 20; refine H.mono ?_; rintro e w' ⟨rfl, q, rfl⟩)
  go_ret2
  exact ⟨rfl, q, rfl⟩
theorem run11 (b n : Nat) (f : Nat → Int) (cx cy : Int) (w : World) (hn : n ≤ 131072) (h0 : 0 ≤ cx) (h1 : cx ≤ 2097151) (h2 : 0 ≤ cy) (h3 : cy ≤ 2097151)
    (hc : ∀ j, j < n → w.cell? ⟨b, 0 + j, none⟩ = some (.int .u64 (f j))) (hz : ∀ j, j < n → 0 ≤ f j ∧ f j < 18446744073709551616) (hs : ∀ i j, i ≤ j → j < n → f i ≤ f j) :
    Calls Try.prog 11 #[.slice (some ⟨b, 0, none⟩) n n, .int .i64 cx, .int .i64 cy] w fun e w' => ∃ m d : Nat, m + d ≤ n ∧ (∀ j, j < m → f j / 1048576 < cy * 2097152 + cx) ∧ (∀ j, m ≤ j → j < m + d → f j / 1048576 = cy * 2097152 + cx) ∧ (∀ j, m + d ≤ j → j < n → cy * 2097152 + cx < f j / 1048576)
      ∧ e = .returned (.tuple #[.int .i64 m, .int .i64 (m + d)]) ∧ ∃ q, w' = w.drewN q := by
  have H := run20 b n f cx cy w hn h0 h1 h2 h3 hc hz hs
  clear hc hz hs
  go_enter Try.func11, Try.ntmps11
  go_wp2_with fail
  refine H.mono ?_
  rintro e w' ⟨m, t, a1, a2, a3, a4, a5, rfl, q, rfl⟩
  have A : Hid ((∀ j, j < m → f j / 1048576 < cy * 2097152 + cx) ∧ (∀ j, m ≤ j → j < t → f j / 1048576 = cy * 2097152 + cx) ∧ (∀ j, t ≤ j → j < n → cy * 2097152 + cx < f j / 1048576)) := ⟨a3, a4, a5⟩
  clear a3 a4 a5
  obtain ⟨d, rfl⟩ : ∃ d, t = m + d := ⟨t - m, by omega⟩
  go_wp2
  go_ret2
  exact ⟨m, d, a2, A.out.1, A.out.2.1, A.out.2.2, by simp, q, rfl⟩

end Go.Proofs.Qxb6600854a.Cell
