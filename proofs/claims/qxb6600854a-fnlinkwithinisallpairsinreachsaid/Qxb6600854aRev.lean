import Derived.Test.Qxb6600854aIns
namespace Go.Proofs.Qxb6600854a.Sr
open Go.ChangeShapes Go.WideShapes Go.ChangeAt Go.RowKit Go.Sort

set_option maxHeartbeats 4000000 in
set_option maxRecDepth 100000 in
theorem rev36 (blk off n c a b : Nat) (d : Array Int) (w : World) (hn : n ≤ 131072) (hab : a < b) (hb : b ≤ n) (hH : Holds (Value.int .u64) w blk off d) (hs : d.size = n) :
    Calls Try.prog 36 #[.slice (some ⟨blk, off, none⟩) n c, .int .i64 a, .int .i64 b] w fun e w' => e = .returned (.tuple #[]) ∧ ∃ d' : Array Int, PermIn a b d d' ∧ SW w w' blk off n d' := by
  have W0 : Hid (SW w w blk off n d) := SW.start hH hs
  clear hH
  go_enter Try.func36, Try.ntmps36
  go_wp2_with fail
  go_loopg [6, 7] n (fun g vi vj wr => ∃ (i j : Nat) (dk : Array Int), vi = .int .i64 i ∧ vj = .int .i64 j ∧ a ≤ i ∧ j < b ∧ j ≤ g ∧ Hid (PermIn a b d dk) ∧ Hid (SW w wr blk off n dk))
  case atStart => exact ⟨a, b - 1, d, rfl, by go_num, by omega, by omega, by omega, permIn_refl _ _ _, W0⟩
  case round =>
    clear W0
    obtain ⟨i, j, dk, rfl, rfl, ai, jb, hg, hp, Wc⟩ := hrel
    by_cases hij : i < j
    · have PQ : Hid (PermIn a b d (swp dk i j)) := perm_swp hp.out i j (by omega) (by omega) (by omega) (by omega) (by omega)
      have bI : i < n := by omega
      have bJ : j < n := by omega
      have c1 := Wc.out.cell bI
      have c2 := Wc.out.cell bJ
      have f1 := Wc.out.open_ bI
      have f2 := Wc.out.open_ bJ
      generalize hx : dk[i]! = x at c1
      generalize hy : dk[j]! = y at c2
      have W2 : Hid (SW w ((wr.setCell ⟨blk, off + i, none⟩ (.int .u64 y)).setCell ⟨blk, off + j, none⟩ (.int .u64 x)) blk off n (swp dk i j)) := Wc.out.swap bI bJ hy hx
      clear hx hy Wc
      generalize swp dk i j = d2 at *
      go_wp2_with fail
      go_region
      all_goals
        have W4 : Hid _ := W2.out.drew
        clear W2 c1 c2 f1 f2
        generalize World.drew _ = w5 at W4
        go_wp2_with fail
        go_roundg (j - 1)
        case measure => omega
        case rel => exact ⟨i + 1, j - 1, d2, by go_num, by go_num, by omega, by omega, by omega, PQ, W4⟩
    · go_wp2_with fail
      go_end0
      exact ⟨rfl, dk, hp.out, Wc.out⟩
end Go.Proofs.Qxb6600854a.Sr
