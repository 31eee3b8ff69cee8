import Derived.Test.Qxb6600854aCell
import Derived.Test.Qxb6600854aFr
import Derived.Test.Qxb6600854aSrtPlain
import Derived.RegionTactic
import Derived.Deep.QuietTactic
import Derived.BigQuiet
import Derived.BigRegion
import Derived.Deep.LoopGhost
import Derived.Deep.DeepCutAuto
namespace Go.Proofs.Qxb6600854a.Sr
open Go.ChangeShapes Go.WideShapes Go.ChangeAt Go.RowKit Go.Sort

/-- The row of keys as it stands; nothing else has been turned. -/
structure SW (w wr : World) (blk off n : Nat) (d : Array Int) : Prop where
  row : Holds (Value.int .u64) wr blk off d
  size : d.size = n
  fr : Row.Fr (· = blk) w wr

theorem SW.start {w : World} {blk off n : Nat} {d : Array Int} (h : Holds (Value.int .u64) w blk off d) (hs : d.size = n) : SW w w blk off n d := ⟨h, hs, Row.Fr.refl _ _⟩
theorem SW.drew {w wr : World} {blk off n : Nat} {d : Array Int} (h : SW w wr blk off n d) : SW w wr.drew blk off n d := ⟨h.row, h.size, h.fr.drew⟩
theorem SW.drewN {w wr : World} {blk off n : Nat} {d : Array Int} (h : SW w wr blk off n d) (q : Nat) : SW w (wr.drewN q) blk off n d := ⟨h.row, h.size, h.fr.drewN q⟩
theorem SW.cell {w wr : World} {blk off n : Nat} {d : Array Int} (h : SW w wr blk off n d) {i : Nat} (hi : i < n) : wr.cell? ⟨blk, off + i, none⟩ = some (.int .u64 d[i]!) := (h.row i (by rw [h.size]; exact hi)).1
theorem SW.open_ {w wr : World} {blk off n : Nat} {d : Array Int} (h : SW w wr blk off n d) {i : Nat} (hi : i < n) : wr.frozen? ⟨blk, off + i, none⟩ = false := (h.row i (by rw [h.size]; exact hi)).2
theorem SW.swap {w wr : World} {blk off n : Nat} {d : Array Int} (h : SW w wr blk off n d) {i j : Nat} (hi : i < n) (hj : j < n) {x y : Int} (hx : d[j]! = x) (hy : d[i]! = y) :
    SW w ((wr.setCell ⟨blk, off + i, none⟩ (.int .u64 x)).setCell ⟨blk, off + j, none⟩ (.int .u64 y)) blk off n (swp d i j) := by
  subst hx hy
  exact ⟨Row.holds_set (enc := Value.int .u64) (Row.holds_set (enc := Value.int .u64) h.row (by rw [h.size]; exact hi) _) (by rw [Array.size_setIfInBounds, h.size]; exact hj) _, by rw [size_swp]; exact h.size, (h.fr.setCell (.inl rfl) _).setCell (.inl rfl) _⟩
theorem SW.trans {w w1 wr : World} {blk off n : Nat} {d d1 : Array Int} (h : SW w w1 blk off n d1) (k : SW w1 wr blk off n d) : SW w wr blk off n d := ⟨k.row, k.size, h.fr.trans k.fr⟩

theorem swp_comm (d : Array Int) (i j : Nat) : swp d i j = swp d j i := by
  unfold swp
  by_cases e : i = j
  · rw [e]
  · rw [Array.setIfInBounds_comm _ _ (by omega)]

set_option maxHeartbeats 4000000 in
set_option maxRecDepth 100000 in
theorem ins32 (blk off n c a b : Nat) (d : Array Int) (w : World) (hn : n ≤ 131072) (hb : b ≤ n) (ha : a ≤ n) (hH : Holds (Value.int .u64) w blk off d) (hs : d.size = n) :
    Calls Try.prog 32 #[.slice (some ⟨blk, off, none⟩) n c, .int .i64 a, .int .i64 b] w fun e w' => e = .returned (.tuple #[]) ∧ ∃ d' : Array Int, PermIn a b d d' ∧ Asc d' a b ∧ SW w w' blk off n d' := by
  have W0 : Hid (SW w w blk off n d) := SW.start hH hs
  clear hH
  go_enter Try.func32, Try.ntmps32
  go_wp2_with fail
  go_loopg [6] n (fun g vi wr => ∃ (i : Nat) (dk : Array Int), vi = .int .i64 i ∧ a < i ∧ (i ≤ b ∨ i = a + 1) ∧ n - i ≤ g ∧ Hid (PermIn a b d dk) ∧ Hid (Asc dk a i) ∧ Hid (SW w wr blk off n dk))
  case atStart => exact ⟨a + 1, d, by go_num, by omega, .inr rfl, by omega, permIn_refl _ _ _, Asc_one _ _, W0⟩
  case round =>
    clear W0
    obtain ⟨i, dk, rfl, ai, ib, hg, hp, hasc, hW⟩ := hrel
    by_cases hlt : i < b
    · go_wp2_with fail
      go_loopg [7] n (fun g vj wr => ∃ (j : Nat) (dj : Array Int), vj = .int .i64 j ∧ a ≤ j ∧ j ≤ i ∧ j ≤ g ∧ Hid (PermIn a b d dj) ∧ Hid (Sink dj a i j) ∧ Hid (SW w wr blk off n dj))
      case atStart => exact ⟨i, dk, rfl, by omega, Nat.le_refl _, by omega, hp, Sink_start hasc.out, hW⟩
      case round =>
        clear hW hp hasc
        obtain ⟨j, dj, rfl, aj, ji, hg2, hp, hsk, hW⟩ := hrel
        by_cases haj : a < j
        · obtain ⟨k, hk⟩ : ∃ k, k + 1 = j := ⟨j - 1, by omega⟩
          have ek : (j : Int) - 1 = (k : Int) := by omega
          have HK : Hid (j - 1 = k) := by show j - 1 = k; omega
          have c1 := hW.out.cell (i := j) (by omega)
          have c2 := hW.out.cell (i := k) (by omega)
          have f1 := hW.out.open_ (i := j) (by omega)
          have f2 := hW.out.open_ (i := k) (by omega)
          generalize hx : dj[j]! = x at c1
          generalize hy : dj[k]! = y at c2
          have HX : Hid (dj[j]! = x) := hx
          have HY : Hid (dj[k]! = y) := hy
          clear hx hy
          have j0 : (a : Int) < (j : Int) := by omega
          have g1 : decide ((a : Int) < (j : Int)) = true := by simp; omega
          by_cases hxy : x < y
          · have t : decide (x < y) = true := by simp [hxy]
            have HT : Hid (x < y) := hxy
            clear hxy
            have SK : Hid (Sink (swp dj j k) a i k) := by
              have := Sink_step hsk.out (by rw [hW.out.size]; omega) ji haj (by rw [HK.out, HX.out, HY.out]; exact HT.out)
              rwa [HK.out] at this
            have HPJ : Hid (PermIn a b d (swp dj j k)) := perm_swp hp.out j k (by omega) (by omega) (by omega) (by omega) (by omega)
            go_wp2_with fail
            go_quiet ((go_at_call 27; exact Calls.quiet_of_same (Cell.less27 _ _ _)))
            go_wp2_with fail
            generalize hq : wr.drewN nq = wq
            have W3 : Hid (SW w wq blk off n dj) := by rw [← hq]; exact hW.out.drewN nq
            clear c1 c2 f1 f2 hq t g1
            have c1 := W3.out.cell (i := j) (by omega)
            have c2 := W3.out.cell (i := k) (by omega)
            rw [HX.out] at c1
            rw [HY.out] at c2
            have f1 := W3.out.open_ (i := j) (by omega)
            have f2 := W3.out.open_ (i := k) (by omega)
            have W2 : Hid (SW w ((wq.setCell ⟨blk, off + j, none⟩ (.int .u64 y)).setCell ⟨blk, off + k, none⟩ (.int .u64 x)) blk off n (swp dj j k)) := W3.out.swap (by omega) (by omega) HY.out HX.out
            go_region
            all_goals
              go_wp2
              go_roundg k
              case measure => omega
              case rel => exact ⟨k, swp dj j k, rfl, by omega, by omega, by omega, HPJ, SK, W2.out.drew⟩
          · have t : decide (x < y) = false := by simpa using hxy
            have AS : Hid (Asc dj a (i + 1)) := Sink_stop hsk.out ji (.inr (by rw [HK.out, HX.out, HY.out]; exact hxy))
            clear hxy
            go_wp2_with fail
            go_quiet ((go_at_call 27; exact Calls.quiet_of_same (Cell.less27 _ _ _)))
            go_wp2_with fail
            go_roundg (n - (i + 1))
            case measure => omega
            case rel => exact ⟨i + 1, dj, by go_num, by omega, by omega, by omega, hp, AS, hW.out.drewN nq⟩
        · have AS : Hid (Asc dj a (i + 1)) := Sink_stop hsk.out ji (.inl (by omega))
          have g1 : decide ((a : Int) < (j : Int)) = false := by simp; omega
          go_wp2_with fail
          go_quiet (fail)
          go_wp2_with fail
          go_roundg (n - (i + 1))
          case measure => omega
          case rel => exact ⟨i + 1, dj, by go_num, by omega, by omega, by omega, hp, AS, hW.out.drewN nq⟩
    · go_wp2_with fail
      go_end0
      exact ⟨rfl, dk, hp.out, fun s t h1 h2 h3 => hasc.out s t h1 h2 (by omega), hW.out⟩
end Go.Proofs.Qxb6600854a.Sr
