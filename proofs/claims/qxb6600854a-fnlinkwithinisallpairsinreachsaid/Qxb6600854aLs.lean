import Derived.Test.Qxb6600854aLq
/-! 'pointsInSquare'; 'linkWithin' of no points. -/
namespace Go.Proofs.Qxb6600854a.Lk
open Go.ChangeShapes Go.WideShapes Go.ChangeAt Go.RowKit Go.Sort Go.Proofs.Qxb6600854a.Lw Go.Proofs.Qxb6600854a.Sr

def In (x sd : Nat) : Prop := Fl.ge64 x 0 = true ∧ Fl.le64 x sd = true

theorem square16_zero (px py : Option Addr) (ca cb sd : Nat) (w : World) :
    Calls Try.prog 16 #[.slice px 0 ca, .slice py 0 cb, .float .f64 sd] w fun e w' => e = .returned (.bool true) ∧ w' = w := by
  go_enter Try.func16, Try.ntmps16
  go_wp2
  go_loop [7] (fun i => i = .int .i64 0) (fun _ => 0)
  case atStart => rfl
  case round =>
    obtain rfl := hrel
    go_wp2
    go_ret
    exact ⟨rfl, rfl⟩

theorem square16 (bx ox ca bY oY cb n sd : Nat) (X Y : Nat → Nat) (w : World) (n1 : n ≤ 1024) (hX : ∀ j, j < n → w.cell? ⟨bx, ox + j, none⟩ = some (.float .f64 (X j))) (hY : ∀ j, j < n → w.cell? ⟨bY, oY + j, none⟩ = some (.float .f64 (Y j))) :
    Calls Try.prog 16 #[.slice (some ⟨bx, ox, none⟩) n ca, .slice (some ⟨bY, oY, none⟩) n cb, .float .f64 sd] w fun e w' => (e = .returned (.bool true) ∧ (w' = w ∧ ∀ j, j < n → In (X j) sd ∧ In (Y j) sd)) ∨ (e = .returned (.bool false) ∧ w' = w) := by
  have HX : Hid (∀ j, j < n → w.cell? ⟨bx, ox + j, none⟩ = some (.float .f64 (X j))) := hX
  have HY : Hid (∀ j, j < n → w.cell? ⟨bY, oY + j, none⟩ = some (.float .f64 (Y j))) := hY
  clear hX hY
  go_enter Try.func16, Try.ntmps16
  go_wp2
  go_loopg [7] n (fun g v7 wr => ∃ k : Nat, v7 = .int .i64 k ∧ k ≤ n ∧ n - k ≤ g ∧ wr = w ∧ Hid (∀ j, j < k → In (X j) sd ∧ In (Y j) sd))
  case atStart => exact ⟨0, rfl, by omega, by omega, rfl, fun j hj => absurd hj (Nat.not_lt_zero _)⟩
  case round =>
    obtain ⟨k, rfl, kn, hg, rfl, hI⟩ := hrel
    by_cases hlt : k < n
    · have cX := HX.out k hlt
      have cY := HY.out k hlt
      have i1 : (k : Int) < (n : Int) := by omega
      generalize hx : X k = x at cX
      generalize hy : Y k = y at cY
      have EX : Hid (X k = x) := hx
      have EY : Hid (Y k = y) := hy
      clear hx hy
      cases h1 : Fl.ge64 x 0 with
      | false =>
        have g1 : (FloatKind.f64.format.order x 0 == some .gt || FloatKind.f64.format.order x 0 == some .eq) = false := h1
        clear h1
        go_wp2
        go_ret
        exact .inr ⟨rfl, rfl⟩
      | true =>
        have g1 : (FloatKind.f64.format.order x 0 == some .gt || FloatKind.f64.format.order x 0 == some .eq) = true := h1
        cases h2 : Fl.le64 x sd with
        | false =>
          have g2 : (FloatKind.f64.format.order x sd == some .lt || FloatKind.f64.format.order x sd == some .eq) = false := h2
          clear h1 h2
          go_wp2
          go_ret
          exact .inr ⟨rfl, rfl⟩
        | true =>
          have g2 : (FloatKind.f64.format.order x sd == some .lt || FloatKind.f64.format.order x sd == some .eq) = true := h2
          cases h3 : Fl.ge64 y 0 with
          | false =>
            have g3 : (FloatKind.f64.format.order y 0 == some .gt || FloatKind.f64.format.order y 0 == some .eq) = false := h3
            clear h1 h2 h3
            go_wp2
            go_ret
            exact .inr ⟨rfl, rfl⟩
          | true =>
            have g3 : (FloatKind.f64.format.order y 0 == some .gt || FloatKind.f64.format.order y 0 == some .eq) = true := h3
            cases h4 : Fl.le64 y sd with
            | false =>
              have g4 : (FloatKind.f64.format.order y sd == some .lt || FloatKind.f64.format.order y sd == some .eq) = false := h4
              clear h1 h2 h3 h4
              go_wp2
              go_ret
              exact .inr ⟨rfl, rfl⟩
            | true =>
              have g4 : (FloatKind.f64.format.order y sd == some .lt || FloatKind.f64.format.order y sd == some .eq) = true := h4
              have H4 : Hid (In x sd ∧ In y sd) := ⟨⟨h1, h2⟩, h3, h4⟩
              clear h1 h2 h3 h4
              go_wp2
              go_roundg (n - (k + 1))
              case measure => omega
              case rel =>
                refine ⟨k + 1, by go_num, by omega, by omega, rfl, fun j hj => ?_⟩
                by_cases e : j = k
                · subst e; rw [EX.out, EY.out]; exact H4.out
                · exact hI.out j (by omega)
    · obtain rfl : n = k := by omega
      go_wp2
      go_ret
      exact .inl ⟨rfl, rfl, hI.out⟩

set_option maxHeartbeats 8000000 in
set_option maxRecDepth 100000 in
theorem link22_zero (px py : Option Addr) (ca cb sd rc c1 c2 cw nw : Nat) (w : World) (m1 : Ieee.double.mul rc 4607182418804521008 = some c1) (m2 : Ieee.double.div sd 4697254411347427328 = some c2) (pick : Fl.Pick c1 c2 cw) (m3 : Ieee.double.mul rc rc = some nw) :
    Calls Try.prog 22 #[.slice px 0 ca, .slice py 0 cb, .float .f64 sd, .float .f64 rc] w fun e w' => e = .returned (.tuple #[.slice none 0 0, .bool true]) ∧ Below w.heap.size w w' := by
  have r1 := run_mul _ _ _ m1
  have r2 := run_quo _ _ _ m2
  have r3 := run_max _ _ _ pick
  have r4 := run_mul _ _ _ m3
  clear m1 m2 pick m3
  go_enter Try.func22, Try.ntmps22
  go_wp2_with (at_make; refine Row.wpList_make_row _ rfl _ _ 22 rfl 25 (.int .u64 0) 8 Try.underlying22 Try.info25 rfl _ _ _ _ 0 rfl rfl rfl rfl (by omega) (by omega) ?_)
  go_loopg [41] 1 (fun g v41 wr => v41 = .int .i64 0 ∧ wr = w.alloc (.cells #[] 25))
  case atStart => exact ⟨rfl, rfl⟩
  case round =>
    obtain ⟨rfl, rfl⟩ := hrel
    go_wp2_with fail
    refine (sort26 w.heap.size 0 0 0 #[] _ (by omega) (fun j hj => absurd hj (Nat.not_lt_zero _)) rfl).mono ?_
    rintro e w2 ⟨rfl, d2, hP, hA, hS⟩
    have HB : Hid (Below w.heap.size w w2) := ((Below.refl _ _).alloc (Nat.le_refl _) _).trans (hS.fr.below (by rw [World.size_alloc]; omega) (fun k hk e => by omega))
    clear hP hA hS
    go_wp2_with fail
    go_loopg [8, 14] 1 (fun g v8 v14 wr => v8 = .slice none 0 0 ∧ v14 = .int .i64 0 ∧ wr = w2)
    case atStart => exact ⟨rfl, rfl, rfl⟩
    case round =>
      obtain ⟨rfl, rfl, rfl⟩ := hrel
      go_wp2_with fail
      go_ret2
      exact ⟨rfl, HB.out⟩
end Go.Proofs.Qxb6600854a.Lk
