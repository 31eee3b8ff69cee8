import Derived.Test.Qxb6600854aSn
/-! The law, where it stands aside; and the law of no points. -/
namespace Go.Proofs.Qxb6600854a.Lk
open Go.ChangeShapes Go.WideShapes Go.ChangeAt Go.RowKit Go.Sort Go.Proofs.Qxb6600854a.Lw Go.Proofs.Qxb6600854a.Sr

/-- What the law leaves: true, and all that was there stands. -/
def Good (w : World) (e : Ending) (w' : World) : Prop := e = .returned (.bool true) ∧ Below w.heap.size w w'

set_option maxHeartbeats 8000000 in
set_option maxRecDepth 100000 in
theorem law7_bytes (a b : Option Addr) (n c n' c' sd rc : Nat) (w : World) (h : 1048576 < n + n') : Calls Try.prog 7 #[.slice a n c, .slice b n' c', .float .f64 sd, .float .f64 rc] w (Good w) := by
  have H := bytes14_no a b n c n' c' sd rc w h
  clear h
  go_enter Try.func7, Try.ntmps7
  go_wp2_with fail
  refine H.mono ?_
  rintro e w' ⟨rfl, rfl⟩
  go_wp2_with fail
  go_ret
  exact ⟨rfl, Below.refl _ _⟩

set_option maxHeartbeats 8000000 in
set_option maxRecDepth 100000 in
theorem law7_long (a b : Option Addr) (n c n' c' sd rc : Nat) (w : World) (h : n + n' ≤ 1048576) (h2 : 1024 < n ∨ 1024 < n') : Calls Try.prog 7 #[.slice a n c, .slice b n' c', .float .f64 sd, .float .f64 rc] w (Good w) := by
  have H := bytes14_ok a b n c n' c' sd rc w h
  by_cases h3 : 1024 < n
  · clear h2
    go_enter Try.func7, Try.ntmps7
    go_wp2_with fail
    refine H.mono ?_
    rintro e w' ⟨rfl, rfl⟩
    go_wp2_with fail
    go_ret
    exact ⟨rfl, Below.refl _ _⟩
  · have h4 : 1024 < n' := by omega
    clear h2
    go_enter Try.func7, Try.ntmps7
    go_wp2_with fail
    refine H.mono ?_
    rintro e w' ⟨rfl, rfl⟩
    go_wp2_with fail
    go_ret
    exact ⟨rfl, Below.refl _ _⟩

set_option maxHeartbeats 8000000 in
set_option maxRecDepth 100000 in
theorem law7_uneven (a b : Option Addr) (n c n' c' sd rc : Nat) (w : World) (h1 : n ≤ 1024) (h2 : n' ≤ 1024) (h3 : n ≠ n') : Calls Try.prog 7 #[.slice a n c, .slice b n' c', .float .f64 sd, .float .f64 rc] w (Good w) := by
  have H := bytes14_ok a b n c n' c' sd rc w (by omega)
  have t : ((n : Int) != (n' : Int)) = true := by simp; omega
  go_enter Try.func7, Try.ntmps7
  go_wp2_with fail
  refine H.mono ?_
  rintro e w' ⟨rfl, rfl⟩
  go_wp2_with fail
  go_ret
  exact ⟨rfl, Below.refl _ _⟩

set_option maxHeartbeats 8000000 in
set_option maxRecDepth 100000 in
theorem law7_floats (a b : Option Addr) (n c c' sd rc : Nat) (w : World) (h1 : n ≤ 1024) (h : ¬ (Fl.ge64 sd 3110860544497550640 = true ∧ Fl.le64 sd 6103021453049119613 = true ∧ Fl.ge64 rc 0 = true ∧ Fl.le64 rc 6103021453049119613 = true)) : Calls Try.prog 7 #[.slice a n c, .slice b n c', .float .f64 sd, .float .f64 rc] w (Good w) := by
  have H := bytes14_ok a b n c n c' sd rc w (by omega)
  have t : ((n : Int) != (n : Int)) = false := by simp
  cases k1 : Fl.ge64 sd 3110860544497550640 with
  | false =>
    have g1 : (FloatKind.f64.format.order sd 3110860544497550640 == some .gt || FloatKind.f64.format.order sd 3110860544497550640 == some .eq) = false := k1
    clear h k1
    go_enter Try.func7, Try.ntmps7
    go_wp2_with fail
    refine H.mono ?_
    rintro e w' ⟨rfl, rfl⟩
    go_wp2_with fail
    go_ret
    exact ⟨rfl, Below.refl _ _⟩
  | true =>
    have g1 : (FloatKind.f64.format.order sd 3110860544497550640 == some .gt || FloatKind.f64.format.order sd 3110860544497550640 == some .eq) = true := k1
    cases k2 : Fl.le64 sd 6103021453049119613 with
    | false =>
      have g2 : (FloatKind.f64.format.order sd 6103021453049119613 == some .lt || FloatKind.f64.format.order sd 6103021453049119613 == some .eq) = false := k2
      clear h k1 k2
      go_enter Try.func7, Try.ntmps7
      go_wp2_with fail
      refine H.mono ?_
      rintro e w' ⟨rfl, rfl⟩
      go_wp2_with fail
      go_ret
      exact ⟨rfl, Below.refl _ _⟩
    | true =>
      have g2 : (FloatKind.f64.format.order sd 6103021453049119613 == some .lt || FloatKind.f64.format.order sd 6103021453049119613 == some .eq) = true := k2
      cases k3 : Fl.ge64 rc 0 with
      | false =>
        have g3 : (FloatKind.f64.format.order rc 0 == some .gt || FloatKind.f64.format.order rc 0 == some .eq) = false := k3
        clear h k1 k2 k3
        go_enter Try.func7, Try.ntmps7
        go_wp2_with fail
        refine H.mono ?_
        rintro e w' ⟨rfl, rfl⟩
        go_wp2_with fail
        go_ret
        exact ⟨rfl, Below.refl _ _⟩
      | true =>
        have g3 : (FloatKind.f64.format.order rc 0 == some .gt || FloatKind.f64.format.order rc 0 == some .eq) = true := k3
        cases k4 : Fl.le64 rc 6103021453049119613 with
        | false =>
          have g4 : (FloatKind.f64.format.order rc 6103021453049119613 == some .lt || FloatKind.f64.format.order rc 6103021453049119613 == some .eq) = false := k4
          clear h k1 k2 k3 k4
          go_enter Try.func7, Try.ntmps7
          go_wp2_with fail
          refine H.mono ?_
          rintro e w' ⟨rfl, rfl⟩
          go_wp2_with fail
          go_ret
          exact ⟨rfl, Below.refl _ _⟩
        | true => exact absurd ⟨k1, k2, k3, k4⟩ h

/-- A slice of no floats: its copy. -/
theorem copy15_zero (p : Option Addr) (c : Nat) (hp : p = none → c = 0) (w : World) : Calls Try.prog 15 #[.slice p 0 c] w fun e w' => ∃ p', e = .returned (.slice p' 0 0) ∧ Below w.heap.size w w' := by
  cases p with
  | none => rw [hp rfl]; exact copy15_nil w
  | some x => exact copy15_empty x c w

set_option maxHeartbeats 8000000 in
set_option maxRecDepth 100000 in
theorem law7_none (a b : Option Addr) (c c' sd rc : Nat) (w : World) (ha : a = none → c = 0) (hb : b = none → c' = 0) (k1 : Fl.ge64 sd 3110860544497550640 = true) (k2 : Fl.le64 sd 6103021453049119613 = true) (k3 : Fl.ge64 rc 0 = true) (k4 : Fl.le64 rc 6103021453049119613 = true) : Calls Try.prog 7 #[.slice a 0 c, .slice b 0 c', .float .f64 sd, .float .f64 rc] w (Good w) := by
  have H := bytes14_ok a b 0 c 0 c' sd rc w (by omega)
  obtain ⟨c1, c2, cw, nw, cx, cy, P⟩ := pln_of (n := 0) (X := fun _ => 0) (Y := fun _ => 0) k1 k2 k3 k4 (fun j hj => absurd hj (Nat.not_lt_zero _))
  have HP : Hid (Pln 0 (fun _ => 0) (fun _ => 0) sd rc c1 c2 cw nw cx cy) := P
  have HA : Hid (a = none → c = 0) := ha
  have HB : Hid (b = none → c' = 0) := hb
  have r4 := run_mul _ _ _ P.m3
  have g1 : (FloatKind.f64.format.order sd 3110860544497550640 == some .gt || FloatKind.f64.format.order sd 3110860544497550640 == some .eq) = true := k1
  have g2 : (FloatKind.f64.format.order sd 6103021453049119613 == some .lt || FloatKind.f64.format.order sd 6103021453049119613 == some .eq) = true := k2
  have g3 : (FloatKind.f64.format.order rc 0 == some .gt || FloatKind.f64.format.order rc 0 == some .eq) = true := k3
  have g4 : (FloatKind.f64.format.order rc 6103021453049119613 == some .lt || FloatKind.f64.format.order rc 6103021453049119613 == some .eq) = true := k4
  clear P ha hb k1 k2 k3 k4
  go_enter Try.func7, Try.ntmps7
  go_wp2_with fail
  refine H.mono ?_
  rintro e w' ⟨rfl, rfl⟩
  clear H
  go_wp2_with fail
  refine (copy15_zero a c HA.out _).mono ?_
  rintro e w1 ⟨p1, rfl, h1⟩
  have B1 : Hid (Below w'.heap.size w' w1) := h1
  clear h1
  go_wp2_with fail
  refine (copy15_zero b c' HB.out _).mono ?_
  rintro e w2 ⟨p2, rfl, h2⟩
  have B2 : Hid (Below w'.heap.size w' w2) := B1.out.trans (h2.mono B1.out.size)
  clear h2 B1
  go_wp2_with fail
  refine (square16_zero p1 p2 0 0 sd _).mono ?_
  rintro e w3 ⟨rfl, rfl⟩
  go_wp2_with fail
  refine (zz17_zero p1 p2 0 0 sd rc c1 c2 cw nw _ HP.out.m1 HP.out.m2 HP.out.pick HP.out.m3).mono ?_
  rintro e w4 ⟨rfl, h4⟩
  have B4 : Hid (Below w'.heap.size w' w4) := B2.out.trans (h4.mono B2.out.size)
  clear h4 B2
  go_wp2_with (at_make; refine Row.wpList_make_row _ rfl _ _ 39 rfl 4 (.bool false) 1 Try.underlying39 Try.info4 rfl _ _ _ _ 0 rfl rfl rfl rfl (by omega) (by omega) ?_)
  have B5 : Hid (Below w'.heap.size w' (w4.alloc (.cells #[] 4))) := B4.out.alloc B4.out.size _
  generalize (w4.alloc (.cells #[] 4)) = w5 at *
  go_loopg [13] 1 (fun g v13 wr => v13 = .int .i64 0 ∧ wr = w5)
  case atStart => exact ⟨rfl, rfl⟩
  case round =>
    obtain ⟨rfl, rfl⟩ := hrel
    go_wp2_with fail
    go_loopg [17] 1 (fun g v17 wx => v17 = .int .i64 0 ∧ wx = wr)
    case atStart => exact ⟨rfl, rfl⟩
    case round =>
      obtain ⟨rfl, rfl⟩ := hrel
      go_wp2_with fail
      go_ret
      exact ⟨rfl, B5.out⟩
end Go.Proofs.Qxb6600854a.Lk
