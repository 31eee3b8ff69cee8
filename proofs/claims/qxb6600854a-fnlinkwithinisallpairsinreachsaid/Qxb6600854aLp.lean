import Derived.Test.Qxb6600854aLs
import Derived.Test.Qxb6600854aPairs2
import Derived.Deep.Slices
/-! What the law's comparisons of floats give: cells, and which pairs are out of reach. Plain: no walk. -/
namespace Go.Proofs.Qxb6600854a.Lk
open Go.Proofs.Qxb6600854a.Lw

def d2 (x y x' y' : Nat) : Option Nat := (Fl.sq x x').bind fun p => (Fl.sq y y').bind fun q => Ieee.double.add p q
def farOf (X Y : Nat → Nat) (nw a b : Nat) : Bool :=
  match d2 (X a) (Y a) (X b) (Y b) with
  | some t => Ieee.double.order t nw == some .gt
  | none => false

structure Pln (n : Nat) (X Y : Nat → Nat) (sd rc c1 c2 cw nw : Nat) (cx cy : Nat → Nat) : Prop where
  m1 : Ieee.double.mul rc 4607182418804521008 = some c1
  m2 : Ieee.double.div sd 4697254411347427328 = some c2
  pick : Fl.Pick c1 c2 cw
  m3 : Ieee.double.mul rc rc = some nw
  dx : ∀ j, j < n → ∃ q, Ieee.double.div (X j) cw = some q ∧ (Ieee.double.read q).toInt .zero = some (cx j : Int)
  dy : ∀ j, j < n → ∃ q, Ieee.double.div (Y j) cw = some q ∧ (Ieee.double.read q).toInt .zero = some (cy j : Int)
  lx : ∀ j, j < n → cx j ≤ 1048576
  ly : ∀ j, j < n → cy j ≤ 1048576
  dist : ∀ a b, a < n → b < n → ∃ dx dy p q t, Ieee.double.sub (X a) (X b) = some dx ∧ Ieee.double.sub (Y a) (Y b) = some dy ∧ Ieee.double.mul dx dx = some p ∧ Ieee.double.mul dy dy = some q ∧ Ieee.double.add p q = some t ∧ (Ieee.double.order t nw == some .gt) = farOf X Y nw a b ∧ (Ieee.double.order t nw == some .lt || Ieee.double.order t nw == some .eq) = !farOf X Y nw a b
  sym : ∀ a b, a < n → b < n → farOf X Y nw a b = farOf X Y nw b a
  near : ∀ a b, a < n → b < n → farOf X Y nw a b = false → cx a ≤ cx b + 1 ∧ cx b ≤ cx a + 1 ∧ cy a ≤ cy b + 1 ∧ cy b ≤ cy a + 1

theorem pln_of {n sd rc : Nat} {X Y : Nat → Nat} (h1 : Fl.ge64 sd 3110860544497550640 = true) (h2 : Fl.le64 sd 6103021453049119613 = true) (h3 : Fl.ge64 rc 0 = true) (h4 : Fl.le64 rc 6103021453049119613 = true) (hin : ∀ j, j < n → In (X j) sd ∧ In (Y j) sd) :
    ∃ c1 c2 cw nw cx cy, Pln n X Y sd rc c1 c2 cw nw cx cy := by
  obtain ⟨S, R, E⟩ := Fl.env_of h1 h2 h3 h4
  obtain ⟨c1, c2, cw, nw, C1, C, N, m1, m2, pick, m3, G⟩ := Fl.cell_of E
  have px : ∀ j, j < n → ∃ z : Nat × Nat, Fl.Pt S C (X j) z.1 z.2 ∧ ∃ q, Ieee.double.div (X j) cw = some q ∧ (Ieee.double.read q).toInt .zero = some (z.2 : Int) := fun j hj => by
    obtain ⟨a, i, q, hp, e1, e2⟩ := Fl.pt_of E G (hin j hj).1.1 (hin j hj).1.2
    exact ⟨(a, i), hp, q, e1, e2⟩
  have py : ∀ j, j < n → ∃ z : Nat × Nat, Fl.Pt S C (Y j) z.1 z.2 ∧ ∃ q, Ieee.double.div (Y j) cw = some q ∧ (Ieee.double.read q).toInt .zero = some (z.2 : Int) := fun j hj => by
    obtain ⟨a, i, q, hp, e1, e2⟩ := Fl.pt_of E G (hin j hj).2.1 (hin j hj).2.2
    exact ⟨(a, i), hp, q, e1, e2⟩
  obtain ⟨fx, hx⟩ := Go.Deep.choose_lt px
  obtain ⟨fy, hy⟩ := Go.Deep.choose_lt py
  have dd : ∀ a b, a < n → b < n → ∃ dx dy p q t, Ieee.double.sub (X a) (X b) = some dx ∧ Ieee.double.sub (Y a) (Y b) = some dy ∧ Ieee.double.mul dx dx = some p ∧ Ieee.double.mul dy dy = some q ∧ Ieee.double.add p q = some t ∧ (Ieee.double.order t nw).isSome = true
      ∧ ((fx b).2 + 2 ≤ (fx a).2 ∨ (fx a).2 + 2 ≤ (fx b).2 ∨ (fy b).2 + 2 ≤ (fy a).2 ∨ (fy a).2 + 2 ≤ (fy b).2 → Ieee.double.order t nw = some .gt) := fun a b ha hb =>
    Fl.dist_of E G (hx a ha).1 (hy a ha).1 (hx b hb).1 (hy b hb).1
  have fv : ∀ a b, a < n → b < n → ∀ dx dy p q t, Ieee.double.sub (X a) (X b) = some dx → Ieee.double.sub (Y a) (Y b) = some dy → Ieee.double.mul dx dx = some p → Ieee.double.mul dy dy = some q → Ieee.double.add p q = some t → farOf X Y nw a b = (Ieee.double.order t nw == some .gt) := fun a b _ _ dx dy p q t e1 e2 e3 e4 e5 => by
    unfold farOf d2 Fl.sq
    rw [e1, e2]
    simp only [Option.bind_some, e3, e4, e5]
  refine ⟨c1, c2, cw, nw, fun j => (fx j).2, fun j => (fy j).2, m1, m2, pick, m3, fun j hj => (hx j hj).2, fun j hj => (hy j hj).2, fun j hj => (hx j hj).1.small, fun j hj => (hy j hj).1.small, fun a b ha hb => ?_, fun a b ha hb => ?_, fun a b ha hb hf => ?_⟩
  · obtain ⟨dx, dy, p, q, t, e1, e2, e3, e4, e5, e6, _⟩ := dd a b ha hb
    have f := fv a b ha hb dx dy p q t e1 e2 e3 e4 e5
    refine ⟨dx, dy, p, q, t, e1, e2, e3, e4, e5, f.symm, ?_⟩
    rw [f]
    cases ho : Ieee.double.order t nw with
    | none => rw [ho] at e6; cases e6
    | some o => cases o <;> rfl
  · obtain ⟨s1, f1, _⟩ := Fl.val_pt (hx a ha).1
    obtain ⟨s2, f2, _⟩ := Fl.val_pt (hx b hb).1
    obtain ⟨s3, f3, _⟩ := Fl.val_pt (hy a ha).1
    obtain ⟨s4, f4, _⟩ := Fl.val_pt (hy b hb).1
    unfold farOf d2
    rw [Fl.sq_comm f1 f2, Fl.sq_comm f3 f4]
  · obtain ⟨dx, dy, p, q, t, e1, e2, e3, e4, e5, _, e7⟩ := dd a b ha hb
    have f := fv a b ha hb dx dy p q t e1 e2 e3 e4 e5
    rw [hf] at f
    have ng : ¬ Ieee.double.order t nw = some .gt := fun h => by rw [h] at f; cases f
    have nc := fun h => ng (e7 h)
    show (fx a).2 ≤ (fx b).2 + 1 ∧ (fx b).2 ≤ (fx a).2 + 1 ∧ (fy a).2 ≤ (fy b).2 + 1 ∧ (fy b).2 ≤ (fy a).2 + 1
    refine ⟨?_, ?_, ?_, ?_⟩
    · rcases Nat.lt_or_ge ((fx b).2 + 1) (fx a).2 with h | h
      · exact (nc (.inl (by omega))).elim
      · exact h
    · rcases Nat.lt_or_ge ((fx a).2 + 1) (fx b).2 with h | h
      · exact (nc (.inr (.inl (by omega)))).elim
      · exact h
    · rcases Nat.lt_or_ge ((fy b).2 + 1) (fy a).2 with h | h
      · exact (nc (.inr (.inr (.inl (by omega))))).elim
      · exact h
    · rcases Nat.lt_or_ge ((fy a).2 + 1) (fy b).2 with h | h
      · exact (nc (.inr (.inr (.inr (by omega))))).elim
      · exact h

theorem Pln.inp {n : Nat} {X Y : Nat → Nat} {sd rc c1 c2 cw nw : Nat} {cx cy : Nat → Nat} (P : Pln n X Y sd rc c1 c2 cw nw cx cy) {w : World} {bx ox bY oY : Nat} (n0 : 0 < n) (n1 : n ≤ 1024) (hX : ∀ j, j < n → w.cell? ⟨bx, ox + j, none⟩ = some (.float .f64 (X j))) (hY : ∀ j, j < n → w.cell? ⟨bY, oY + j, none⟩ = some (.float .f64 (Y j))) :
    Inp w bx ox bY oY n X Y sd rc c1 c2 cw nw cx cy (farOf X Y nw) :=
  ⟨n0, n1, hX, hY, P.m1, P.m2, P.pick, P.m3, P.dx, P.dy, P.lx, P.ly, fun a b ha hb => by
    obtain ⟨dx, dy, p, q, t, e1, e2, e3, e4, e5, e6, _⟩ := P.dist a b ha hb
    exact ⟨dx, dy, p, q, t, e1, e2, e3, e4, e5, e6⟩⟩

theorem Pln.ord {n : Nat} {X Y : Nat → Nat} {sd rc c1 c2 cw nw : Nat} {cx cy sg : Nat → Nat} (P : Pln n X Y sd rc c1 c2 cw nw cx cy) (S : Sg n sg cx cy) : Pl.Ord n sg cx cy (farOf X Y nw) :=
  ⟨S.lt, S.inj, S.sur, S.asc, P.sym, P.near⟩
end Go.Proofs.Qxb6600854a.Lk
