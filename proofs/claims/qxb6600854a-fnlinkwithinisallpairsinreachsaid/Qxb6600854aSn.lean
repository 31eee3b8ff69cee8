import Derived.Test.Qxb6600854aLp
import Derived.Test.Qxb6600854aLink
/-! The law's row 'seen'; the links as cells; ZZLinkWithin. -/
namespace Go.Proofs.Qxb6600854a.Lk
open Go.ChangeShapes Go.WideShapes Go.ChangeAt Go.RowKit Go.Sort Go.Proofs.Qxb6600854a.Lw Go.Proofs.Qxb6600854a.Sr

theorem Try.info4 : (Try.prog.info? 4).map (fun i => (i.zero, i.size, i.bytes)) = some (some (.bool false), 1, 1) := by kernel_rfl

def idx (n : Nat) (x : Nat × Nat) : Nat := x.1 * n + x.2

theorem idx_inj {n : Nat} {x y : Nat × Nat} (hx : x.2 < n) (hy : y.2 < n) (h : idx n x = idx n y) : x = y := by
  unfold idx at h
  have d1 : (x.1 * n + x.2) / n = x.1 := by rw [Nat.add_comm, Nat.add_mul_div_right _ _ (by omega), Nat.div_eq_of_lt hx, Nat.zero_add]
  have d2 : (y.1 * n + y.2) / n = y.1 := by rw [Nat.add_comm, Nat.add_mul_div_right _ _ (by omega), Nat.div_eq_of_lt hy, Nat.zero_add]
  rw [h, d2] at d1
  rw [d1] at h
  exact Prod.ext d1.symm (by omega)

theorem idx_lt {n : Nat} {x : Nat × Nat} (h1 : x.1 < n) (h2 : x.2 < n) : idx n x < n * n := by
  unfold idx
  have : (x.1 + 1) * n ≤ n * n := Nat.mul_le_mul_right _ h1
  rw [Nat.add_mul, Nat.one_mul] at this
  omega

theorem enc_get : ∀ (L : List (Nat × Nat)) (k : Nat) (x : Nat × Nat), L[k]? = some x → (enc L)[k * 2]? = some (.int .i64 (x.1 : Int)) ∧ (enc L)[k * 2 + 1]? = some (.int .i64 (x.2 : Int))
  | [], _, _, h => by simp at h
  | a :: t, 0, x, h => by
    simp only [List.getElem?_cons_zero, Option.some.injEq] at h
    subst h
    exact ⟨rfl, rfl⟩
  | a :: t, k + 1, x, h => by
    rw [List.getElem?_cons_succ] at h
    have := enc_get t k x h
    have e : enc (a :: t) = .int .i64 (a.1 : Int) :: .int .i64 (a.2 : Int) :: enc t := rfl
    rw [e, show (k + 1) * 2 = k * 2 + 1 + 1 by omega]
    simp only [List.getElem?_cons_succ]
    exact this

theorem link_cells {w0 w : World} {base : Nat} {v : Value} {L : List (Nat × Nat)} (h : S0 w0 w base v L) {k : Nat} {x : Nat × Nat} (hk : L[k]? = some x) :
    ∃ g cap, v = .slice (some ⟨g, 0, none⟩) L.length cap ∧ g < w.heap.size ∧ w.cell? ⟨g, k * 2, none⟩ = some (.int .i64 (x.1 : Int)) ∧ w.cell? ⟨g, k * 2 + 1, none⟩ = some (.int .i64 (x.2 : Int)) := by
  have hl : k < L.length := (List.getElem?_eq_some_iff.1 hk).1
  obtain ⟨g, cap, hv, _, hg⟩ := h.own.form (by omega)
  obtain ⟨e1, e2⟩ := enc_get L k x hk
  have hadd : ∀ j, (⟨g, 0, none⟩ : Addr).add j = ⟨g, j, none⟩ := fun j => by unfold Addr.add; split <;> simp_all
  have c1 := h.own.cells (g := g) (by rw [hv]; rfl) _ _ e1
  have c2 := h.own.cells (g := g) (by rw [hv]; rfl) _ _ e2
  rw [hadd] at c1 c2
  exact ⟨g, cap, hv, hg, c1, c2⟩

structure Sn (w5 wr : World) (n : Nat) (L : List (Nat × Nat)) (sv : Array Bool) (k : Nat) : Prop where
  bel : Below w5.heap.size w5 wr
  row : Holds Value.bool wr w5.heap.size 0 sv
  size : sv.size = n * n
  upto : ∀ ix, ix < n * n → (sv[ix]! = true ↔ ∃ j x, j < k ∧ L[j]? = some x ∧ idx n x = ix)

theorem Sn.start (w5 : World) (n : Nat) (L : List (Nat × Nat)) : Sn w5 (w5.alloc (.cells (Array.replicate (n * n) (.bool false)) 4)) n L (Array.replicate (n * n) false) 0 := by
  refine ⟨(Below.refl _ _).alloc (Nat.le_refl _) _, Row.holds_made (enc := Value.bool) w5 (n * n) false 4, by simp, fun ix h => ?_⟩
  rw [getElem!_pos _ ix (by simpa using h), Array.getElem_replicate]
  constructor
  · intro h; cases h
  · rintro ⟨j, x, hj, _⟩; exact absurd hj (Nat.not_lt_zero _)

theorem Sn.drewN {w5 wr : World} {n : Nat} {L : List (Nat × Nat)} {sv : Array Bool} {k : Nat} (h : Sn w5 wr n L sv k) (q : Nat) : Sn w5 (wr.drewN q) n L sv k := ⟨Row.below_drewN h.bel q, h.row, h.size, h.upto⟩

theorem Sn.cell {w5 wr : World} {n : Nat} {L : List (Nat × Nat)} {sv : Array Bool} {k : Nat} (h : Sn w5 wr n L sv k) {ix : Nat} (hi : ix < n * n) : wr.cell? ⟨w5.heap.size, ix, none⟩ = some (.bool sv[ix]!) ∧ wr.frozen? ⟨w5.heap.size, ix, none⟩ = false := by
  have := h.row ix (by rw [h.size]; exact hi)
  rwa [Nat.zero_add] at this

theorem Sn.fresh {w5 wr : World} {n : Nat} {L : List (Nat × Nat)} {sv : Array Bool} {k : Nat} (h : Sn w5 wr n L sv k) (hL : ∀ x, x ∈ L → x.1 < x.2 ∧ x.2 < n) (nd : L.Pairwise (· ≠ ·)) {x : Nat × Nat} (hk : L[k]? = some x) : sv[idx n x]! = false := by
  have hx := hL x (List.mem_of_getElem? hk)
  cases hs : sv[idx n x]! with
  | false => rfl
  | true =>
    obtain ⟨j, y, hj, hy, e⟩ := (h.upto _ (idx_lt (by omega) hx.2)).1 hs
    have hy2 := hL y (List.mem_of_getElem? hy)
    have := idx_inj hy2.2 hx.2 e
    subst this
    obtain ⟨l1, e1⟩ := List.getElem?_eq_some_iff.1 hy
    obtain ⟨l2, e2⟩ := List.getElem?_eq_some_iff.1 hk
    exact (List.pairwise_iff_getElem.1 nd j k l1 l2 hj (e1.trans e2.symm)).elim

theorem Sn.step {w5 wr : World} {n : Nat} {L : List (Nat × Nat)} {sv : Array Bool} {k : Nat} (h : Sn w5 wr n L sv k) {x : Nat × Nat} (hk : L[k]? = some x) (hx : idx n x < n * n) : Sn w5 (wr.setCell ⟨w5.heap.size, idx n x, none⟩ (.bool true)) n L (sv.setIfInBounds (idx n x) true) (k + 1) := by
  refine ⟨h.bel.setCell (p := ⟨w5.heap.size, idx n x, none⟩) (Nat.le_refl _) _, ?_, by rw [Array.size_setIfInBounds]; exact h.size, fun ix hi => ?_⟩
  · have := Row.holds_set h.row (i := idx n x) (by rw [h.size]; exact hx) true
    rwa [Nat.zero_add] at this
  · by_cases e : ix = idx n x
    · subst e
      rw [getElem!_set_same _ _ _ (by rw [h.size]; exact hx)]
      exact ⟨fun _ => ⟨k, x, by omega, hk, rfl⟩, fun _ => rfl⟩
    · rw [getElem!_set_other _ _ _ _ e, h.upto ix hi]
      constructor
      · rintro ⟨j, y, hj, hy⟩; exact ⟨j, y, by omega, hy⟩
      · rintro ⟨j, y, hj, hy, hz⟩
        refine ⟨j, y, ?_, hy, hz⟩
        rcases Nat.lt_or_ge j k with q | q
        · exact q
        · obtain rfl : j = k := by omega
          rw [hk] at hy
          injection hy with hy
          subst hy
          exact absurd hz.symm e

theorem Sn.last {w5 wr : World} {n : Nat} {L : List (Nat × Nat)} {sv : Array Bool} {far : Nat → Nat → Bool} (h : Sn w5 wr n L sv L.length) (hL : ∀ x, x ∈ L → x.1 < x.2 ∧ x.2 < n) (hF : ∀ a b, a < b → b < n → ((a, b) ∈ L ↔ far a b = false)) {a b : Nat} (hab : a < b) (hb : b < n) : sv[a * n + b]! = !far a b := by
  have hi : idx n (a, b) < n * n := idx_lt (x := (a, b)) (Nat.lt_trans hab hb) hb
  have u := h.upto _ hi
  have : sv[idx n (a, b)]! = true ↔ far a b = false := by
    rw [u, ← hF a b hab hb]
    constructor
    · rintro ⟨j, x, _, hx, e⟩
      have hm := List.mem_of_getElem? hx
      have := idx_inj (hL x hm).2 (y := (a, b)) hb e
      rwa [this] at hm
    · intro hm
      obtain ⟨j, hj, e⟩ := List.getElem_of_mem hm
      exact ⟨j, (a, b), hj, List.getElem?_eq_some_iff.2 ⟨hj, e⟩, rfl⟩
  show sv[idx n (a, b)]! = _
  cases hs : sv[idx n (a, b)]! with
  | true => rw [this.1 hs]; rfl
  | false =>
    cases hf : far a b with
    | true => rfl
    | false => rw [this.2 hf] at hs; cases hs

theorem zz17 (bx ox bY oY n ca cb : Nat) (X Y : Nat → Nat) (sd rc c1 c2 cw nw : Nat) (cx cy : Nat → Nat) (far : Nat → Nat → Bool) (w : World) (I : Inp w bx ox bY oY n X Y sd rc c1 c2 cw nw cx cy far) :
    Calls Try.prog 17 #[.slice (some ⟨bx, ox, none⟩) n ca, .slice (some ⟨bY, oY, none⟩) n cb, .float .f64 sd, .float .f64 rc] w fun e w' => ∃ v, e = .returned (.tuple #[v, .bool true]) ∧ ∃ sg, Sg n sg cx cy ∧ S0 w w' w.heap.size v (Pl.total n sg cx cy far n) := by
  have H := link22 bx ox bY oY n ca cb X Y sd rc c1 c2 cw nw cx cy far w I
  clear I
  go_enter Try.func17, Try.ntmps17
  go_wp2_with fail
  refine H.mono ?_
  rintro e w' ⟨v, rfl, sg, h1, h2⟩
  have H1 : Hid (Sg n sg cx cy ∧ S0 w w' w.heap.size v (Pl.total n sg cx cy far n)) := ⟨h1, h2⟩
  clear h1 h2
  go_wp2
  go_ret2
  exact ⟨v, rfl, sg, H1.out.1, H1.out.2⟩

theorem zz17_zero (px py : Option Addr) (ca cb sd rc c1 c2 cw nw : Nat) (w : World) (m1 : Ieee.double.mul rc 4607182418804521008 = some c1) (m2 : Ieee.double.div sd 4697254411347427328 = some c2) (pick : Fl.Pick c1 c2 cw) (m3 : Ieee.double.mul rc rc = some nw) :
    Calls Try.prog 17 #[.slice px 0 ca, .slice py 0 cb, .float .f64 sd, .float .f64 rc] w fun e w' => e = .returned (.tuple #[.slice none 0 0, .bool true]) ∧ Below w.heap.size w w' := by
  have H := link22_zero px py ca cb sd rc c1 c2 cw nw w m1 m2 pick m3
  clear m1 m2 pick m3
  go_enter Try.func17, Try.ntmps17
  go_wp2_with fail
  refine H.mono ?_
  rintro e w' ⟨rfl, h2⟩
  have H1 : Hid (Below w.heap.size w w') := h2
  clear h2
  go_wp2
  go_ret2
  exact ⟨rfl, H1.out⟩
end Go.Proofs.Qxb6600854a.Lk
