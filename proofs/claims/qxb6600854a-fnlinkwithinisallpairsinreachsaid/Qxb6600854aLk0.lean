import Derived.Test.Qxb6600854aLw
import Derived.Test.Qxb6600854aPdq
import Derived.Deep.RegionHeld3
/-! Before the walk of linkWithin: its operations on floats, what it is given, its calls. -/
namespace Go.Proofs.Qxb6600854a.Lk
open Go.ChangeShapes Go.WideShapes Go.ChangeAt Go.RowKit Go.Sort Go.Proofs.Qxb6600854a.Lw Go.Proofs.Qxb6600854a.Sr

theorem Try.info25 : (Try.prog.info? 25).map (fun i => (i.zero, i.size, i.bytes)) = some (some (.int .u64 0), 1, 8) := by kernel_rfl

/-- What 'linkWithin' is given. -/
structure Inp (w : World) (bx ox bY oY n : Nat) (X Y : Nat → Nat) (sd rc c1 c2 cw nw : Nat) (cx cy : Nat → Nat) (far : Nat → Nat → Bool) : Prop where
  n0 : 0 < n
  n1 : n ≤ 1024
  xs : ∀ j, j < n → w.cell? ⟨bx, ox + j, none⟩ = some (.float .f64 (X j))
  ys : ∀ j, j < n → w.cell? ⟨bY, oY + j, none⟩ = some (.float .f64 (Y j))
  m1 : Ieee.double.mul rc 4607182418804521008 = some c1
  m2 : Ieee.double.div sd 4697254411347427328 = some c2
  pick : Fl.Pick c1 c2 cw
  m3 : Ieee.double.mul rc rc = some nw
  dx : ∀ j, j < n → ∃ q, Ieee.double.div (X j) cw = some q ∧ (Ieee.double.read q).toInt .zero = some (cx j : Int)
  dy : ∀ j, j < n → ∃ q, Ieee.double.div (Y j) cw = some q ∧ (Ieee.double.read q).toInt .zero = some (cy j : Int)
  lx : ∀ j, j < n → cx j ≤ 1048576
  ly : ∀ j, j < n → cy j ≤ 1048576
  dist : ∀ a b, a < n → b < n → ∃ dx dy p q t, Ieee.double.sub (X a) (X b) = some dx ∧ Ieee.double.sub (Y a) (Y b) = some dy ∧ Ieee.double.mul dx dx = some p ∧ Ieee.double.mul dy dy = some q ∧ Ieee.double.add p q = some t ∧ (Ieee.double.order t nw == some .gt) = far a b

theorem run_mul (x y r : Nat) (h : Ieee.double.mul x y = some r) (W : World) : (binOp .mul 32 (.float .f64 x) (.float .f64 y)).run Try.prog W = .ok (.float .f64 r) W := run_float_arith W .mul 32 .f64 x y r h
theorem run_quo (x y r : Nat) (h : Ieee.double.div x y = some r) (W : World) : (binOp .quo 32 (.float .f64 x) (.float .f64 y)).run Try.prog W = .ok (.float .f64 r) W := run_float_arith W .quo 32 .f64 x y r h
theorem run_sub (x y r : Nat) (h : Ieee.double.sub x y = some r) (W : World) : (binOp .sub 32 (.float .f64 x) (.float .f64 y)).run Try.prog W = .ok (.float .f64 r) W := run_float_arith W .sub 32 .f64 x y r h
theorem run_add (x y r : Nat) (h : Ieee.double.add x y = some r) (W : World) : (binOp .add 32 (.float .f64 x) (.float .f64 y)).run Try.prog W = .ok (.float .f64 r) W := run_float_arith W .add 32 .f64 x y r h
theorem run_max (x y r : Nat) (h : Fl.Pick x y r) (ts : Array TypeId) (t : TypeId) (W : World) : (Builtin.max_ ts t #[.float .f64 x, .float .f64 y]).run Try.prog W = .ok (.float .f64 r) W := by
  rcases h with ⟨o, rfl⟩ | ⟨o, rfl⟩ | ⟨o, n, rfl⟩
  · have o' : FloatKind.f64.format.order x r = some .lt := o
    simp [Builtin.max_, Builtin.max2, o']
  · have o' : FloatKind.f64.format.order r y = some .gt := o
    simp [Builtin.max_, Builtin.max2, o']
  · have o' : FloatKind.f64.format.order r y = some .eq := o
    have n' : (FloatKind.f64.decode r).neg = false := n
    simp [Builtin.max_, Builtin.max2, o', n']
theorem run_conv (q : Nat) (i : Nat) (hi : i ≤ 1048576) (h : (Ieee.double.read q).toInt .zero = some (i : Int)) (W : World) : (convert 32 2 (.float .f64 q)).run Try.prog W = .ok (.int .i64 i) W := by
  refine run_convert_float_int W 32 2 .f64 .i64 q i (by rw [Try.underlying32]; rfl) Try.underlying2 ?_
  unfold floatToIntVal
  have h' : (FloatKind.f64.decode q).toInt .zero = some (i : Int) := h
  rw [h']
  have : IntKind.i64.min ≤ (i : Int) ∧ (i : Int) ≤ IntKind.i64.max := by
    have e1 : IntKind.i64.min = -9223372036854775808 := by decide
    have e2 : IntKind.i64.max = 9223372036854775807 := by decide
    rw [e1, e2]; omega
  simp only [this, and_self, if_true]

theorem or_pt (c i : Nat) (h : i < 1048576) (hc : c < 17592186044416) : bits .or .u64 ((c : Int) * 1048576) i = (c : Int) * 1048576 + i := by
  rw [u64_or _ _ (by omega) (by omega) (by omega) (by omega)]
  have e := Nat.two_pow_add_eq_or_of_lt (i := 20) (b := i) (by omega) c
  have e2 : ((c : Int) * 1048576).toNat = 2 ^ 20 * c := by omega
  rw [e2, Int.toNat_natCast, ← e]
  omega

structure K1 (w wr : World) (n : Nat) (cx cy : Nat → Nat) (d : Array Int) (k : Nat) : Prop where
  row : Holds (Value.int .u64) wr w.heap.size 0 d
  size : d.size = n
  upto : ∀ j, j < k → d[j]! = key cx cy j
  bel : Below w.heap.size w wr

theorem K1.start (w : World) (n : Nat) (cx cy : Nat → Nat) : K1 w (w.alloc (.cells (Array.replicate n (.int .u64 0)) 25)) n cx cy (Array.replicate n 0) 0 :=
  ⟨Row.holds_made (enc := Value.int .u64) w n 0 25, by simp, fun j hj => absurd hj (Nat.not_lt_zero _), (Below.refl _ _).alloc (Nat.le_refl _) _⟩
theorem K1.step {w wr : World} {n : Nat} {cx cy : Nat → Nat} {d : Array Int} {k : Nat} (h : K1 w wr n cx cy d k) (hk : k < n) : K1 w (wr.setCell ⟨w.heap.size, k, none⟩ (.int .u64 (key cx cy k))) n cx cy (d.setIfInBounds k (key cx cy k)) (k + 1) := by
  refine ⟨?_, by rw [Array.size_setIfInBounds]; exact h.size, fun j hj => ?_, h.bel.setCell (p := ⟨w.heap.size, k, none⟩) (Nat.le_refl _) _⟩
  · have := Row.holds_set h.row (i := k) (by rw [h.size]; exact hk) (key cx cy k)
    rwa [Nat.zero_add] at this
  · by_cases e : j = k
    · subst e; rw [getElem!_set_same _ _ _ (by rw [h.size]; exact hk)]
    · rw [getElem!_set_other _ _ _ _ e]; exact h.upto j (by omega)
theorem K1.drewN {w wr : World} {n : Nat} {cx cy : Nat → Nat} {d : Array Int} {k : Nat} (h : K1 w wr n cx cy d k) (q : Nat) : K1 w (wr.drewN q) n cx cy d k :=
  ⟨h.row, h.size, h.upto, Row.below_drewN h.bel q⟩

/-- What stands once the keys are sorted: w2 is the world then, B the keys' block, sg says which point lies at a place. -/
structure Bin (w2 : World) (B bx ox bY oY n : Nat) (X Y : Nat → Nat) (nw : Nat) (cx cy sg : Nat → Nat) (far : Nat → Nat → Bool) : Prop where
  sz : B + 1 ≤ w2.heap.size
  hbx : bx < B
  hby : bY < B
  xs : ∀ j, j < n → w2.cell? ⟨bx, ox + j, none⟩ = some (.float .f64 (X j))
  ys : ∀ j, j < n → w2.cell? ⟨bY, oY + j, none⟩ = some (.float .f64 (Y j))
  kc : ∀ j, j < n → w2.cell? ⟨B, j, none⟩ = some (.int .u64 (key cx cy (sg j)))
  kb : ∀ j, j < n → 0 ≤ key cx cy (sg j) ∧ key cx cy (sg j) < 18446744073709551616
  lt : ∀ j, j < n → sg j < n
  asc : ∀ i j, i ≤ j → j < n → key cx cy (sg i) ≤ key cx cy (sg j)
  lx : ∀ j, j < n → cx (sg j) ≤ 1048576
  ly : ∀ j, j < n → cy (sg j) ≤ 1048576
  dist : ∀ a b, a < n → b < n → ∃ dx dy p q t, Ieee.double.sub (X a) (X b) = some dx ∧ Ieee.double.sub (Y a) (Y b) = some dy ∧ Ieee.double.mul dx dx = some p ∧ Ieee.double.mul dy dy = some q ∧ Ieee.double.add p q = some t ∧ (Ieee.double.order t nw == some .gt) = far a b


theorem ix56 (j : Nat) (hj : j < 4) (W : World) : (Instr.index 56 (.agg #[.int .i64 1, .int .i64 0, .int .i64 (-1), .int .i64 1, .int .i64 0, .int .i64 1, .int .i64 1, .int .i64 1]) (.int .i64 (j : Int))).run Try.prog W = .ok (.agg #[.int .i64 (dX j), .int .i64 (dY j)]) W := by
  rcases (by omega : j = 0 ∨ j = 1 ∨ j = 2 ∨ j = 3) with rfl | rfl | rfl | rfl <;> kernel_rfl
def nth10 (a b c d e f g h i j : Int) : Nat → Int
  | 0 => a | 1 => b | 2 => c | 3 => d | 4 => e | 5 => f | 6 => g | 7 => h | 8 => i | _ => j
theorem ix54 (a b c d e f g h i j : Int) (k : Nat) (hk : k < 5) (W : World) : (Instr.index 54 (.agg #[.int .i64 a, .int .i64 b, .int .i64 c, .int .i64 d, .int .i64 e, .int .i64 f, .int .i64 g, .int .i64 h, .int .i64 i, .int .i64 j]) (.int .i64 (k : Int))).run Try.prog W = .ok (.agg #[.int .i64 (nth10 a b c d e f g h i j (2 * k)), .int .i64 (nth10 a b c d e f g h i j (2 * k + 1))]) W := by
  rcases (by omega : k = 0 ∨ k = 1 ∨ k = 2 ∨ k = 3 ∨ k = 4) with rfl | rfl | rfl | rfl | rfl <;> kernel_rfl
theorem lit10 (a b c d e f g h i j : Int) : (#[a, b, c, d, e, f, g, h, i, j] : Array Int).map (Value.int .i64) = #[.int .i64 a, .int .i64 b, .int .i64 c, .int .i64 d, .int .i64 e, .int .i64 f, .int .i64 g, .int .i64 h, .int .i64 i, .int .i64 j] := by simp
theorem and_lo (a c : Nat) (hc : c < 2097152) (h : a * 2097152 + c < 18446744073709551616) : bits .and .u64 ((a * 2097152 + c : Nat) : Int) 2097151 = (c : Int) := by
  rw [u64_and _ _ (by omega) (by omega) (by omega) (by omega)]
  have e1 : (((a * 2097152 + c : Nat) : Int)).toNat = a * 2097152 + c := Int.toNat_natCast _
  have e2 : (2097151 : Int).toNat = 2 ^ 21 - 1 := rfl
  rw [e1, e2, Nat.and_two_pow_sub_one_eq_mod]
  omega
theorem and_pt (x : Int) (q : Nat) (hq : q < 1048576) (h0 : 0 ≤ x) (h1 : x * 1048576 + q < 18446744073709551616) : bits .and .u64 (x * 1048576 + q) 1048575 = (q : Int) := by
  obtain ⟨a, rfl⟩ := Int.eq_ofNat_of_zero_le h0
  rw [u64_and _ _ (by omega) (by omega) (by omega) (by omega)]
  have e1 : ((a : Int) * 1048576 + (q : Int)).toNat = a * 1048576 + q := by omega
  have e2 : (1048575 : Int).toNat = 2 ^ 20 - 1 := rfl
  rw [e1, e2, Nat.and_two_pow_sub_one_eq_mod]
  omega

theorem key_cell (cx cy : Nat → Nat) (q : Nat) (hq : q < 1048576) : key cx cy q / 1048576 = (cy q : Int) * 2097152 + (cx q : Int) := by unfold key; omega

/-- 'cellRun' at the cell beside. -/
theorem beside20 {w2 W : World} {B bx ox bY oY n : Nat} {X Y : Nat → Nat} {nw : Nat} {cx cy sg : Nat → Nat} {far : Nat → Nat → Bool} (H : Bin w2 B bx ox bY oY n X Y nw cx cy sg far) (n1 : n ≤ 1024) {s CX CY : Nat} (hs : s < n) (hC : cx (sg s) = CX ∧ cy (sg s) = CY) {j : Nat} (hj : j < 4) (hW : Below (B + 1) w2 W) :
    Calls Try.prog 20 #[.slice (some ⟨B, 0, none⟩) n n, .int .i64 ((CX : Int) + dX j), .int .i64 ((CY : Int) + dY j)] W fun e w' => ∃ f t : Nat, e = .returned (.tuple #[.int .i64 f, .int .i64 t]) ∧ (∃ q, w' = W.drewN q) ∧ f ≤ t ∧ t ≤ n ∧ ∀ p, p < n → (Pl.pr sg cx cy (j + 1) s p = true ↔ f ≤ p ∧ p < t) := by
  obtain ⟨e1, e2⟩ := hC
  have lx := H.lx s hs
  have ly := H.ly s hs
  rw [e1] at lx
  rw [e2] at ly
  have bx : -1 ≤ dX j ∧ dX j ≤ 1 := by
    match j, hj with
    | 0, _ => decide
    | 1, _ => decide
    | 2, _ => decide
    | 3, _ => decide
  have by_ : 0 ≤ dY j ∧ dY j ≤ 1 := by
    match j, hj with
    | 0, _ => decide
    | 1, _ => decide
    | 2, _ => decide
    | 3, _ => decide
  have hpr : ∀ p, p < n → (Pl.pr sg cx cy (j + 1) s p = true ↔ ((cx (sg p) : Int) = (CX : Int) + dX j ∧ (cy (sg p) : Int) = (CY : Int) + dY j)) := fun p _ => by
    match j, hj with
    | 0, _ => simp only [Pl.pr, decide_eq_true_eq, e1, e2, dX, dY]; omega
    | 1, _ => simp only [Pl.pr, decide_eq_true_eq, e1, e2, dX, dY]; omega
    | 2, _ => simp only [Pl.pr, decide_eq_true_eq, e1, e2, dX, dY]; omega
    | 3, _ => simp only [Pl.pr, decide_eq_true_eq, e1, e2, dX, dY]; omega
  generalize dX j = dx at *
  generalize dY j = dy at *
  by_cases hneg : (CX : Int) + dx < 0
  · refine (Cell.run20_out _ _ _ _ _ _ (.inl hneg)).mono ?_
    rintro e w' ⟨rfl, rfl⟩
    exact ⟨0, 0, rfl, ⟨0, rfl⟩, Nat.le_refl _, Nat.zero_le _, fun p hp => by rw [hpr p hp]; omega⟩
  · refine (Cell.run20 B n (fun j => key cx cy (sg j)) _ _ _ (by omega) (by omega) (by omega) (by omega) (by omega) (fun j hj => ?_) H.kb H.asc).mono ?_
    · rw [Nat.zero_add]
      exact (hW.cell (p := ⟨B, j, none⟩) (Nat.lt_succ_self B)).trans (H.kc j hj)
    rintro e w' ⟨m, t, h1, h2, h3, h4, h5, rfl, q, rfl⟩
    refine ⟨m, t, rfl, ⟨q, rfl⟩, h1, h2, fun p hp => ?_⟩
    rw [hpr p hp]
    have hk := key_cell cx cy (sg p) (by have := H.lt p hp; omega)
    have px := H.lx p hp
    have py := H.ly p hp
    rcases Nat.lt_or_ge p m with c | c
    · have := h3 p c
      rw [hk] at this
      omega
    · rcases Nat.lt_or_ge p t with c' | c'
      · have := h4 p c c'
        rw [hk] at this
        omega
      · have := h5 p c' hp
        rw [hk] at this
        omega
end Go.Proofs.Qxb6600854a.Lk
