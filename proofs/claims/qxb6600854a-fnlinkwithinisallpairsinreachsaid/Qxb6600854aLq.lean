import Derived.Test.Qxb6600854aLk1
/-! The law's small functions: lengths, copies, points in the square, within reach. -/
namespace Go.Proofs.Qxb6600854a.Lk
open Go.ChangeShapes Go.WideShapes Go.ChangeAt Go.RowKit Go.Sort Go.Proofs.Qxb6600854a.Lw Go.Proofs.Qxb6600854a.Sr
attribute [local go_sem] Row.run_store_float

theorem Try.info32 : (Try.prog.info? 32).map (fun i => (i.zero, i.size, i.bytes)) = some (some (.float .f64 0), 1, 8) := by kernel_rfl
theorem nil_nil31 (W : World) : (binOp .eql 31 (.slice none 0 0) (.slice none 0 0)).run Try.prog W = .ok (.bool true) W := by kernel_rfl
theorem some_nil31 (x : Addr) (n c : Nat) (W : World) : (binOp .eql 31 (.slice (some x) n c) (.slice none 0 0)).run Try.prog W = .ok (.bool false) W := by kernel_rfl

theorem bytes14_ok (a b : Option Addr) (n c n' c' x y : Nat) (w : World) (h : n + n' ≤ 1048576) :
    Calls Try.prog 14 #[.slice a n c, .slice b n' c', .float .f64 x, .float .f64 y] w fun e w' => e = .returned (.bool true) ∧ w' = w := by
  go_enter Try.func14, Try.ntmps14
  go_wp2
  go_ret
  exact ⟨rfl, rfl⟩
theorem bytes14_no (a b : Option Addr) (n c n' c' x y : Nat) (w : World) (h : 1048576 < n + n') :
    Calls Try.prog 14 #[.slice a n c, .slice b n' c', .float .f64 x, .float .f64 y] w fun e w' => e = .returned (.bool false) ∧ w' = w := by
  by_cases h1 : 1048576 < n
  · go_enter Try.func14, Try.ntmps14
    go_wp2
    go_ret
    exact ⟨rfl, rfl⟩
  · by_cases h2 : 1048576 < n'
    · go_enter Try.func14, Try.ntmps14
      go_wp2
      go_ret
      exact ⟨rfl, rfl⟩
    · go_enter Try.func14, Try.ntmps14
      go_wp2
      go_ret
      exact ⟨rfl, rfl⟩

theorem copy15_nil (w : World) : Calls Try.prog 15 #[.slice none 0 0] w fun e w' => ∃ p, e = .returned (.slice p 0 0) ∧ Below w.heap.size w w' := by
  have hnil := nil_nil31
  go_enter Try.func15, Try.ntmps15
  go_wp2
  go_ret
  exact ⟨none, rfl, Below.refl _ _⟩

theorem copy15_empty (x : Addr) (c : Nat) (w : World) :
    Calls Try.prog 15 #[.slice (some x) 0 c] w fun e w' => ∃ p, e = .returned (.slice p 0 0) ∧ Below w.heap.size w w' := by
  have hnil := some_nil31
  go_enter Try.func15, Try.ntmps15
  go_wp2_with (at_make; refine Row.wpList_make_row _ rfl _ _ 31 rfl 32 (.float .f64 0) 8 Try.underlying31 Try.info32 rfl _ _ _ _ 0 rfl rfl rfl rfl (by omega) (by omega) ?_)
  go_loop [4] (fun i => i = .int .i64 0) (fun _ => 0)
  case atStart => rfl
  case round =>
    obtain rfl := hrel
    go_wp2
    go_ret
    exact ⟨⟨_, rfl⟩, (Below.refl _ _).alloc (Nat.le_refl _) _⟩

structure C1 (w wr : World) (n : Nat) (X : Nat → Nat) (d : Array Nat) (k : Nat) : Prop where
  row : Holds (Value.float .f64) wr w.heap.size 0 d
  size : d.size = n
  upto : ∀ j, j < k → d[j]! = X j
  bel : Below w.heap.size w wr
theorem C1.start (w : World) (n : Nat) (X : Nat → Nat) : C1 w (w.alloc (.cells (Array.replicate n (.float .f64 0)) 32)) n X (Array.replicate n 0) 0 :=
  ⟨Row.holds_made (enc := Value.float .f64) w n 0 32, by simp, fun j hj => absurd hj (Nat.not_lt_zero _), (Below.refl _ _).alloc (Nat.le_refl _) _⟩
theorem C1.step {w wr : World} {n : Nat} {X : Nat → Nat} {d : Array Nat} {k : Nat} (h : C1 w wr n X d k) (hk : k < n) : C1 w (wr.setCell ⟨w.heap.size, k, none⟩ (.float .f64 (X k))) n X (d.setIfInBounds k (X k)) (k + 1) := by
  refine ⟨?_, by rw [Array.size_setIfInBounds]; exact h.size, fun j hj => ?_, h.bel.setCell (p := ⟨w.heap.size, k, none⟩) (Nat.le_refl _) _⟩
  · have := Row.holds_set h.row (i := k) (by rw [h.size]; exact hk) (X k)
    rwa [Nat.zero_add] at this
  · by_cases e : j = k
    · subst e; rw [getElem!_set_same _ _ _ (by rw [h.size]; exact hk)]
    · rw [getElem!_set_other _ _ _ _ e]; exact h.upto j (by omega)

theorem copy15 (b off n c : Nat) (X : Nat → Nat) (w : World) (n0 : 0 < n) (hn : n ≤ 131072)
    (hc : ∀ j, j < n → w.cell? ⟨b, off + j, none⟩ = some (.float .f64 (X j))) :
    Calls Try.prog 15 #[.slice (some ⟨b, off, none⟩) n c] w fun e w' => e = .returned (.slice (some ⟨w.heap.size, 0, none⟩) n n) ∧ Below w.heap.size w w' ∧ ∀ j, j < n → w'.cell? ⟨w.heap.size, 0 + j, none⟩ = some (.float .f64 (X j)) := by
  have HC : Hid (∀ j, j < n → w.cell? ⟨b, off + j, none⟩ = some (.float .f64 (X j))) := hc
  have hb : b < w.heap.size := World.block_lt_of_cell? _ _ (hc 0 n0)
  clear hc
  have hnil := some_nil31
  go_enter Try.func15, Try.ntmps15
  go_wp2_with (at_make; refine Row.wpList_make_row _ rfl _ _ 31 rfl 32 (.float .f64 0) 8 Try.underlying31 Try.info32 rfl _ _ _ _ n rfl rfl rfl rfl (by omega) (by omega) ?_)
  go_loopg [4] n (fun g v4 wr => ∃ (k : Nat) (d : Array Nat), v4 = .int .i64 k ∧ k ≤ n ∧ n - k ≤ g ∧ Hid (C1 w wr n X d k))
  case atStart => exact ⟨0, _, rfl, by omega, by omega, C1.start w n X⟩
  case round =>
    obtain ⟨k, d, rfl, kn, hg, hK⟩ := hrel
    by_cases hlt : k < n
    · have cX : wr.cell? ⟨b, off + k, none⟩ = some (.float .f64 (X k)) := (hK.out.bel.cell hb).trans (HC.out k hlt)
      have cK : wr.cell? ⟨w.heap.size, k, none⟩ = some (.float .f64 d[k]!) := by
        have := (hK.out.row k (by rw [hK.out.size]; exact hlt)).1
        rwa [Nat.zero_add] at this
      have fK : wr.frozen? ⟨w.heap.size, k, none⟩ = false := by
        have := (hK.out.row k (by rw [hK.out.size]; exact hlt)).2
        rwa [Nat.zero_add] at this
      have NX : Hid (C1 w (wr.setCell ⟨w.heap.size, k, none⟩ (.float .f64 (X k))) n X (d.setIfInBounds k (X k)) (k + 1)) := hK.out.step hlt
      generalize X k = xk at *
      generalize d[k]! = dk at *
      go_wp2
      go_roundg (n - (k + 1))
      case measure => omega
      case rel => exact ⟨k + 1, d.setIfInBounds k xk, by go_num, by omega, by omega, NX⟩
    · obtain rfl : n = k := by omega
      go_wp2
      go_ret
      refine ⟨rfl, hK.out.bel, fun j hj => ?_⟩
      have := (hK.out.row j (by rw [hK.out.size]; exact hj)).1
      rwa [hK.out.upto j hj] at this

theorem within18 (x1 y1 x2 y2 nw dx dy p q t : Nat) (far : Bool) (w : World) (o1 : Ieee.double.sub x1 x2 = some dx) (o2 : Ieee.double.sub y1 y2 = some dy) (o3 : Ieee.double.mul dx dx = some p) (o4 : Ieee.double.mul dy dy = some q) (o5 : Ieee.double.add p q = some t) (o6 : (Ieee.double.order t nw == some .lt || Ieee.double.order t nw == some .eq) = !far) :
    Calls Try.prog 18 #[.float .f64 x1, .float .f64 y1, .float .f64 x2, .float .f64 y2, .float .f64 nw] w fun e w' => e = .returned (.bool (!far)) ∧ w' = w := by
  have c1 := run_sub _ _ _ o1
  have c2 := run_sub _ _ _ o2
  have c3 := run_mul _ _ _ o3
  have c4 := run_mul _ _ _ o4
  have c5 := run_add _ _ _ o5
  have o7 : (FloatKind.f64.format.order t nw == some .lt || FloatKind.f64.format.order t nw == some .eq) = !far := o6
  clear o1 o2 o3 o4 o5
  generalize (!far) = fb at *
  go_enter Try.func18, Try.ntmps18
  go_wp2
  go_ret
  exact ⟨rfl, rfl⟩
end Go.Proofs.Qxb6600854a.Lk
