import Derived.Test.Qxb6602679aClone
import Derived.Test.Qxb6602679aRank
namespace Go.Proofs.Qxb6602679a
open Go.ChangeShapes Go.WideShapes Go.ChangeAt Go.RowKit Go.Sort

theorem nan15 (x : Nat) (w : World) : Calls Try.prog 15 #[.float .f32 x] w fun e w' => e = .returned (.bool (!Med.nnB x)) ∧ w' = w := by
  have t := Med.nan_test x
  go_enter Try.func15, Try.ntmps15
  go_wp2
  go_ret
  exact ⟨rfl, rfl⟩

theorem inv_zero (W : World) (t : TypeId) : (binOp .quo t (.float .f32 1065353216) (.float .f32 0)).run Try.prog W = .ok (.float .f32 2139095040) W := run_float_arith W .quo t .f32 _ _ _ (by decide +kernel)
theorem inv_nz (W : World) (t : TypeId) : (binOp .quo t (.float .f32 1065353216) (.float .f32 2147483648)).run Try.prog W = .ok (.float .f32 4286578688) W := run_float_arith W .quo t .f32 _ _ _ (by decide +kernel)

theorem negz12_other (x : Nat) (w : World) (hx : x < 4294967296) (h0 : x ≠ 0) (h1 : x ≠ 2147483648) : Calls Try.prog 12 #[.float .f32 x] w fun e w' => e = .returned (.bool false) ∧ w' = w := by
  have t := Med.zero_test hx h0 h1
  go_enter Try.func12, Try.ntmps12
  go_wp2
  go_ret
  exact ⟨rfl, rfl⟩
theorem negz12_0 (w : World) : Calls Try.prog 12 #[.float .f32 0] w fun e w' => e = .returned (.bool false) ∧ w' = w := by
  have t : (FloatKind.f32.format.order 0 0 != some .eq) = false := by decide +kernel
  have i := inv_zero
  have t2 : (FloatKind.f32.format.order 2139095040 0 == some .lt) = false := by decide +kernel
  go_enter Try.func12, Try.ntmps12
  go_wp2
  go_ret
  exact ⟨rfl, rfl⟩
theorem negz12_nz (w : World) : Calls Try.prog 12 #[.float .f32 2147483648] w fun e w' => e = .returned (.bool true) ∧ w' = w := by
  have t : (FloatKind.f32.format.order 2147483648 0 != some .eq) = false := by decide +kernel
  have i := inv_nz
  have t2 : (FloatKind.f32.format.order 4286578688 0 == some .lt) = true := by decide +kernel
  go_enter Try.func12, Try.ntmps12
  go_wp2
  go_ret
  exact ⟨rfl, rfl⟩
theorem negz12 (x : Nat) (w : World) (hx : x < 4294967296) : Calls Try.prog 12 #[.float .f32 x] w fun e w' => e = .returned (.bool (Med.nzB x)) ∧ w' = w := by
  by_cases h0 : x = 0
  · subst h0; exact negz12_0 w
  by_cases h1 : x = 2147483648
  · subst h1; exact negz12_nz w
  · have : Med.nzB x = false := decide_eq_false h1
    rw [this]; exact negz12_other x w hx h0 h1

theorem less30 (x y : Nat) (w : World) (hx : x < 4294967296) (hy : y < 4294967296) : Calls Try.prog 30 #[.float .f32 x, .float .f32 y] w fun e w' => e = .returned (.bool (decide (Med.rank x < Med.rank y))) ∧ w' = w := by
  cases nx : Med.nnB x with
  | false =>
    have r : decide (Med.rank x < Med.rank y) = false := by
      cases ny : Med.nnB y with
      | false => rw [Med.rank_nan nx, Med.rank_nan ny]; simp
      | true => have := Med.rank_nn_lt ny; rw [Med.rank_nan nx]; exact decide_eq_false (by omega)
    rw [r]
    have R := r
    clear r
    go_enter Try.func30, Try.ntmps30
    go_wp2_with fail
    refine (nan15 x _).mono ?_
    rintro e w' ⟨rfl, rfl⟩
    go_wp2_with fail
    refine (nan15 y _).mono ?_
    rintro e w' ⟨rfl, rfl⟩
    go_wp2
    go_ret
    exact ⟨rfl, rfl⟩
  | true =>
    cases ny : Med.nnB y with
    | false =>
      have r : decide (Med.rank x < Med.rank y) = true := by
        have := Med.rank_nn_lt nx; rw [Med.rank_nan ny]; exact decide_eq_true (by omega)
      rw [r]
      clear r
      go_enter Try.func30, Try.ntmps30
      go_wp2_with fail
      refine (nan15 x _).mono ?_
      rintro e w' ⟨rfl, rfl⟩
      go_wp2_with fail
      refine (nan15 y _).mono ?_
      rintro e w' ⟨rfl, rfl⟩
      go_wp2
      go_ret
      exact ⟨rfl, rfl⟩
    | true =>
      cases l1 : Med.lt32 x y with
      | true =>
        rw [decide_eq_true (Med.rank_lt nx ny l1)]
        have t1 : (FloatKind.f32.format.order x y == some .lt) = true := l1
        go_enter Try.func30, Try.ntmps30
        go_wp2_with fail
        refine (nan15 x _).mono ?_
        rintro e w' ⟨rfl, rfl⟩
        go_wp2_with fail
        refine (nan15 y _).mono ?_
        rintro e w' ⟨rfl, rfl⟩
        go_wp2
        go_ret
        exact ⟨rfl, rfl⟩
      | false =>
        have t1 : (FloatKind.f32.format.order x y == some .lt) = false := l1
        cases l2 : Med.lt32 y x with
        | true =>
          rw [decide_eq_false (by have := Med.rank_lt ny nx l2; omega)]
          have t2 : (FloatKind.f32.format.order y x == some .lt) = true := l2
          go_enter Try.func30, Try.ntmps30
          go_wp2_with fail
          refine (nan15 x _).mono ?_
          rintro e w' ⟨rfl, rfl⟩
          go_wp2_with fail
          refine (nan15 y _).mono ?_
          rintro e w' ⟨rfl, rfl⟩
          go_wp2
          go_ret
          exact ⟨rfl, rfl⟩
        | false =>
          have t2 : (FloatKind.f32.format.order y x == some .lt) = false := l2
          rw [(Med.rank_eq nx ny (Med.kv_eq nx ny l1 l2)).1]
          generalize hzx : Med.nzB x = zx
          generalize hzy : Med.nzB y = zy
          have N1 := negz12 x w hx
          have N2 := negz12 y w hy
          rw [hzx] at N1
          rw [hzy] at N2
          clear hzx hzy l1 l2
          cases zx
          · go_enter Try.func30, Try.ntmps30
            go_wp2_with fail
            refine (nan15 x _).mono ?_
            rintro e w' ⟨rfl, rfl⟩
            go_wp2_with fail
            refine (nan15 y _).mono ?_
            rintro e w' ⟨rfl, rfl⟩
            go_wp2_with fail
            refine N1.mono ?_
            rintro e w' ⟨rfl, rfl⟩
            go_wp2
            go_ret
            exact ⟨rfl, rfl⟩
          · go_enter Try.func30, Try.ntmps30
            go_wp2_with fail
            refine (nan15 x _).mono ?_
            rintro e w' ⟨rfl, rfl⟩
            go_wp2_with fail
            refine (nan15 y _).mono ?_
            rintro e w' ⟨rfl, rfl⟩
            go_wp2_with fail
            refine N1.mono ?_
            rintro e w' ⟨rfl, rfl⟩
            go_wp2_with fail
            refine N2.mono ?_
            rintro e w' ⟨rfl, rfl⟩
            go_wp2
            go_ret
            exact ⟨by cases zy <;> rfl, rfl⟩

theorem same14 (x y : Nat) (w : World) (hx : x < 4294967296) (hy : y < 4294967296) (hr : Med.rank x = Med.rank y) : Calls Try.prog 14 #[.float .f32 x, .float .f32 y] w fun e w' => e = .returned (.bool true) ∧ w' = w := by
  cases nx : Med.nnB x with
  | false =>
    have ny : Med.nnB y = false := by
      cases ny : Med.nnB y with
      | false => rfl
      | true => have := Med.rank_nn_lt ny; rw [Med.rank_nan nx] at hr; omega
    clear hr
    go_enter Try.func14, Try.ntmps14
    go_wp2_with fail
    refine (nan15 x _).mono ?_
    rintro e w' ⟨rfl, rfl⟩
    go_wp2_with fail
    refine (nan15 y _).mono ?_
    rintro e w' ⟨rfl, rfl⟩
    go_wp2
    go_ret
    exact ⟨rfl, rfl⟩
  | true =>
    have ny : Med.nnB y = true := by
      cases ny : Med.nnB y with
      | true => rfl
      | false => have := Med.rank_nn_lt nx; rw [Med.rank_nan ny] at hr; omega
    have he : Med.kv x = Med.kv y := by
      by_cases e : Med.kv x = Med.kv y
      · exact e
      · exact absurd hr (Med.rank_ne nx ny e)
    have hz : (Med.nzB x == Med.nzB y) = true := by rw [← (Med.rank_eq nx ny he).2]; exact decide_eq_true hr
    have t : (FloatKind.f32.format.order x y != some .eq) = false := by rw [Med.eq_test nx ny, decide_eq_true he]; rfl
    generalize hzx : Med.nzB x = zx at hz
    generalize hzy : Med.nzB y = zy at hz
    have N1 := negz12 x w hx
    have N2 := negz12 y w hy
    rw [hzx] at N1
    rw [hzy] at N2
    clear hzx hzy he hr
    go_enter Try.func14, Try.ntmps14
    go_wp2_with fail
    refine (nan15 x _).mono ?_
    rintro e w' ⟨rfl, rfl⟩
    go_wp2_with fail
    refine (nan15 y _).mono ?_
    rintro e w' ⟨rfl, rfl⟩
    go_wp2_with fail
    refine N1.mono ?_
    rintro e w' ⟨rfl, rfl⟩
    go_wp2_with fail
    refine N2.mono ?_
    rintro e w' ⟨rfl, rfl⟩
    go_wp2
    go_ret
    exact ⟨by first | rfl | (rw [hz]; done) | simp [hz], rfl⟩

end Go.Proofs.Qxb6602679a
