/- The proof of the given statement Rows.FnGridCopiesFallAsHopsGrowSaid: the frame is the seat's shell, the walk is typed by hand. -/
import Derived.Test.Qxb6600854aRows
import Derived.Test.Qxb6600854aGrid
import Derived.WalkKit
import Derived.ProofKit
import Derived.OpenShut
import Derived.ShutString
namespace Go.Proofs.Qxb6600854a.fnGridCopiesFallAsHopsGrow
open Go.ChangeShapes Go.WideShapes Go.ChangeAt Go.RowKit
open Go.ChangeMaps (open_string shut_string)
set_option linter.unusedVariables false      -- a walk need not use every 'w<i>' (that an integer argument fits its kind)

theorem own : ownKnob Try.prog.godebug = none := by kernel_rfl

theorem gc_ge_one (d s h : Int) (d0 : 1 ≤ d) (h0 : 0 ≤ h) : 1 ≤ Grid.gc d s h := by
  unfold Grid.gc
  split
  · omega
  · have a : 0 ≤ 2 * h * h := Int.mul_nonneg (by omega) h0
    obtain ⟨R, hR⟩ : ∃ R, 2 * h * h + 2 * h + 1 = R := ⟨_, rfl⟩
    rw [hR]
    have := Int.add_mul_ediv_right (d - 1) 1 (show R ≠ 0 by omega)
    rw [Int.one_mul] at this
    rw [show d + R - 1 = d - 1 + R by omega, this]
    have := Int.ediv_nonneg (show 0 ≤ d - 1 by omega) (show 0 ≤ R by omega)
    omega

theorem gc_le_devices (d s h : Int) (d0 : 1 ≤ d) (h0 : 0 ≤ h) : Grid.gc d s h ≤ d := by
  unfold Grid.gc
  split
  · omega
  · have a : 0 ≤ 2 * h * h := Int.mul_nonneg (by omega) h0
    obtain ⟨R, hR⟩ : ∃ R, 2 * h * h + 2 * h + 1 = R := ⟨_, rfl⟩
    rw [hR]
    have := Int.add_mul_ediv_right (d - 1) 1 (show R ≠ 0 by omega)
    rw [Int.one_mul] at this
    rw [show d + R - 1 = d - 1 + R by omega, this]
    have := Int.ediv_le_self R (show 0 ≤ d - 1 by omega)
    omega

theorem gc_falls (d s h1 h2 : Int) (d0 : 1 ≤ d) (h0 : 0 ≤ h1) (h12 : h1 ≤ h2) : Grid.gc d s h2 ≤ Grid.gc d s h1 := by
  by_cases hs : s ≤ h2
  · have := gc_ge_one d s h1 d0 h0
    unfold Grid.gc at this ⊢
    rw [if_pos hs]; exact this
  · have e1 : 2 * h1 * h1 ≤ 2 * h2 * h2 := Int.mul_le_mul (by omega) h12 h0 (by omega)
    have a : 0 ≤ 2 * h1 * h1 := Int.mul_nonneg (by omega) h0
    unfold Grid.gc
    rw [if_neg hs, if_neg (by omega)]
    obtain ⟨R, hR⟩ : ∃ R, 2 * h1 * h1 + 2 * h1 + 1 = R := ⟨_, rfl⟩
    obtain ⟨S, hS⟩ : ∃ S, 2 * h2 * h2 + 2 * h2 + 1 = S := ⟨_, rfl⟩
    rw [hR, hS]
    have t1 := Int.add_mul_ediv_right (d - 1) 1 (show R ≠ 0 by omega)
    have t2 := Int.add_mul_ediv_right (d - 1) 1 (show S ≠ 0 by omega)
    rw [Int.one_mul] at t1 t2
    rw [show d + R - 1 = d - 1 + R by omega, show d + S - 1 = d - 1 + S by omega, t1, t2]
    have : (d - 1) / S ≤ (d - 1) / R := by
      apply Int.le_ediv_of_mul_le (by omega)
      have u := Int.mul_ediv_self_le (x := d - 1) (k := S) (by omega)
      have q := Int.ediv_nonneg (show 0 ≤ d - 1 by omega) (show 0 ≤ S by omega)
      have v : (d - 1) / S * R ≤ (d - 1) / S * S := Int.mul_le_mul_of_nonneg_left (by omega) q
      rw [Int.mul_comm S] at u
      omega
    omega

theorem walkIn (d s g h c1 c2 : Int) (w : World) (d0 : 1 ≤ d) (d1 : d ≤ 1152921504606846976) (h0 : 0 ≤ g) (gh : g ≤ h) (h1 : h ≤ 1073741824)
    (hc1 : Grid.gc d s g = c1) (hc2 : Grid.gc d s h = c2) (b1 : 1 ≤ c2) (b2 : c2 ≤ c1) (b3 : c1 ≤ d) :
    Calls Try.prog 6 #[.int .i64 d, .int .i64 s, .int .i64 g, .int .i64 h] w fun e w' => e = .returned (.bool true) ∧ Grown w w' := by
  go_enter Try.func6, Try.ntmps6
  go_wp2_with fail
  refine (Grid.walk13 d s g _ (by omega) d1 h0 (by omega)).mono ?_
  rintro e w' ⟨rfl, hg1⟩
  go_wp2_with fail
  refine (Grid.walk13 d s h _ (by omega) d1 (by omega) h1).mono ?_
  rintro e w'' ⟨rfl, hg2⟩
  go_wp2
  go_ret
  exact ⟨rfl, World.keptBut_trans hg1.1 hg2.1, fun a => (hg2.2.1 a).trans (hg1.2.1 a), Nat.le_trans hg1.2.2 hg2.2.2⟩

/-! ### STEP 1: THE WALK: the Go text returns true. 'Grown w w'': the world has at most new blocks (Derived/RowKit3.lean). Part the cases AHEAD of 'go_enter' where a test parts the walk; take each callee by a contract of your own. -/
theorem walk (a0 : Int) (a1 : Int) (a2 : Int) (a3 : Int) (w0 : (Lit.int .i64 a0).wf = true) (w1 : (Lit.int .i64 a1).wf = true) (w2 : (Lit.int .i64 a2).wf = true) (w3 : (Lit.int .i64 a3).wf = true) (w : World) :
    Calls Try.prog 6 #[.int .i64 a0, .int .i64 a1, .int .i64 a2, .int .i64 a3] w fun e w' => e = .returned (.bool true) ∧ Grown w w' := by
  by_cases c1 : a0 < 1
  · go_enter Try.func6, Try.ntmps6
    go_wp2
    go_ret
    exact ⟨rfl, Grown.refl _⟩
  by_cases c2 : 1152921504606846976 < a0
  · go_enter Try.func6, Try.ntmps6
    go_wp2
    go_ret
    exact ⟨rfl, Grown.refl _⟩
  by_cases c3 : a2 < 0
  · go_enter Try.func6, Try.ntmps6
    go_wp2
    go_ret
    exact ⟨rfl, Grown.refl _⟩
  by_cases c4 : a3 < a2
  · go_enter Try.func6, Try.ntmps6
    go_wp2
    go_ret
    exact ⟨rfl, Grown.refl _⟩
  by_cases c5 : 1073741824 < a3
  · go_enter Try.func6, Try.ntmps6
    go_wp2
    go_ret
    exact ⟨rfl, Grown.refl _⟩
  exact walkIn a0 a1 a2 a3 _ _ w (by omega) (by omega) (by omega) (by omega) (by omega) rfl rfl (gc_ge_one _ _ _ (by omega) (by omega)) (gc_falls _ _ _ _ (by omega) (by omega) (by omega)) (gc_le_devices _ _ _ (by omega) (by omega))

/-! ### THE ROW's STEP: WRITTEN OUT: LEAVE IT -/
set_option maxRecDepth 100000 in
theorem lifted (os : Os) (started : os.Started) (H : Type) (enc : TypeId × Value → H) :
    ReturnsInHanded {} Try.checked os 6 .any (Rows.fnGridCopiesFallAsHopsGrowSpec.pre6 enc Try.prog Try.f6 Rows.fnGridCopiesFallAsHopsGrowRow.domain false) (Rows.fnGridCopiesFallAsHopsGrowSpec.post enc Try.prog Try.f6 false true false false) := by
  refine returnsInHanded_of_change (C := Try.checked) own started (by kernel_rfl) Try.func6
    (ChangeSpec.witness6 (enc := enc) (C := Try.checked) false ⟨#[], #[.int .i64 0, .int .i64 0, .int .i64 0, .int .i64 0], []⟩ 8 (by kernel_rfl) (by kernel_rfl) (by kernel_rfl) (by kernel_rfl)) ?_
  intro W base args ds gs before hval0 hW hcnd _
  have hval : ∀ (j : Nat) t v, Try.f6.params[j]? = some t → args[j]? = some v → Value.okWide Try.prog W .any base t v := hval0
  have hW' := hW
  obtain ⟨p, q, hA0, hV, rfl, hfz, hnd⟩ := hW
  have hA : DataW.TrodAll enc Try.prog W 0 (fun _ => true) true Try.f6.params.toList args.toList ds p := hA0
  rw [Try.params6] at hA hval
  obtain ⟨v0, vs0, d0, ds0, p0, q0, hargs, rfl, rfl, h0, r0⟩ := trodAll_cons hA
  obtain ⟨v1, vs1, d1, ds1, p1, q1, rfl, rfl, rfl, h1, r1⟩ := trodAll_cons r0
  obtain ⟨v2, vs2, d2, ds2, p2, q2, rfl, rfl, rfl, h2, r2⟩ := trodAll_cons r1
  obtain ⟨v3, vs3, d3, ds3, p3, q3, rfl, rfl, rfl, h3, r3⟩ := trodAll_cons r2
  obtain ⟨rfl, rfl, rfl⟩ := trodAll_nil r3
  obtain rfl : args = #[v0, v1, v2, v3] := by cases args; simp_all
  obtain ⟨rfl, rfl⟩ := trodVars_none hV
  obtain ⟨a0, rfl, rfl, rfl, w0⟩ := open_int Try.underlying2 (hval 0 2 v0 rfl rfl) h0
  obtain ⟨a1, rfl, rfl, rfl, w1⟩ := open_int Try.underlying2 (hval 1 2 v1 rfl rfl) h1
  obtain ⟨a2, rfl, rfl, rfl, w2⟩ := open_int Try.underlying2 (hval 2 2 v2 rfl rfl) h2
  obtain ⟨a3, rfl, rfl, rfl, w3⟩ := open_int Try.underlying2 (hval 3 2 v3 rfl rfl) h3
  clear hA0 hval0
  simp only [List.append_nil] at hW'
  refine (walk a0 a1 a2 a3 w0 w1 w2 w3 W).mono fun e W' ⟨he, hg⟩ => ?_
  subst he
  exact ⟨_, rfl, post_of_same (pa := []) (pv := []) hW' (fun _ _ _ => (trodAll_cons_mk (shut_bool Try.underlying4 _) trodAll_mk0)) (fun sp _ => (trodAll_cons_mk (shut_int Try.underlying2 w0) (trodAll_cons_mk (shut_int Try.underlying2 w1) (trodAll_cons_mk (shut_int Try.underlying2 w2) (trodAll_cons_mk (shut_int Try.underlying2 w3) trodAll_mk0))))) (fun _ _ => rfl) rfl
    (hg.frame _) hg.2.1 (ok_one (by kernel_rfl) rfl (okWide_bool_mk Try.underlying4 _))⟩

theorem over : Rows.fnGridCopiesFallAsHopsGrowRow.holds Try.pinned (OpenSpec.ofChange Rows.fnGridCopiesFallAsHopsGrowSpec) :=
  OpenClaim.holds_of_wide 6 Try.f6 rfl rfl rfl rfl rfl rfl rfl ⟨rfl, rfl, rfl, rfl, rfl⟩ rfl rfl rfl rfl rfl (by kernel_rfl) Try.func6 (by kernel_rfl)
    (of_decide_eq_true (by kernel_rfl)) (by unfold Func.isWrapper; first | (rw [if_pos (by decide +kernel)]; kernel_rfl) | (rw [if_neg (by decide +kernel)]; exact ⟨rfl, rfl⟩))
    (fun os started H enc _ => lifted os started H enc)

/-- ████ THE STATEMENT ████ -/
theorem proved : Rows.FnGridCopiesFallAsHopsGrowSaid :=
  over
#print axioms proved
end Go.Proofs.Qxb6600854a.fnGridCopiesFallAsHopsGrow
