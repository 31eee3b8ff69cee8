/- The proof of the given statement Rows.FnGridCopiesIsTheLeastCoverCountSaid: the frame is the seat's shell, the walk is typed by hand. -/
import Derived.Test.Qxb6600854aRows
import Derived.Test.Qxb6600854aGrid
import Derived.WalkKit
import Derived.ProofKit
import Derived.OpenShut
import Derived.ShutString
namespace Go.Proofs.Qxb6600854a.fnGridCopiesIsTheLeastCoverCount
open Go.ChangeShapes Go.WideShapes Go.ChangeAt Go.RowKit
open Go.ChangeMaps (open_string shut_string)
set_option linter.unusedVariables false      -- a walk need not use every 'w<i>' (that an integer argument fits its kind)

theorem own : ownKnob Try.prog.godebug = none := by kernel_rfl

theorem walkA (d s h : Int) (w : World) (d0 : 0 ≤ d) (d1 : d ≤ 1152921504606846976) (h0 : 0 ≤ h) (h1 : h ≤ 1073741824) (hs : s ≤ h) :
    Calls Try.prog 5 #[.int .i64 d, .int .i64 s, .int .i64 h] w fun e w' => e = .returned (.bool true) ∧ Grown w w' := by
  go_enter Try.func5, Try.ntmps5
  go_wp2_with (go_at_call 13; refine (Grid.walk13a d s h _ hs).mono ?_; rintro e w' ⟨rfl, hgr⟩)
  go_ret
  exact ⟨rfl, hgr⟩

theorem walkB (d s h c A B P Q : Int) (w : World) (d0 : 0 ≤ d) (d1 : d ≤ 1152921504606846976) (h0 : 0 ≤ h) (h1 : h ≤ 1073741824) (hs : h < s)
    (hc : Grid.gc d s h = c) (hA : (h + 1) * (h + 1) = A) (hB : h * h = B) (hP : c * (A + B) = P) (hQ : (c - 1) * (A + B) = Q)
    (a1 : A ≤ 1152921506754330625) (b0 : 0 ≤ B) (b1 : B ≤ 1152921504606846976) (ab : 0 < A)
    (q0 : 0 ≤ d / (A + B)) (q1 : d / (A + B) ≤ d) (c0 : 0 ≤ c) (c1 : c ≤ d / (A + B) + 1) (p0 : d ≤ P) (p1 : P ≤ d + (A + B) - 1) (r0 : Q < d) (r1 : - (A + B) ≤ Q) :
    Calls Try.prog 5 #[.int .i64 d, .int .i64 s, .int .i64 h] w fun e w' => e = .returned (.bool true) ∧ Grown w w' := by
  go_enter Try.func5, Try.ntmps5
  go_wp2_with (go_at_call 13; refine (Grid.walk13 d s h _ d0 d1 h0 h1).mono ?_; rintro e w' ⟨rfl, hgr⟩)
  go_ret
  exact ⟨rfl, hgr⟩

/-! ### STEP 1: THE WALK: the Go text returns true. 'Grown w w'': the world has at most new blocks (Derived/RowKit3.lean). Part the cases AHEAD of 'go_enter' where a test parts the walk; take each callee by a contract of your own. -/
theorem walk (a0 : Int) (a1 : Int) (a2 : Int) (w0 : (Lit.int .i64 a0).wf = true) (w1 : (Lit.int .i64 a1).wf = true) (w2 : (Lit.int .i64 a2).wf = true) (w : World) :
    Calls Try.prog 5 #[.int .i64 a0, .int .i64 a1, .int .i64 a2] w fun e w' => e = .returned (.bool true) ∧ Grown w w' := by
  obtain ⟨d0, d1⟩ := bounds_i64 w0
  by_cases h1 : a0 < 0
  · go_enter Try.func5, Try.ntmps5
    go_wp2
    go_ret
    exact ⟨rfl, Grown.refl _⟩
  by_cases h2 : 1152921504606846976 < a0
  · go_enter Try.func5, Try.ntmps5
    go_wp2
    go_ret
    exact ⟨rfl, Grown.refl _⟩
  by_cases h3 : a2 < 0
  · go_enter Try.func5, Try.ntmps5
    go_wp2
    go_ret
    exact ⟨rfl, Grown.refl _⟩
  by_cases h4 : 1073741824 < a2
  · go_enter Try.func5, Try.ntmps5
    go_wp2
    go_ret
    exact ⟨rfl, Grown.refl _⟩
  by_cases hs : a1 ≤ a2
  · exact walkA a0 a1 a2 w (by omega) (by omega) (by omega) (by omega) hs
  · obtain ⟨g0, g1, g2, g3, g4⟩ := Grid.gc_cover a0 a1 a2 (by omega) (by omega) (by omega)
    have s1 : (a2 + 1) * (a2 + 1) ≤ 1073741825 * 1073741825 := Int.mul_le_mul (by omega) (by omega) (by omega) (by decide)
    have s2 : a2 * a2 ≤ 1073741824 * 1073741824 := Int.mul_le_mul (by omega) (by omega) (by omega) (by decide)
    have s3 : 0 ≤ a2 * a2 := Int.mul_nonneg (by omega) (by omega)
    have s4 : 0 < (a2 + 1) * (a2 + 1) := Int.mul_pos (by omega) (by omega)
    have s5 : 0 ≤ Grid.gc a0 a1 a2 * ((a2 + 1) * (a2 + 1) + a2 * a2) := Int.mul_nonneg g0 (by omega)
    have s6 : (Grid.gc a0 a1 a2 - 1) * ((a2 + 1) * (a2 + 1) + a2 * a2) = Grid.gc a0 a1 a2 * ((a2 + 1) * (a2 + 1) + a2 * a2) - ((a2 + 1) * (a2 + 1) + a2 * a2) := by rw [Int.sub_mul, Int.one_mul]
    exact walkB a0 a1 a2 _ _ _ _ _ w (by omega) (by omega) (by omega) (by omega) (by omega) rfl rfl rfl rfl rfl (by omega) (by omega) (by omega) (by omega) (Int.ediv_nonneg (by omega) (by omega)) (Int.ediv_le_self _ (by omega)) g0 g1 g2 g4 g3 (by omega)

/-! ### THE ROW's STEP: WRITTEN OUT: LEAVE IT -/
set_option maxRecDepth 100000 in
theorem lifted (os : Os) (started : os.Started) (H : Type) (enc : TypeId × Value → H) :
    ReturnsInHanded {} Try.checked os 5 .any (Rows.fnGridCopiesIsTheLeastCoverCountSpec.pre6 enc Try.prog Try.f5 Rows.fnGridCopiesIsTheLeastCoverCountRow.domain false) (Rows.fnGridCopiesIsTheLeastCoverCountSpec.post enc Try.prog Try.f5 false true false false) := by
  refine returnsInHanded_of_change (C := Try.checked) own started (by kernel_rfl) Try.func5
    (ChangeSpec.witness6 (enc := enc) (C := Try.checked) false ⟨#[], #[.int .i64 0, .int .i64 0, .int .i64 0], []⟩ 8 (by kernel_rfl) (by kernel_rfl) (by kernel_rfl) (by kernel_rfl)) ?_
  intro W base args ds gs before hval0 hW hcnd _
  have hval : ∀ (j : Nat) t v, Try.f5.params[j]? = some t → args[j]? = some v → Value.okWide Try.prog W .any base t v := hval0
  have hW' := hW
  obtain ⟨p, q, hA0, hV, rfl, hfz, hnd⟩ := hW
  have hA : DataW.TrodAll enc Try.prog W 0 (fun _ => true) true Try.f5.params.toList args.toList ds p := hA0
  rw [Try.params5] at hA hval
  obtain ⟨v0, vs0, d0, ds0, p0, q0, hargs, rfl, rfl, h0, r0⟩ := trodAll_cons hA
  obtain ⟨v1, vs1, d1, ds1, p1, q1, rfl, rfl, rfl, h1, r1⟩ := trodAll_cons r0
  obtain ⟨v2, vs2, d2, ds2, p2, q2, rfl, rfl, rfl, h2, r2⟩ := trodAll_cons r1
  obtain ⟨rfl, rfl, rfl⟩ := trodAll_nil r2
  obtain rfl : args = #[v0, v1, v2] := by cases args; simp_all
  obtain ⟨rfl, rfl⟩ := trodVars_none hV
  obtain ⟨a0, rfl, rfl, rfl, w0⟩ := open_int Try.underlying2 (hval 0 2 v0 rfl rfl) h0
  obtain ⟨a1, rfl, rfl, rfl, w1⟩ := open_int Try.underlying2 (hval 1 2 v1 rfl rfl) h1
  obtain ⟨a2, rfl, rfl, rfl, w2⟩ := open_int Try.underlying2 (hval 2 2 v2 rfl rfl) h2
  clear hA0 hval0
  simp only [List.append_nil] at hW'
  refine (walk a0 a1 a2 w0 w1 w2 W).mono fun e W' ⟨he, hg⟩ => ?_
  subst he
  exact ⟨_, rfl, post_of_same (pa := []) (pv := []) hW' (fun _ _ _ => (trodAll_cons_mk (shut_bool Try.underlying4 _) trodAll_mk0)) (fun sp _ => (trodAll_cons_mk (shut_int Try.underlying2 w0) (trodAll_cons_mk (shut_int Try.underlying2 w1) (trodAll_cons_mk (shut_int Try.underlying2 w2) trodAll_mk0)))) (fun _ _ => rfl) rfl
    (hg.frame _) hg.2.1 (ok_one (by kernel_rfl) rfl (okWide_bool_mk Try.underlying4 _))⟩

theorem over : Rows.fnGridCopiesIsTheLeastCoverCountRow.holds Try.pinned (OpenSpec.ofChange Rows.fnGridCopiesIsTheLeastCoverCountSpec) :=
  OpenClaim.holds_of_wide 5 Try.f5 rfl rfl rfl rfl rfl rfl rfl ⟨rfl, rfl, rfl, rfl, rfl⟩ rfl rfl rfl rfl rfl (by kernel_rfl) Try.func5 (by kernel_rfl)
    (of_decide_eq_true (by kernel_rfl)) (by unfold Func.isWrapper; first | (rw [if_pos (by decide +kernel)]; kernel_rfl) | (rw [if_neg (by decide +kernel)]; exact ⟨rfl, rfl⟩))
    (fun os started H enc _ => lifted os started H enc)

/-- ████ THE STATEMENT ████ -/
theorem proved : Rows.FnGridCopiesIsTheLeastCoverCountSaid :=
  over
#print axioms proved
end Go.Proofs.Qxb6600854a.fnGridCopiesIsTheLeastCoverCount
