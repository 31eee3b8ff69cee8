/- The proof of the given statement Rows.FnOrderPopDrainsInOrderSaid. The frame is turned from the guide's shell for a law over slices. -/
import Derived.Test.Qxb6602679aRows
import Derived.Test.Qxb6602679aOpen
import Derived.Test.Qxb6602679aDrainLaw
import Derived.WalkKit
import Derived.ProofKit
import Derived.OpenShut
import Derived.ShutString
import Derived.ChangeOld
import Derived.Below
namespace Go.Proofs.Qxb6602679a.fnOrderPopDrainsInOrder
open Go.ChangeShapes Go.WideShapes Go.ChangeAt Go.RowKit
open Go.ChangeMaps (open_string shut_string)
set_option linter.unusedVariables false

set_option maxRecDepth 100000 in
/-- One of the guards says no. -/
theorem walk_out (a0 a1 a2 : Option Addr) (len0 cap0 len1 cap1 len2 cap2 : Nat) (w : World) (h : 65536 < len0 ∨ 65536 < len1 ∨ 65536 < len2) :
    Calls Try.prog 8 #[.slice a0 len0 cap0, .slice a1 len1 cap1, .slice a2 len2 cap2] w fun e w' => e = .returned (.bool true) ∧ Below w.heap.size w w' := by
  have BY := bytes28 a0 a1 a2 len0 cap0 len1 cap1 len2 cap2 w
  by_cases h1 : 65536 < len0
  · go_enter Try.func8, Try.ntmps8
    go_wp2_with fail
    refine BY.mono ?_
    rintro e w0 ⟨rfl | rfl, rfl⟩
    all_goals
      go_wp2
      go_ret
      exact ⟨rfl, Below.refl _ _⟩
  by_cases h2 : 65536 < len1
  · go_enter Try.func8, Try.ntmps8
    go_wp2_with fail
    refine BY.mono ?_
    rintro e w0 ⟨rfl | rfl, rfl⟩
    all_goals
      go_wp2
      go_ret
      exact ⟨rfl, Below.refl _ _⟩
  have h3 : 65536 < len2 := by omega
  clear h
  go_enter Try.func8, Try.ntmps8
  go_wp2_with fail
  refine BY.mono ?_
  rintro e w0 ⟨rfl | rfl, rfl⟩
  all_goals
    go_wp2
    go_ret
    exact ⟨rfl, Below.refl _ _⟩

theorem sl_F {k : FloatKind} {w : World} {a : Option Addr} {len cap : Nat} (h : IsF k w a len cap) : ∃ d : Array Nat, d.size = len ∧ Sl (Value.float k) w a len d ∧ Nl a len cap := by
  rcases h with ⟨rfl, rfl, rfl⟩ | ⟨x, rfl, rfl | ⟨b, off, d, rfl, hs, hc, _⟩⟩
  · exact ⟨#[], rfl, (fun h => absurd h (by omega)), fun _ => .inl ⟨rfl, rfl⟩⟩
  · exact ⟨#[], rfl, (fun h => absurd h (by omega)), fun _ => .inr ⟨x, rfl⟩⟩
  · exact ⟨d, hs, (fun _ => ⟨b, off, rfl, hc⟩), fun _ => .inr ⟨_, rfl⟩⟩
theorem sl_I {w : World} {a : Option Addr} {len cap : Nat} (h : IsI w a len cap) : ∃ d : Array Int, d.size = len ∧ Sl (Value.int .i32) w a len d ∧ (∀ j : Nat, j < len → -2147483648 ≤ d[j]! ∧ d[j]! ≤ 2147483647) ∧ Nl a len cap := by
  rcases h with ⟨rfl, rfl, rfl⟩ | ⟨x, rfl, rfl | ⟨b, off, d, rfl, hs, hc, hw⟩⟩
  · exact ⟨#[], rfl, (fun h => absurd h (by omega)), (fun j hj => absurd hj (by omega)), fun _ => .inl ⟨rfl, rfl⟩⟩
  · exact ⟨#[], rfl, (fun h => absurd h (by omega)), (fun j hj => absurd hj (by omega)), fun _ => .inr ⟨x, rfl⟩⟩
  · exact ⟨d, hs, (fun _ => ⟨b, off, rfl, hc⟩), (fun j hj => bounds_i32 (hw j hj)), fun _ => .inr ⟨_, rfl⟩⟩

theorem walk (a0 a1 a2 : Option Addr) (len0 cap0 len1 cap1 len2 cap2 : Nat) (w : World) (w0 : IsF .f64 w a0 len0 cap0) (w1 : IsI w a1 len1 cap1) (w2 : IsI w a2 len2 cap2) :
    Calls Try.prog 8 #[.slice a0 len0 cap0, .slice a1 len1 cap1, .slice a2 len2 cap2] w fun e w' => e = .returned (.bool true) ∧ Below w.heap.size w w' := by
  by_cases h : 65536 < len0 ∨ 65536 < len1 ∨ 65536 < len2
  · exact walk_out a0 a1 a2 len0 cap0 len1 cap1 len2 cap2 w h
  · obtain ⟨A, sA, hA, nA⟩ := sl_F w0
    obtain ⟨H, sH, hH, bH, nH⟩ := sl_I w1
    obtain ⟨T, sT, hT, _, nT⟩ := sl_I w2
    by_cases h0 : len1 = 0
    · subst h0
      exact law8_none a1 a2 a0 cap1 len2 cap2 len0 cap0 A T w (by omega) (by omega) sA sT (nH rfl) nA nT hA hT
    · obtain ⟨bh, oh, rfl, hc⟩ := hH (by omega)
      exact law8 bh oh len1 cap1 a2 a0 len2 cap2 len0 cap0 A H T w (by omega) (by omega) (by omega) (by omega) sH sA sT hc bH hA hT

set_option maxRecDepth 100000 in
theorem lifted (os : Os) (started : os.Started) (H : Type) (enc : TypeId × Value → H) :
    ReturnsInHanded {} Try.checked os 8 .any (Rows.fnOrderPopDrainsInOrderSpec.pre6 enc Try.prog Try.f8 Rows.fnOrderPopDrainsInOrderRow.domain false) (Rows.fnOrderPopDrainsInOrderSpec.post enc Try.prog Try.f8 false true false false) := by
  refine returnsInHanded_of_change (C := Try.checked) Try.own started (by kernel_rfl) Try.func8
    (ChangeSpec.witness6 (enc := enc) (C := Try.checked) false ⟨#[], #[.slice none 0 0, .slice none 0 0, .slice none 0 0], []⟩ 8 (by kernel_rfl) (by kernel_rfl) (by kernel_rfl) (by kernel_rfl)) ?_
  intro W base args ds gs before hval0 hW hcnd _
  have hval : ∀ (j : Nat) t v, Try.f8.params[j]? = some t → args[j]? = some v → Value.okWide Try.prog W .any base t v := hval0
  have hW' := hW
  obtain ⟨p, q, hA0, hV, rfl, hfz, hnd⟩ := hW
  have hA : DataW.TrodAll enc Try.prog W 0 (fun _ => true) true Try.f8.params.toList args.toList ds p := hA0
  rw [Try.params8] at hA hval
  obtain ⟨v0, vs0, d0, ds0, p0, q0, hargs, rfl, rfl, h0, r0⟩ := trodAll_cons hA
  obtain ⟨v1, vs1, d1, ds1, p1, q1, rfl, rfl, rfl, h1, r1⟩ := trodAll_cons r0
  obtain ⟨v2, vs2, d2, ds2, p2, q2, rfl, rfl, rfl, h2, r2⟩ := trodAll_cons r1
  obtain ⟨rfl, rfl, rfl⟩ := trodAll_nil r2
  obtain rfl : args = #[v0, v1, v2] := by cases args; simp_all
  obtain ⟨rfl, rfl⟩ := trodVars_none hV
  obtain ⟨a0, len0, cap0, rfl⟩ := okWide_slice Try.underlying31 (hval 0 31 v0 rfl rfl)
  obtain ⟨a1, len1, cap1, rfl⟩ := okWide_slice Try.underlying32 (hval 1 32 v1 rfl rfl)
  obtain ⟨a2, len2, cap2, rfl⟩ := okWide_slice Try.underlying32 (hval 2 32 v2 rfl rfl)
  have k0 := h0
  have k1 := h1
  have k2 := h2
  have lt0 : ∀ x ∈ p0, x.block < W.heap.size := by obtain ⟨m, hm⟩ := k0; exact DataW.trod_lt m _ _ _ hm
  have lt1 : ∀ x ∈ p1, x.block < W.heap.size := by obtain ⟨m, hm⟩ := k1; exact DataW.trod_lt m _ _ _ hm
  have lt2 : ∀ x ∈ p2, x.block < W.heap.size := by obtain ⟨m, hm⟩ := k2; exact DataW.trod_lt m _ _ _ hm
  have w0 : IsF .f64 W a0 len0 cap0 := open_F Try.underlying31 Try.underlying40 Try.cells40 h0
  have w1 : IsI W a1 len1 cap1 := open_I Try.underlying32 Try.underlying21 Try.cells21 h1
  have w2 : IsI W a2 len2 cap2 := open_I Try.underlying32 Try.underlying21 Try.cells21 h2
  clear hA0 hval0
  refine (walk a0 a1 a2 len0 cap0 len1 cap1 len2 cap2 W w0 w1 w2).mono fun e W' ⟨he, bel⟩ => ?_
  subst he
  exact ⟨_, rfl, _, _, _, [], _, [], hW', trodAll_mk1 (shut_bool Try.underlying4 _), (trodAll_cons_mk (Below.trod Try.laidOut (by kernel_rfl) (of_decide_eq_true (by kernel_rfl)) k0 bel lt0) (trodAll_cons_mk (Below.trod Try.laidOut (by kernel_rfl) (of_decide_eq_true (by kernel_rfl)) k1 bel lt1) (trodAll_cons_mk (Below.trod Try.laidOut (by kernel_rfl) (of_decide_eq_true (by kernel_rfl)) k2 bel lt2) trodAll_mk0))), rfl, bel.frame _, fun h => by cases h⟩

theorem over : Rows.fnOrderPopDrainsInOrderRow.holds Try.pinned (OpenSpec.ofChange Rows.fnOrderPopDrainsInOrderSpec) :=
  OpenClaim.holds_of_wide 8 Try.f8 rfl rfl rfl rfl rfl rfl rfl ⟨rfl, rfl, rfl, rfl, rfl⟩ rfl rfl rfl rfl rfl (by kernel_rfl) Try.func8 (by kernel_rfl)
    (of_decide_eq_true (by kernel_rfl)) (by unfold Func.isWrapper; first | (rw [if_pos (by decide +kernel)]; kernel_rfl) | (rw [if_neg (by decide +kernel)]; exact ⟨rfl, rfl⟩))
    (fun os started H enc _ => lifted os started H enc)

/-- THE STATEMENT -/
theorem proved : Rows.FnOrderPopDrainsInOrderSaid := over
#print axioms proved
end Go.Proofs.Qxb6602679a.fnOrderPopDrainsInOrder
