/- The proof of the given statement Rows.FnLinkWithinIsAllPairsInReachSaid. The frame is turned from the guide's shell for a law over slices of integers. -/
import Derived.Test.Qxb6600854aRows
import Derived.Test.Qxb6600854aOpenF
import Derived.Test.Qxb6600854aLaw1
import Derived.WalkKit
import Derived.ProofKit
import Derived.OpenShut
import Derived.ShutString
import Derived.ChangeOld
import Derived.Below
namespace Go.Proofs.Qxb6600854a.fnLinkWithinIsAllPairsInReach
open Go.ChangeShapes Go.WideShapes Go.ChangeAt Go.RowKit
open Go.ChangeMaps (open_string shut_string)
set_option linter.unusedVariables false

theorem walk (a0 : Option Addr) (len0 cap0 : Nat) (a1 : Option Addr) (len1 cap1 : Nat) (sd rc : Nat) (w : World) (w0 : IsF .f64 w a0 len0 cap0) (w1 : IsF .f64 w a1 len1 cap1) :
    Calls Try.prog 7 #[.slice a0 len0 cap0, .slice a1 len1 cap1, .float .f64 sd, .float .f64 rc] w fun e w' => e = .returned (.bool true) ∧ Below w.heap.size w w' := by
  show Calls Try.prog 7 #[.slice a0 len0 cap0, .slice a1 len1 cap1, .float .f64 sd, .float .f64 rc] w (Lk.Good w)
  by_cases big : 1048576 < len0 + len1
  · exact Lk.law7_bytes a0 a1 len0 cap0 len1 cap1 sd rc w big
  by_cases long : 1024 < len0 ∨ 1024 < len1
  · exact Lk.law7_long a0 a1 len0 cap0 len1 cap1 sd rc w (by omega) long
  by_cases even : len0 = len1
  · subst even
    by_cases fl : Fl.ge64 sd 3110860544497550640 = true ∧ Fl.le64 sd 6103021453049119613 = true ∧ Fl.ge64 rc 0 = true ∧ Fl.le64 rc 6103021453049119613 = true
    · obtain ⟨k1, k2, k3, k4⟩ := fl
      have z0 : a0 = none → cap0 = 0 := fun e => by
        rcases w0 with ⟨_, _, h⟩ | ⟨x, h, _⟩
        · exact h
        · rw [e] at h; cases h
      have z1 : a1 = none → cap1 = 0 := fun e => by
        rcases w1 with ⟨_, _, h⟩ | ⟨x, h, _⟩
        · exact h
        · rw [e] at h; cases h
      by_cases n0 : len0 = 0
      · subst n0
        exact Lk.law7_none a0 a1 cap0 cap1 sd rc w z0 z1 k1 k2 k3 k4
      · rcases w0 with ⟨_, h, _⟩ | ⟨x, rfl, h | ⟨b, off, d, rfl, _, hc, _⟩⟩
        · exact absurd h n0
        · exact absurd h n0
        rcases w1 with ⟨_, h, _⟩ | ⟨x, rfl, h | ⟨b', off', d', rfl, _, hc', _⟩⟩
        · exact absurd h n0
        · exact absurd h n0
        exact Lk.law7_main b off cap0 b' off' cap1 len0 sd rc (fun j => d[j]!) (fun j => d'[j]!) w (by omega) (by omega) hc hc' k1 k2 k3 k4
    · exact Lk.law7_floats a0 a1 len0 cap0 cap1 sd rc w (by omega) fl
  · exact Lk.law7_uneven a0 a1 len0 cap0 len1 cap1 sd rc w (by omega) (by omega) even

set_option maxRecDepth 100000 in
theorem lifted (os : Os) (started : os.Started) (H : Type) (enc : TypeId × Value → H) :
    ReturnsInHanded {} Try.checked os 7 .any (Rows.fnLinkWithinIsAllPairsInReachSpec.pre6 enc Try.prog Try.f7 Rows.fnLinkWithinIsAllPairsInReachRow.domain false) (Rows.fnLinkWithinIsAllPairsInReachSpec.post enc Try.prog Try.f7 false true false false) := by
  refine returnsInHanded_of_change (C := Try.checked) Try.own started (by kernel_rfl) Try.func7
    (ChangeSpec.witness6 (enc := enc) (C := Try.checked) false ⟨#[], #[.slice none 0 0, .slice none 0 0, .float .f64 0, .float .f64 0], []⟩ 8 (by kernel_rfl) (by kernel_rfl) (by kernel_rfl) (by kernel_rfl)) ?_
  intro W base args ds gs before hval0 hW hcnd _
  have hval : ∀ (j : Nat) t v, Try.f7.params[j]? = some t → args[j]? = some v → Value.okWide Try.prog W .any base t v := hval0
  have hW' := hW
  obtain ⟨p, q, hA0, hV, rfl, hfz, hnd⟩ := hW
  have hA : DataW.TrodAll enc Try.prog W 0 (fun _ => true) true Try.f7.params.toList args.toList ds p := hA0
  rw [Try.params7] at hA hval
  obtain ⟨v0, vs0, d0, ds0, p0, q0, hargs, rfl, rfl, h0, r0⟩ := trodAll_cons hA
  obtain ⟨v1, vs1, d1, ds1, p1, q1, rfl, rfl, rfl, h1, r1⟩ := trodAll_cons r0
  obtain ⟨v2, vs2, d2, ds2, p2, q2, rfl, rfl, rfl, h2, r2⟩ := trodAll_cons r1
  obtain ⟨v3, vs3, d3, ds3, p3, q3, rfl, rfl, rfl, h3, r3⟩ := trodAll_cons r2
  obtain ⟨rfl, rfl, rfl⟩ := trodAll_nil r3
  obtain rfl : args = #[v0, v1, v2, v3] := by cases args; simp_all
  obtain ⟨rfl, rfl⟩ := trodVars_none hV
  obtain ⟨a0, len0, cap0, rfl⟩ := okWide_slice Try.underlying31 (hval 0 31 v0 rfl rfl)
  obtain ⟨a1, len1, cap1, rfl⟩ := okWide_slice Try.underlying31 (hval 1 31 v1 rfl rfl)
  have k0 := h0
  have k1 := h1
  have lt0 : ∀ x ∈ p0, x.block < W.heap.size := by obtain ⟨m, hm⟩ := k0; exact DataW.trod_lt m _ _ _ hm
  have lt1 : ∀ x ∈ p1, x.block < W.heap.size := by obtain ⟨m, hm⟩ := k1; exact DataW.trod_lt m _ _ _ hm
  have w0 : IsF .f64 W a0 len0 cap0 := open_F Try.underlying31 Try.underlying32 Try.cells32 h0
  have w1 : IsF .f64 W a1 len1 cap1 := open_F Try.underlying31 Try.underlying32 Try.cells32 h1
  obtain ⟨sd, rfl, rfl, rfl, w2⟩ := open_float Try.underlying32 (hval 2 32 v2 rfl rfl) h2
  obtain ⟨rc, rfl, rfl, rfl, w3⟩ := open_float Try.underlying32 (hval 3 32 v3 rfl rfl) h3
  clear hA0 hval0
  refine (walk a0 len0 cap0 a1 len1 cap1 sd rc W w0 w1).mono fun e W' ⟨he, bel⟩ => ?_
  subst he
  exact ⟨_, rfl, _, _, _, [], _, [], hW', trodAll_mk1 (shut_bool Try.underlying4 _), (trodAll_cons_mk (Below.trod Try.laidOut (by kernel_rfl) (of_decide_eq_true (by kernel_rfl)) k0 bel lt0) (trodAll_cons_mk (Below.trod Try.laidOut (by kernel_rfl) (of_decide_eq_true (by kernel_rfl)) k1 bel lt1) (trodAll_cons_mk (shut_float Try.underlying32 w2) (trodAll_cons_mk (shut_float Try.underlying32 w3) trodAll_mk0)))), rfl, bel.frame _, fun h => by cases h⟩

theorem over : Rows.fnLinkWithinIsAllPairsInReachRow.holds Try.pinned (OpenSpec.ofChange Rows.fnLinkWithinIsAllPairsInReachSpec) :=
  OpenClaim.holds_of_wide 7 Try.f7 rfl rfl rfl rfl rfl rfl rfl ⟨rfl, rfl, rfl, rfl, rfl⟩ rfl rfl rfl rfl rfl (by kernel_rfl) Try.func7 (by kernel_rfl)
    (of_decide_eq_true (by kernel_rfl)) (by unfold Func.isWrapper; first | (rw [if_pos (by decide +kernel)]; kernel_rfl) | (rw [if_neg (by decide +kernel)]; exact ⟨rfl, rfl⟩))
    (fun os started H enc _ => lifted os started H enc)

/-- THE STATEMENT -/
theorem proved : Rows.FnLinkWithinIsAllPairsInReachSaid := over
#print axioms proved
end Go.Proofs.Qxb6600854a.fnLinkWithinIsAllPairsInReach
