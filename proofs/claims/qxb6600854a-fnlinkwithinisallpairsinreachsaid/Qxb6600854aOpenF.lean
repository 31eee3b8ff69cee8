import Derived.Test.Qxb6600854aRows
import Derived.WalkKit
import Derived.ProofKit
import Derived.OpenShut
import Derived.ShutString
import Derived.ChangeOld
import Derived.Below
import Derived.Deep.Slices
import Derived.Laws.Cover2
/-! Slices of floats that come in as arguments: what the walk is told of them. -/
namespace Go.Proofs.Qxb6600854a
open Go.ChangeShapes Go.WideShapes Go.ChangeAt Go.RowKit

theorem row_at {w : World} {a : Addr} {n : Nat} {V : Nat → Value} (h : ∀ i, i < n → w.cell? (a.add i) = some (V i)) (hp : 0 < n) :
    ∃ b off, a = ⟨b, off, none⟩ ∧ ∀ j, j < n → w.cell? ⟨b, off + j, none⟩ = some (V j) := by
  obtain ⟨b, off, spot⟩ := a
  have hspot : spot = none := by simpa [Addr.add] using World.cell?_spot (h 0 hp)
  subst hspot
  refine ⟨b, off, rfl, fun j hj => ?_⟩
  have := h j hj
  by_cases e : j = 0
  · subst e; simpa [Addr.add] using this
  · simpa [Addr.add, e] using this

/-- The slice is nil; or it has no element; or its elements are the words of d. -/
def IsF (k : FloatKind) (w : World) (a : Option Addr) (len cap : Nat) : Prop :=
  (a = none ∧ len = 0 ∧ cap = 0) ∨ ∃ x, a = some x ∧ (len = 0 ∨ ∃ b off, ∃ d : Array Nat, x = ⟨b, off, none⟩ ∧ d.size = len ∧ (∀ j : Nat, j < len → w.cell? ⟨b, off + j, none⟩ = some (.float k d[j]!)) ∧ ∀ j : Nat, j < len → (Lit.float k d[j]!).wf = true)

section
variable {H : Type} {enc : TypeId × Value → H} {P : Program} {w : World} {base : Nat} {held : Bool}

theorem trod_float {spare : Nat → Bool} {k : FloatKind} {t : TypeId} {fuel : Nat} {cs : List Value} {x : DataW H × List MemPlace} (ht : P.underlying t = some (.float k)) (h : DataW.trod enc P w base spare held fuel t cs = some x) :
    ∃ b, cs = [.float k b] ∧ (Lit.float k b).wf = true := by
  cases fuel with
  | zero => simp [DataW.trod] at h
  | succ n =>
    unfold DataW.trod at h
    rw [ht] at h
    split at h <;> simp_all

theorem getElem!_of (n : Nat) {α : Type} [Inhabited α] (f : Nat → α) (j : Nat) (hj : j < n) : ((Array.range n).map f)[j]! = f j := by
  rw [getElem!_pos _ j (by simpa using hj), Array.getElem_map, Array.getElem_range]

theorem open_F {t e : TypeId} {k : FloatKind} {a : Option Addr} {len cap : Nat} {d : DataW H} {ps : List MemPlace} (ht : P.underlying t = some (.slice e)) (he : P.underlying e = some (.float k)) (hc : P.cellsOf e = 1)
    (h : DataW.Trod enc P w base (fun _ => true) held t (.slice a len cap) d ps) : IsF k w a len cap := by
  obtain ⟨fuel, hf⟩ := h
  rcases Go.Deep.open_slice1 ht hc hf with ⟨hcs, _⟩ | ⟨x, l, c, m, n, V, D, Pl, hcs, _, hl, _, hm, _, hx⟩
  · simp [Value.cells] at hcs
    exact .inl hcs
  · simp [Value.cells] at hcs
    obtain ⟨rfl, rfl, rfl⟩ := hcs
    refine .inr ⟨x, rfl, ?_⟩
    by_cases h0 : len = 0
    · exact .inl h0
    · right
      simp only [if_true] at hm
      subst hm
      have hV : ∀ i, i < len → ∃ b, V i = .float k b ∧ (Lit.float k b).wf = true := fun i hi => by
        obtain ⟨b, e1, e2⟩ := trod_float he (hx i (by omega)).2
        exact ⟨b, by simpa using e1, e2⟩
      obtain ⟨f, hF⟩ := Go.Deep.choose_lt hV
      obtain ⟨b, off, rfl, hcell⟩ := row_at (n := len) (V := V) (fun i hi => (hx i (by omega)).1) (by omega)
      exact ⟨b, off, (Array.range len).map f, rfl, by simp, fun j hj => by rw [getElem!_of len f j hj, hcell j hj, (hF j hj).1], fun j hj => by rw [getElem!_of len f j hj]; exact (hF j hj).2⟩

end

theorem Try.own : ownKnob Try.prog.godebug = none := by kernel_rfl
theorem Try.laidOut : laidOutB Try.prog = true := by kernel_rfl
theorem Try.cells32 : Try.prog.cellsOf 32 = 1 := by kernel_rfl

end Go.Proofs.Qxb6600854a
