import Derived.Test.Qxb6602679aPopPlain
/-! The plain part of popping till the heap is empty. No program, no walk. -/
namespace Go.Proofs.Qxb6602679a.Hp
open Go.Sort
set_option linter.unusedVariables false

/-- So much of the heap is left (m places of V), so far the marks M, the places T; T0: the places at the start. -/
structure Dr (A V : Array Nat) (T0 T M : Array Int) (m : Nat) : Prop where
  ok : Ok A V T m
  msz : M.size = T.size
  one : ∀ j : Nat, j < m → M[V[j]!]! = 1
  two : ∀ x : Nat, M[x]! = 2 → T[x]! = -1
  has : ∀ x : Nat, M[x]! = 1 → ∃ j, j < m ∧ V[j]! = x
  nil : ∀ x : Nat, M[x]! = 0 → T[x]! = T0[x]!
  low : ∀ x : Nat, M[x]! = 0 ∨ M[x]! = 1 ∨ M[x]! = 2

theorem Dr_step {A V : Array Nat} {T0 T M : Array Int} {m : Nat} (h : Dr A V T0 T M m) (hm : 1 ≤ m) {V' : Array Nat} {T' : Array Int} (p : Popped A V T m V' T') : Dr A V' T0 T' (M.setIfInBounds V[0]! 2) (m - 1) := by
  have r0 : V[0]! < M.size := by rw [h.msz]; exact (h.ok.rng 0 (by omega)).1
  have same := getElem!_set_same M V[0]! 2 r0
  have oth := fun x hx => getElem!_set_other M V[0]! x 2 hx
  have notV : ∀ x : Nat, M[x]! ≠ 1 → ∀ k : Nat, k < m → V[k]! ≠ x := fun x hx k hk e => hx (by rw [← e]; exact h.one k hk)
  refine ⟨p.ok, by rw [Array.size_setIfInBounds, p.tsz]; exact h.msz, fun j hj => ?_, fun x hx => ?_, fun x hx => ?_, fun x hx => ?_, fun x => ?_⟩
  · obtain ⟨k, h1, h2, e⟩ := p.mem j hj
    rw [e, oth V[k]! (fun q => by have := h.ok.inj k 0 h2 (by omega) q; omega)]
    exact h.one k h2
  · by_cases e : x = V[0]!
    · rw [e]; exact p.top
    · rw [oth x e] at hx
      rw [p.oth x (notV x (by rw [hx]; decide))]
      exact h.two x hx
  · have e : x ≠ V[0]! := fun e => by rw [e, same] at hx; cases hx
    rw [oth x e] at hx
    obtain ⟨j, hj, hjx⟩ := h.has x hx
    have j0 : j ≠ 0 := fun q => e (by rw [← hjx, q])
    obtain ⟨j', h1, h2⟩ := p.mem' j (by omega) hj
    exact ⟨j', h1, by rw [h2]; exact hjx⟩
  · have e : x ≠ V[0]! := fun e => by rw [e, same] at hx; cases hx
    rw [oth x e] at hx
    rw [p.oth x (notV x (by rw [hx]; decide))]
    exact h.nil x hx
  · by_cases e : x = V[0]!
    · rw [e, same]; exact .inr (.inr rfl)
    · rw [oth x e]; exact h.low x

/-- The variable that was popped last out-ranks what is left. -/
def Pv (A V : Array Nat) (m pr : Nat) : Prop := ∀ j : Nat, j < m → nn A[pr]! ∧ nn A[V[j]!]! ∧ kv A[V[j]!]! ≤ kv A[pr]!

theorem Pv_step {A V : Array Nat} {T : Array Int} {m : Nat} (h : Ok A V T m) {V' : Array Nat} {T' : Array Int} (p : Popped A V T m V' T') : Pv A V' (m - 1) V[0]! := fun j hj => by
  obtain ⟨k, h1, h2, e⟩ := p.mem j hj
  rw [e]
  exact ⟨h.nan (by omega) 0 (by omega), h.nan (by omega) k h2, root_max h k h2⟩

end Go.Proofs.Qxb6602679a.Hp
