import Derived.Test.Qxb6602679aHeap
/-! The plain part of '(*order).pop'. No program, no walk. -/
namespace Go.Proofs.Qxb6602679a.Hp
open Go.Sort
set_option linter.unusedVariables false

/-- A heap of the first n places of V. -/
structure Ok (A V : Array Nat) (T : Array Int) (n : Nat) : Prop where
  ns : n ≤ V.size
  inj : ∀ j k : Nat, j < n → k < n → V[j]! = V[k]! → j = k
  rng : ∀ j : Nat, j < n → V[j]! < T.size ∧ V[j]! < A.size
  nan : 2 ≤ n → ∀ j : Nat, j < n → nn A[V[j]!]!
  ord : ∀ j : Nat, j < n → 0 < j → kv A[V[j]!]! ≤ kv A[V[(j - 1) / 2]!]!
  at_ : ∀ j : Nat, j < n → T[V[j]!]! = (j : Int)

theorem root_max {A V : Array Nat} {T : Array Int} {n : Nat} (h : Ok A V T n) : ∀ j : Nat, j < n → kv A[V[j]!]! ≤ kv A[V[0]!]! := by
  intro j
  induction j using Nat.strongRecOn with
  | ind j ih =>
    intro hj
    by_cases e : j = 0
    · rw [e]; exact Int.le_refl _
    · have := h.ord j hj (by omega)
      have := ih ((j - 1) / 2) (by omega) (by omega)
      omega

structure Popped (A V : Array Nat) (T : Array Int) (n : Nat) (V' : Array Nat) (T' : Array Int) : Prop where
  sz : V'.size = V.size
  tsz : T'.size = T.size
  ok : Ok A V' T' (n - 1)
  mem : ∀ j : Nat, j < n - 1 → ∃ k, 1 ≤ k ∧ k < n ∧ V'[j]! = V[k]!
  mem' : ∀ k : Nat, 1 ≤ k → k < n → ∃ j, j < n - 1 ∧ V'[j]! = V[k]!
  top : T'[V[0]!]! = -1
  oth : ∀ x : Nat, (∀ k : Nat, k < n → V[k]! ≠ x) → T'[x]! = T[x]!

theorem popped_one {A V : Array Nat} {T : Array Int} (h : Ok A V T 1) : Popped A V T 1 V (T.setIfInBounds V[0]! (-1)) := by
  refine ⟨rfl, by rw [Array.size_setIfInBounds], ⟨by omega, fun j k h1 => by omega, fun j h1 => by omega, fun h1 => by omega, fun j h1 => by omega, fun j h1 => by omega⟩, fun j h1 => by omega, fun k h1 h2 => by omega, ?_, ?_⟩
  · rw [getElem!_set_same T V[0]! _ (h.rng 0 (by omega)).1]
  · intro x hx
    rw [getElem!_set_other T V[0]! x _ (fun e => hx 0 (by omega) e.symm)]

def V1 (V : Array Nat) (n : Nat) : Array Nat := V.setIfInBounds 0 V[n - 1]!
def T1 (V : Array Nat) (T : Array Int) (n : Nat) : Array Int := (T.setIfInBounds V[0]! (-1)).setIfInBounds V[n - 1]! 0

theorem V1_0 {A V : Array Nat} {T : Array Int} {n : Nat} (h : Ok A V T n) (hn : 2 ≤ n) : (V1 V n)[0]! = V[n - 1]! := getElem!_set_same V 0 _ (by have := h.ns; omega)
theorem V1_o (V : Array Nat) (n j : Nat) (hj : j ≠ 0) : (V1 V n)[j]! = V[j]! := getElem!_set_other V 0 j _ hj
theorem V1_of {A V : Array Nat} {T : Array Int} {n : Nat} (h : Ok A V T n) (hn : 2 ≤ n) (j : Nat) (hj : j < n - 1) : ∃ k, 1 ≤ k ∧ k < n ∧ (V1 V n)[j]! = V[k]! ∧ (j = 0 → k = n - 1) ∧ (j ≠ 0 → k = j) := by
  by_cases e : j = 0
  · exact ⟨n - 1, by omega, by omega, by rw [e, V1_0 h hn], fun _ => rfl, fun q => absurd e q⟩
  · exact ⟨j, by omega, by omega, V1_o V n j e, fun q => absurd q e, fun _ => rfl⟩
theorem T1_size (V : Array Nat) (T : Array Int) (n : Nat) : (T1 V T n).size = T.size := by simp [T1]
theorem T1_top {A V : Array Nat} {T : Array Int} {n : Nat} (h : Ok A V T n) (hn : 2 ≤ n) : (T1 V T n)[V[0]!]! = -1 := by
  have ne : V[0]! ≠ V[n - 1]! := fun e => by have := h.inj 0 (n - 1) (by omega) (by omega) e; omega
  unfold T1
  rw [getElem!_set_other _ V[n - 1]! V[0]! _ ne, getElem!_set_same T V[0]! _ (h.rng 0 (by omega)).1]
theorem T1_o (V : Array Nat) (T : Array Int) (n x : Nat) (h0 : x ≠ V[0]!) (h1 : x ≠ V[n - 1]!) : (T1 V T n)[x]! = T[x]! := by
  unfold T1
  rw [getElem!_set_other _ V[n - 1]! x _ h1, getElem!_set_other T V[0]! x _ h0]

theorem pop_DI {A V : Array Nat} {T : Array Int} {n : Nat} (h : Ok A V T n) (hn : 2 ≤ n) : DI A (V1 V n) (T1 V T n) (n - 1) 0 0 (V1 V n) (T1 V T n) := by
  have ns := h.ns
  refine ⟨rfl, rfl, by unfold V1; rw [Array.size_setIfInBounds]; omega, by omega, sub_self 0, ?_, ?_, ?_, fun j _ => rfl, fun j hj h1 => ⟨j, hj, h1, rfl⟩, fun j hj h1 => ⟨j, hj, h1, rfl⟩, ?_, fun j hj h1 h2 => by omega, ?_, fun x _ => rfl⟩
  · intro j k hj hk e
    obtain ⟨a, a1, a2, a3, a4, a5⟩ := V1_of h hn j hj
    obtain ⟨b, b1, b2, b3, b4, b5⟩ := V1_of h hn k hk
    rw [a3, b3] at e
    have := h.inj a b a2 b2 e
    by_cases e1 : j = 0 <;> by_cases e2 : k = 0
    · omega
    · have := a4 e1; have := b5 e2; omega
    · have := a5 e1; have := b4 e2; omega
    · have := a5 e1; have := b5 e2; omega
  · intro j hj
    obtain ⟨a, a1, a2, a3, _⟩ := V1_of h hn j hj
    rw [a3, T1_size]; exact h.rng a a2
  · intro j hj _
    obtain ⟨a, a1, a2, a3, _⟩ := V1_of h hn j hj
    rw [a3]; exact h.nan hn a a2
  · intro j hj _ h1 h2
    rw [V1_o V n j (by omega), V1_o V n _ h2]
    exact h.ord j (by omega) h1
  · intro j hj _ h1
    rw [V1_o V n j h1, T1_o V T n _ (fun e => h1 (h.inj j 0 (by omega) (by omega) e)) (fun e => by have := h.inj j (n - 1) (by omega) (by omega) e; omega)]
    exact h.at_ j (by omega)

theorem popped_of_done {A V : Array Nat} {T : Array Int} {n : Nat} {V' : Array Nat} {T' : Array Int} (h : Ok A V T n) (hn : 2 ≤ n) (d : Done A (V1 V n) (T1 V T n) (n - 1) 0 V' T') : Popped A V T n V' T' := by
  have ns := h.ns
  have nin : ∀ x : Nat, (∀ k : Nat, 1 ≤ k → k < n → V[k]! ≠ x) → T'[x]! = (T1 V T n)[x]! := fun x hx => d.oth x (fun k hk _ e => by
    obtain ⟨a, a1, a2, a3, _⟩ := V1_of h hn k hk
    exact hx a a1 a2 (by rw [← a3]; exact e))
  refine ⟨by rw [d.sz]; simp [V1], by rw [d.tsz, T1_size], ⟨by rw [d.sz]; simp [V1]; omega, d.inj, d.rng, fun _ j hj => d.nan j hj (sub_zero j), fun j hj h1 => d.ord j hj (sub_zero j) h1, fun j hj => d.at_ j hj (sub_zero j)⟩, ?_, ?_, ?_, ?_⟩
  · intro j hj
    obtain ⟨k, hk, _, e⟩ := d.mem j hj (sub_zero j)
    obtain ⟨a, a1, a2, a3, _⟩ := V1_of h hn k hk
    exact ⟨a, a1, a2, by rw [e, a3]⟩
  · intro k h1 h2
    by_cases e : k = n - 1
    · obtain ⟨j, hj, _, e2⟩ := d.mem' 0 (by omega) (sub_zero 0)
      exact ⟨j, hj, by rw [e2, V1_0 h hn, e]⟩
    · obtain ⟨j, hj, _, e2⟩ := d.mem' k (by omega) (sub_zero k)
      exact ⟨j, hj, by rw [e2, V1_o V n k (by omega)]⟩
  · rw [nin V[0]! (fun k h1 h2 e => by have := h.inj k 0 h2 (by omega) e; omega), T1_top h hn]
  · intro x hx
    rw [nin x (fun k h1 h2 => hx k h2), T1_o V T n x (fun e => hx 0 (by omega) e.symm) (fun e => hx (n - 1) (by omega) e.symm)]

end Go.Proofs.Qxb6602679a.Hp
