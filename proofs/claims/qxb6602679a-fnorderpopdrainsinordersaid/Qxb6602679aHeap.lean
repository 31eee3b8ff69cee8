import Derived.Test.Qxb6602679aFloat
import GoSem.Core.Float
import Derived.Sort.Lot0
import Derived.Sort.Row
/-! The plain part of '(*order).down': a hole that sinks. No program, no walk. -/
namespace Go.Proofs.Qxb6602679a.Hp
open Go.Sort
set_option linter.unusedVariables false

/-! ### float64s by their order -/
def kv (x : Nat) : Int := (Fl.key Ieee.double x).getD 0
def nn (x : Nat) : Prop := (Fl.key Ieee.double x).isSome = true

theorem order_nn {x y : Nat} (hx : nn x) (hy : nn y) : FloatKind.f64.format.order x y = some (compare (kv x) (kv y)) := by
  obtain ⟨a, ha⟩ := Option.isSome_iff_exists.1 hx
  obtain ⟨b, hb⟩ := Option.isSome_iff_exists.1 hy
  show Ieee.double.order x y = _
  rw [Fl.order_eq, ha, hb]
  simp [kv, ha, hb]
theorem gt_nn {x y : Nat} (hx : nn x) (hy : nn y) : (FloatKind.f64.format.order x y == some .gt) = decide (kv y < kv x) := by
  rw [order_nn hx hy, Fl.compare_int]
  by_cases h : kv x < kv y
  · have : ¬ kv y < kv x := by omega
    simp [h, this]
  · by_cases e : kv x = kv y
    · simp [e]
    · have : kv y < kv x := by omega
      simp [h, e, this]
theorem le_nn {x y : Nat} (hx : nn x) (hy : nn y) : (FloatKind.f64.format.order x y == some .lt || FloatKind.f64.format.order x y == some .eq) = decide (kv x ≤ kv y) := by
  rw [order_nn hx hy, Fl.compare_int]
  by_cases h : kv x < kv y
  · have : kv x ≤ kv y := by omega
    simp [h, this]
  · by_cases e : kv x = kv y
    · simp [e]
    · have : ¬ kv x ≤ kv y := by omega
      simp [h, e, this]
theorem ge_nn {x y : Nat} (hx : nn x) (hy : nn y) : (FloatKind.f64.format.order x y == some .gt || FloatKind.f64.format.order x y == some .eq) = decide (kv y ≤ kv x) := by
  rw [order_nn hx hy, Fl.compare_int]
  by_cases h : kv x < kv y
  · have : ¬ kv y ≤ kv x := by omega
    simp [h, this]
  · by_cases e : kv x = kv y
    · simp [e]
    · have : kv y ≤ kv x := by omega
      simp [h, e, this]
/-- What '>=' says yes to is no NaN, on both sides. -/
theorem of_ge {x y : Nat} (h : (FloatKind.f64.format.order x y == some .gt || FloatKind.f64.format.order x y == some .eq) = true) : nn x ∧ nn y ∧ kv y ≤ kv x := by
  have e : FloatKind.f64.format.order x y = Ieee.double.order x y := rfl
  have hx : nn x := by
    unfold nn
    cases hk : Fl.key Ieee.double x with
    | none => rw [e, Fl.order_eq, hk] at h; simp at h
    | some a => rfl
  have hy : nn y := by
    unfold nn
    cases hk : Fl.key Ieee.double y with
    | none => rw [e, Fl.order_eq, hk] at h; cases Fl.key Ieee.double x <;> simp at h
    | some a => rfl
  refine ⟨hx, hy, ?_⟩
  rw [ge_nn hx hy] at h
  exact of_decide_eq_true h
theorem nan_test (x : Nat) : (FloatKind.f64.format.order x x != some .eq) = !(Fl.key Ieee.double x).isSome := by
  show (Ieee.double.order x x != some .eq) = _
  rw [Fl.order_eq]
  cases Fl.key Ieee.double x with
  | none => rfl
  | some a => simp [Fl.compare_int]
theorem nn_of_test {x : Nat} (h : (FloatKind.f64.format.order x x != some .eq) = false) : nn x := by
  rw [nan_test] at h; simpa [nn] using h

/-! ### The subtree of a place -/
def sub (i j : Nat) : Bool := if j ≤ i then j == i else sub i ((j - 1) / 2)

theorem sub_self (i : Nat) : sub i i = true := by rw [sub]; simp
theorem sub_le {i j : Nat} (h : j ≤ i) : sub i j = (j == i) := by rw [sub]; simp [h]
theorem sub_gt {i j : Nat} (h : i < j) : sub i j = sub i ((j - 1) / 2) := by rw [sub]; simp [Nat.not_le.2 h]
theorem sub_ge {i j : Nat} (h : sub i j = true) : i ≤ j := by
  by_cases l : j ≤ i
  · rw [sub_le l] at h; have := beq_iff_eq.1 h; omega
  · omega
theorem sub_left {i j : Nat} (h : sub i j = true) : sub i (2 * j + 1) = true := by
  have := sub_ge h
  rw [sub_gt (by omega), show (2 * j + 1 - 1) / 2 = j by omega]; exact h
theorem sub_right {i j : Nat} (h : sub i j = true) : sub i (2 * j + 2) = true := by
  have := sub_ge h
  rw [sub_gt (by omega), show (2 * j + 2 - 1) / 2 = j by omega]; exact h
theorem sub_zero : ∀ j, sub 0 j = true := by
  intro j
  induction j using Nat.strongRecOn with
  | ind j ih =>
    by_cases h : j = 0
    · subst h; exact sub_self 0
    · rw [sub_gt (by omega)]; exact ih _ (by omega)

/-! ### The hole sinks -/
structure DI (A H0 : Array Nat) (T0 : Array Int) (n i0 i : Nat) (V : Array Nat) (T : Array Int) : Prop where
  sz : V.size = H0.size
  tsz : T.size = T0.size
  ns : n ≤ V.size
  ilt : i < n
  isub : sub i0 i = true
  inj : ∀ j k : Nat, j < n → k < n → V[j]! = V[k]! → j = k
  rng : ∀ j : Nat, j < n → V[j]! < T.size ∧ V[j]! < A.size
  nan : ∀ j : Nat, j < n → sub i0 j = true → nn A[V[j]!]!
  out : ∀ j : Nat, ¬ (j < n ∧ sub i0 j = true) → V[j]! = H0[j]!
  mem : ∀ j : Nat, j < n → sub i0 j = true → ∃ k, k < n ∧ sub i0 k = true ∧ V[j]! = H0[k]!
  mem' : ∀ k : Nat, k < n → sub i0 k = true → ∃ j, j < n ∧ sub i0 j = true ∧ V[j]! = H0[k]!
  ord : ∀ j : Nat, j < n → sub i0 j = true → i0 < j → (j - 1) / 2 ≠ i → kv A[V[j]!]! ≤ kv A[V[(j - 1) / 2]!]!
  gap : ∀ j : Nat, j < n → sub i0 j = true → i0 < i → i0 < j → (j - 1) / 2 = i → kv A[V[j]!]! ≤ kv A[V[(i - 1) / 2]!]!
  at_ : ∀ j : Nat, j < n → sub i0 j = true → j ≠ i → T[V[j]!]! = (j : Int)
  oth : ∀ x : Nat, (∀ k : Nat, k < n → sub i0 k = true → H0[k]! ≠ x) → T[x]! = T0[x]!

structure Done (A H0 : Array Nat) (T0 : Array Int) (n i0 : Nat) (V : Array Nat) (T : Array Int) : Prop where
  sz : V.size = H0.size
  tsz : T.size = T0.size
  inj : ∀ j k : Nat, j < n → k < n → V[j]! = V[k]! → j = k
  rng : ∀ j : Nat, j < n → V[j]! < T.size ∧ V[j]! < A.size
  nan : ∀ j : Nat, j < n → sub i0 j = true → nn A[V[j]!]!
  out : ∀ j : Nat, ¬ (j < n ∧ sub i0 j = true) → V[j]! = H0[j]!
  mem : ∀ j : Nat, j < n → sub i0 j = true → ∃ k, k < n ∧ sub i0 k = true ∧ V[j]! = H0[k]!
  mem' : ∀ k : Nat, k < n → sub i0 k = true → ∃ j, j < n ∧ sub i0 j = true ∧ V[j]! = H0[k]!
  ord : ∀ j : Nat, j < n → sub i0 j = true → i0 < j → kv A[V[j]!]! ≤ kv A[V[(j - 1) / 2]!]!
  at_ : ∀ j : Nat, j < n → sub i0 j = true → T[V[j]!]! = (j : Int)
  oth : ∀ x : Nat, (∀ k : Nat, k < n → sub i0 k = true → H0[k]! ≠ x) → T[x]! = T0[x]!

theorem swp_i {α : Type} [Inhabited α] (d : Array α) (i j : Nat) (hi : i < d.size) (hj : j < d.size) : (swp d i j)[i]! = d[j]! := by
  by_cases e : i = j
  · subst e; exact swp_right d i i hi
  · exact swp_left d i j hi e

theorem DI_step {A H0 : Array Nat} {T0 : Array Int} {n i0 i : Nat} {V : Array Nat} {T : Array Int} (h : DI A H0 T0 n i0 i V T) (c : Nat) (hc : c < n) (hci : (c - 1) / 2 = i) (hc0 : i < c)
    (hgt : kv A[V[i]!]! < kv A[V[c]!]!) (hsib : ∀ c' : Nat, c' < n → i < c' → (c' - 1) / 2 = i → kv A[V[c']!]! ≤ kv A[V[c]!]!) : DI A H0 T0 n i0 c (swp V i c) (T.setIfInBounds V[c]! (i : Int)) := by
  have hi := h.ilt
  have hs := h.ns
  have i0i := sub_ge h.isub
  have csub : sub i0 c = true := by rw [sub_gt (by omega), hci]; exact h.isub
  have ei : (swp V i c)[i]! = V[c]! := swp_i V i c (by omega) (by omega)
  have ec : (swp V i c)[c]! = V[i]! := swp_right V i c (by omega)
  have eo : ∀ t : Nat, t ≠ i → t ≠ c → (swp V i c)[t]! = V[t]! := fun t h1 h2 => swp_other V i c t h1 h2
  have look : ∀ t : Nat, t < n → ∃ u, u < n ∧ (swp V i c)[t]! = V[u]! ∧ (sub i0 t = true → sub i0 u = true) ∧ (sub i0 u = true → sub i0 t = true) := fun t ht => by
    by_cases e1 : t = i
    · exact ⟨c, hc, by rw [e1, ei], fun _ => csub, fun _ => by rw [e1]; exact h.isub⟩
    · by_cases e2 : t = c
      · exact ⟨i, hi, by rw [e2, ec], fun _ => h.isub, fun _ => by rw [e2]; exact csub⟩
      · exact ⟨t, ht, eo t e1 e2, fun x => x, fun x => x⟩
  have tv : ∀ x : Nat, x < T.size → x ≠ V[c]! → (T.setIfInBounds V[c]! (i : Int))[x]! = T[x]! := fun x _ hx => getElem!_set_other T V[c]! x _ hx
  refine ⟨by rw [size_swp]; exact h.sz, by rw [Array.size_setIfInBounds]; exact h.tsz, by rw [size_swp]; exact hs, hc, csub, ?_, ?_, ?_, ?_, ?_, ?_, ?_, ?_, ?_, ?_⟩
  · intro j k hj hk e
    have inj := h.inj
    by_cases j1 : j = i <;> by_cases k1 : k = i
    · omega
    · by_cases k2 : k = c
      · rw [j1, k2, ei, ec] at e; have := inj c i hc hi e; omega
      · rw [j1, ei, eo k k1 k2] at e; have := inj c k hc hk e; omega
    · by_cases j2 : j = c
      · rw [k1, j2, ei, ec] at e; have := inj i c hi hc e; omega
      · rw [k1, ei, eo j j1 j2] at e; have := inj j c hj hc e; omega
    · by_cases j2 : j = c <;> by_cases k2 : k = c
      · omega
      · rw [j2, ec, eo k k1 k2] at e; have := inj i k hi hk e; omega
      · rw [k2, ec, eo j j1 j2] at e; have := inj j i hj hi e; omega
      · rw [eo j j1 j2, eo k k1 k2] at e; exact inj j k hj hk e
  · intro j hj
    obtain ⟨u, hu, e, _, _⟩ := look j hj
    rw [e, Array.size_setIfInBounds]; exact h.rng u hu
  · intro j hj hsj
    obtain ⟨u, hu, e, s1, _⟩ := look j hj
    rw [e]; exact h.nan u hu (s1 hsj)
  · intro j hj
    have j1 : j ≠ i := by rintro rfl; exact hj ⟨hi, h.isub⟩
    have j2 : j ≠ c := by rintro rfl; exact hj ⟨hc, csub⟩
    rw [eo j j1 j2]; exact h.out j hj
  · intro j hj hsj
    obtain ⟨u, hu, e, s1, _⟩ := look j hj
    rw [e]; exact h.mem u hu (s1 hsj)
  · intro k hk hsk
    obtain ⟨j, hj, hsj, e⟩ := h.mem' k hk hsk
    by_cases j1 : j = i
    · exact ⟨c, hc, csub, by rw [ec, ← j1]; exact e⟩
    · by_cases j2 : j = c
      · exact ⟨i, hi, h.isub, by rw [ei, ← j2]; exact e⟩
      · exact ⟨j, hj, hsj, by rw [eo j j1 j2]; exact e⟩
  · intro j hj hsj hij hp
    by_cases p1 : (j - 1) / 2 = i
    · rw [p1, ei]
      by_cases j2 : j = c
      · rw [j2, ec]; omega
      · rw [eo j (by omega) j2]; exact hsib j hj (by omega) p1
    · by_cases j1 : j = i
      · rw [j1, ei, eo ((i - 1) / 2) (by omega) (by omega)]
        exact h.gap c hc csub (by omega) (by omega) hci
      · have j2 : j ≠ c := by rintro rfl; exact p1 hci
        rw [eo j j1 j2, eo ((j - 1) / 2) p1 hp]
        exact h.ord j hj hsj hij p1
  · intro j hj hsj h1 h2 hp
    have e : (c - 1) / 2 = i := hci
    rw [e, ei, eo j (by omega) (by omega)]
    have := h.ord j hj hsj h2 (by omega)
    rw [hp] at this
    exact this
  · intro j hj hsj hjc
    by_cases j1 : j = i
    · rw [j1, ei, getElem!_set_same T V[c]! _ (h.rng c hc).1]
    · rw [eo j j1 hjc, tv V[j]! (h.rng j hj).1 (fun e => hjc (h.inj j c hj hc e))]
      exact h.at_ j hj hsj j1
  · intro x hx
    obtain ⟨k, hk, hsk, e⟩ := h.mem c hc csub
    rw [getElem!_set_other T V[c]! x _ (by rw [e]; exact fun q => hx k hk hsk q.symm)]
    exact h.oth x hx

theorem DI_stop {A H0 : Array Nat} {T0 : Array Int} {n i0 i : Nat} {V : Array Nat} {T : Array Int} (h : DI A H0 T0 n i0 i V T)
    (hle : ∀ c : Nat, c < n → i < c → (c - 1) / 2 = i → kv A[V[c]!]! ≤ kv A[V[i]!]!) : Done A H0 T0 n i0 V (T.setIfInBounds V[i]! (i : Int)) := by
  have hi := h.ilt
  refine ⟨h.sz, by rw [Array.size_setIfInBounds]; exact h.tsz, h.inj, fun j hj => by rw [Array.size_setIfInBounds]; exact h.rng j hj, h.nan, h.out, h.mem, h.mem', ?_, ?_, ?_⟩
  · intro j hj hsj hij
    by_cases p : (j - 1) / 2 = i
    · rw [p]; exact hle j hj (by omega) p
    · exact h.ord j hj hsj hij p
  · intro j hj hsj
    by_cases e : j = i
    · rw [e, getElem!_set_same T V[i]! _ (h.rng i hi).1]
    · rw [getElem!_set_other T V[i]! V[j]! _ (fun q => e (h.inj j i hj hi q))]
      exact h.at_ j hj hsj e
  · intro x hx
    obtain ⟨k, hk, hsk, e⟩ := h.mem i hi h.isub
    rw [getElem!_set_other T V[i]! x _ (by rw [e]; exact fun q => hx k hk hsk q.symm)]
    exact h.oth x hx

end Go.Proofs.Qxb6602679a.Hp
