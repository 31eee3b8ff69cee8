import Derived.Sort.Lot0
import Derived.Sort.Row
/-! The plain part of the sort at uint64: what each step keeps. No program, no walk. -/
namespace Go.Proofs.Qxb6600854a.Sr
open Go.Sort
set_option linter.unusedVariables false

theorem swp_i (d : Array Int) (i j : Nat) (hi : i < d.size) (hj : j < d.size) : (swp d i j)[i]! = d[j]! := by
  by_cases e : i = j
  · subst e; exact swp_right d i i hi
  · exact swp_left d i j hi e

/-- Ascending from place a up to place b. -/
def Asc (d : Array Int) (a b : Nat) : Prop := ∀ s t : Nat, a ≤ s → s ≤ t → t < b → d[s]! ≤ d[t]!

theorem Asc_one (d : Array Int) (a : Nat) : Asc d a (a + 1) := fun s t h1 h2 h3 => by
  obtain rfl : s = t := by omega
  exact Int.le_refl _
theorem Asc_none (d : Array Int) (a b : Nat) (h : b ≤ a) : Asc d a b := fun s t h1 h2 h3 => by omega
theorem Asc_snoc {d : Array Int} {a i : Nat} (h : Asc d a i) (hi : a < i) (hle : d[i - 1]! ≤ d[i]!) : Asc d a (i + 1) := fun s t h1 h2 h3 => by
  by_cases e : t = i
  · by_cases e2 : s = i
    · rw [e, e2]; exact Int.le_refl _
    · have := h s (i - 1) h1 (by omega) (by omega)
      rw [e]; omega
  · exact h s t h1 h2 (by omega)

/-! ### An element that sinks to the left -/
/-- All of [a, i] but place j is ascending; what stands at j is not above what stands to its right. -/
def Sink (d : Array Int) (a i j : Nat) : Prop := (∀ s t : Nat, a ≤ s → s < t → t ≤ i → s ≠ j → t ≠ j → d[s]! ≤ d[t]!) ∧ (∀ t : Nat, j < t → t ≤ i → d[j]! ≤ d[t]!)

theorem Sink_start {d : Array Int} {a i : Nat} (h : Asc d a i) : Sink d a i i := ⟨fun s t h1 h2 h3 h4 h5 => h s t h1 (by omega) (by omega), fun t h1 h2 => by omega⟩
theorem Sink_step {d : Array Int} {a i j : Nat} (h : Sink d a i j) (hi : i < d.size) (hj : j ≤ i) (haj : a < j) (hlt : d[j]! < d[j - 1]!) : Sink (swp d j (j - 1)) a i (j - 1) := by
  have e1 : (swp d j (j - 1))[j]! = d[j - 1]! := swp_i d j (j - 1) (by omega) (by omega)
  have e2 : (swp d j (j - 1))[j - 1]! = d[j]! := swp_right d j (j - 1) (by omega)
  have e3 : ∀ t : Nat, t ≠ j → t ≠ j - 1 → (swp d j (j - 1))[t]! = d[t]! := fun t => swp_other d j (j - 1) t
  refine ⟨fun s t h1 h2 h3 h4 h5 => ?_, fun t h1 h2 => ?_⟩
  · by_cases s1 : s = j
    · rw [s1, e1, e3 t (by omega) h5]; exact h.1 (j - 1) t (by omega) (by omega) h3 (by omega) (by omega)
    · by_cases t1 : t = j
      · rw [t1, e1, e3 s s1 h4]; exact h.1 s (j - 1) h1 (by omega) (by omega) s1 (by omega)
      · rw [e3 s s1 h4, e3 t t1 h5]; exact h.1 s t h1 h2 h3 s1 t1
  · rw [e2]
    by_cases t1 : t = j
    · rw [t1, e1]; omega
    · rw [e3 t t1 (by omega)]; exact h.2 t (by omega) h2
theorem Sink_stop {d : Array Int} {a i j : Nat} (h : Sink d a i j) (hj : j ≤ i) (hs : j ≤ a ∨ ¬ d[j]! < d[j - 1]!) : Asc d a (i + 1) := fun s t h1 h2 h3 => by
  by_cases e : s = t
  · rw [e]; exact Int.le_refl _
  by_cases t1 : t = j
  · rcases hs with hs | hs
    · omega
    · rw [t1]
      by_cases e2 : s = j - 1
      · rw [e2]; omega
      · have := h.1 s (j - 1) h1 (by omega) (by omega) (by omega) (by omega)
        omega
  · by_cases s1 : s = j
    · rw [s1]; exact h.2 t (by omega) (by omega)
    · exact h.1 s t h1 (by omega) (by omega) s1 t1

/-! ### Permutations of a stretch -/
theorem perm_symm {a b : Nat} {d d' : Array Int} (hp : PermIn a b d d') : PermIn a b d' d := ⟨hp.1.symm, fun i hi => (hp.2.1 i hi).symm, hp.2.2.symm⟩
theorem perm_swp {a b : Nat} {d d' : Array Int} (hp : PermIn a b d d') (i j : Nat) (h1 : a ≤ i) (h2 : i < b) (h3 : a ≤ j) (h4 : j < b) (hb : b ≤ d.size) : PermIn a b d (swp d' i j) :=
  permIn_trans _ _ _ _ _ hp (swp_permIn d' a b i j h1 h2 h3 h4 (by rw [hp.1]; exact hb))

/-- What lies ahead of a is not above the stretch. -/
def Bl (d : Array Int) (a b : Nat) : Prop := ∀ t : Nat, 0 < a → a ≤ t → t < b → d[a - 1]! ≤ d[t]!
theorem Bl_perm {a b : Nat} {d d' : Array Int} (h : Bl d a b) (hp : PermIn a b d d') (hb : b ≤ d.size) : Bl d' a b := fun t h0 h1 h2 => by
  rw [hp.2.1 (a - 1) (by omega)]
  exact permIn_all d d' a b (fun x => d[a - 1]! ≤ x) hb hp (fun i h1 h2 => h i h0 h1 h2) t h1 h2

/-! ### pdqsort's loop: what is left to sort lies in [a', b') -/
/-- Sorting [a', b') sorts [a, b). -/
def Left (d : Array Int) (a b a' b' : Nat) : Prop := ∀ s t : Nat, a ≤ s → s < t → t < b → (s < a' ∨ b' ≤ t) → d[s]! ≤ d[t]!

theorem Left_start (d : Array Int) (a b : Nat) : Left d a b a b := fun s t h1 h2 h3 h4 => by omega
theorem Left_done {d : Array Int} {a b a' b' : Nat} (h : Left d a b a' b') (hs : Asc d a' b') : Asc d a b := fun s t h1 h2 h3 => by
  by_cases e : s = t
  · rw [e]; exact Int.le_refl _
  · by_cases q : s < a' ∨ b' ≤ t
    · exact h s t h1 (by omega) h3 q
    · exact hs s t (by omega) h2 (by omega)
theorem Left_perm {d d' : Array Int} {a b a' b' : Nat} (h : Left d a b a' b') (hp : PermIn a' b' d d') (h1 : a ≤ a') (h2 : b' ≤ b) (hab : a' ≤ b') (hb : b ≤ d.size) : Left d' a b a' b' := fun s t s1 s2 s3 s4 => by
  have o : ∀ i : Nat, i < a' ∨ b' ≤ i → d'[i]! = d[i]! := fun i hi => hp.2.1 i hi
  rcases s4 with s4 | s4
  · rw [o s (.inl s4)]
    by_cases q : a' ≤ t ∧ t < b'
    · exact permIn_all d d' a' b' (fun x => d[s]! ≤ x) (by omega) hp (fun i i1 i2 => h s i s1 (by omega) (by omega) (.inl s4)) t q.1 q.2
    · rw [o t (by omega)]; exact h s t s1 s2 s3 (.inl s4)
  · rw [o t (.inr s4)]
    by_cases q : a' ≤ s ∧ s < b'
    · exact permIn_all d d' a' b' (fun x => x ≤ d[t]!) (by omega) hp (fun i i1 i2 => h i t (by omega) (by omega) s3 (.inr s4)) s q.1 q.2
    · rw [o s (by omega)]; exact h s t s1 s2 s3 (.inr s4)
/-- Behind 'partitionEqual': the front of the stretch is one value, not above the rest. -/
theorem Left_eq {d : Array Int} {a b a' b' m : Nat} (h : Left d a b a' b') (p : Int) (h1 : a' < m) (h2 : m ≤ b') (lo : ∀ t : Nat, a' ≤ t → t < m → d[t]! = p) (hi : ∀ t : Nat, m ≤ t → t < b' → p < d[t]!) : Left d a b m b' ∧ Bl d m b' := by
  refine ⟨fun s t s1 s2 s3 s4 => ?_, fun t h0 t1 t2 => ?_⟩
  · by_cases q : s < a' ∨ b' ≤ t
    · exact h s t s1 s2 s3 q
    · have e1 := lo s (by omega) (by omega)
      by_cases q2 : t < m
      · have := lo t (by omega) q2; omega
      · have := hi t (by omega) (by omega); omega
  · have := lo (m - 1) (by omega) (by omega)
    have := hi t t1 t2
    omega
/-- Behind 'partition' and the sorting of the left part. -/
theorem Left_left {d : Array Int} {a b a' b' m : Nat} (h : Left d a b a' b') (h1 : a' ≤ m) (h2 : m < b') (hs : Asc d a' m) (lo : ∀ t : Nat, a' ≤ t → t < m → d[t]! < d[m]!) (hi : ∀ t : Nat, m < t → t < b' → ¬ d[t]! < d[m]!) : Left d a b (m + 1) b' ∧ Bl d (m + 1) b' := by
  refine ⟨fun s t s1 s2 s3 s4 => ?_, fun t h0 t1 t2 => ?_⟩
  · by_cases q : s < a' ∨ b' ≤ t
    · exact h s t s1 s2 s3 q
    · by_cases q1 : s = m
      · have := hi t (by omega) (by omega); rw [q1]; omega
      · have l1 := lo s (by omega) (by omega)
        by_cases q2 : t < m
        · exact hs s t (by omega) (by omega) q2
        · by_cases q3 : t = m
          · rw [q3]; omega
          · have := hi t (by omega) (by omega); omega
  · have := hi t (by omega) t2
    rw [show m + 1 - 1 = m by omega]; omega
/-- Behind 'partition' and the sorting of the right part. -/
theorem Left_right {d : Array Int} {a b a' b' m : Nat} (h : Left d a b a' b') (h1 : a' ≤ m) (h2 : m < b') (hs : Asc d (m + 1) b') (lo : ∀ t : Nat, a' ≤ t → t < m → d[t]! < d[m]!) (hi : ∀ t : Nat, m < t → t < b' → ¬ d[t]! < d[m]!) : Left d a b a' m := fun s t s1 s2 s3 s4 => by
  by_cases q : s < a' ∨ b' ≤ t
  · exact h s t s1 s2 s3 q
  · have t1 : m ≤ t := by omega
    by_cases q1 : t = m
    · rw [q1]; have := lo s (by omega) (by omega); omega
    · have g := hi t (by omega) (by omega)
      by_cases q2 : s < m
      · have := lo s (by omega) q2; omega
      · by_cases q3 : s = m
        · rw [q3]; omega
        · exact hs s t (by omega) (by omega) (by omega)

/-! ### Heaps: D j is the place first + j -/
/-- In heap order wherever the parent is a place from lo on. -/
def Hq (d : Array Int) (F lo hi : Nat) : Prop := ∀ j : Nat, 0 < j → j < hi → lo ≤ (j - 1) / 2 → d[F + j]! ≤ d[F + (j - 1) / 2]!
/-- In heap order but for the pairs below r; r's children are not above r's parent. -/
def Hr (d : Array Int) (F lo hi r : Nat) : Prop := (∀ j : Nat, 0 < j → j < hi → lo ≤ (j - 1) / 2 → (j - 1) / 2 ≠ r → d[F + j]! ≤ d[F + (j - 1) / 2]!) ∧ (∀ j : Nat, 0 < j → j < hi → lo < r → lo ≤ (r - 1) / 2 → (j - 1) / 2 = r → d[F + j]! ≤ d[F + (r - 1) / 2]!)

theorem Hr_start {d : Array Int} {F lo hi : Nat} (h : Hq d F (lo + 1) hi) : Hr d F lo hi lo := ⟨fun j h1 h2 h3 h4 => h j h1 h2 (by omega), fun j h1 h2 h3 => by omega⟩
theorem Hr_step {d : Array Int} {F lo hi r c : Nat} (h : Hr d F lo hi r) (hs : F + hi ≤ d.size) (hr : lo ≤ r) (hc : c < hi) (hcr : (c - 1) / 2 = r) (hrc : r < c) (hlt : d[F + r]! < d[F + c]!) (hsib : ∀ c' : Nat, r < c' → c' < hi → (c' - 1) / 2 = r → d[F + c']! ≤ d[F + c]!) :
    Hr (swp d (F + r) (F + c)) F lo hi c := by
  have er : (swp d (F + r) (F + c))[F + r]! = d[F + c]! := swp_i d _ _ (by omega) (by omega)
  have ec : (swp d (F + r) (F + c))[F + c]! = d[F + r]! := swp_right d _ _ (by omega)
  have eo : ∀ t : Nat, t ≠ r → t ≠ c → (swp d (F + r) (F + c))[F + t]! = d[F + t]! := fun t h1 h2 => swp_other d _ _ _ (by omega) (by omega)
  refine ⟨fun j h1 h2 h3 h4 => ?_, fun j h1 h2 h3 h4 h5 => ?_⟩
  · by_cases p : (j - 1) / 2 = r
    · rw [p, er]
      by_cases jc : j = c
      · rw [jc, ec]; omega
      · rw [eo j (by omega) jc]; exact hsib j (by omega) h2 p
    · by_cases jr : j = r
      · have e : (j - 1) / 2 = (r - 1) / 2 := by rw [jr]
        rw [e, jr, er, eo ((r - 1) / 2) (by omega) (by omega)]
        exact h.2 c (by omega) hc (by omega) (by omega) hcr
      · have jc : j ≠ c := by rintro rfl; exact p hcr
        rw [eo j jr jc, eo ((j - 1) / 2) p h4]
        exact h.1 j h1 h2 h3 p
  · rw [hcr, er, eo j (by omega) (by omega)]
    have := h.1 j h1 h2 (by omega) (by omega)
    rw [h5] at this
    exact this
theorem Hr_stop {d : Array Int} {F lo hi r : Nat} (h : Hr d F lo hi r) (hle : ∀ c : Nat, r < c → c < hi → (c - 1) / 2 = r → d[F + c]! ≤ d[F + r]!) : Hq d F lo hi := fun j h1 h2 h3 => by
  by_cases p : (j - 1) / 2 = r
  · rw [p]; exact hle j (by omega) h2 p
  · exact h.1 j h1 h2 h3 p
theorem Hq_max {d : Array Int} {F hi : Nat} (h : Hq d F 0 hi) : ∀ j : Nat, j < hi → d[F + j]! ≤ d[F]! := by
  intro j
  induction j using Nat.strongRecOn with
  | ind j ih =>
    intro hj
    by_cases e : j = 0
    · rw [e]; exact Int.le_refl _
    · have := h j (by omega) hj (by omega)
      have := ih ((j - 1) / 2) (by omega) (by omega)
      omega

end Go.Proofs.Qxb6600854a.Sr
