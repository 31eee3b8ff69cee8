import Derived.Sort.Row
/-! The plain part of the bottom-up merge sort. No program, no walk. -/
namespace Go.Proofs.Qxb6602679a.Ms
open Go.Sort
set_option linter.unusedVariables false

/-- How many of the first b places hold what p asks for. -/
def C (d : Array Nat) (p : Nat → Bool) : Nat → Nat
  | 0 => 0
  | b + 1 => C d p b + (p d[b]!).toNat

theorem C_congr {d d' : Array Nat} (p : Nat → Bool) : ∀ n, (∀ t, t < n → d'[t]! = d[t]!) → C d' p n = C d p n
  | 0, _ => rfl
  | n + 1, h => by
    unfold C
    rw [C_congr p n (fun t ht => h t (by omega)), h n (by omega)]
theorem C_set_below (b : Array Nat) (p : Nat → Bool) (k x n : Nat) (h : n ≤ k) : C (b.setIfInBounds k x) p n = C b p n :=
  C_congr p n fun t ht => getElem!_set_other b k t x (by omega)
theorem C_set_succ (b : Array Nat) (p : Nat → Bool) (k x : Nat) (h : k < b.size) : C (b.setIfInBounds k x) p (k + 1) = C b p k + (p x).toNat := by
  show C (b.setIfInBounds k x) p k + (p (b.setIfInBounds k x)[k]!).toNat = _
  rw [C_set_below b p k x k (Nat.le_refl _), getElem!_set_same b k x h]

section
variable (rank : Nat → Int)

/-- Two runs of d being merged into b: i and j the runs' heads, k the place to fill. -/
structure Mg (d b b0 : Array Nat) (lo mid hi i j k : Nat) : Prop where
  cnt : ∀ p, C b p k + C d p lo + C d p mid = C d p i + C d p j + C b p lo
  srt : ∀ s t, lo ≤ s → s ≤ t → t < k → rank b[s]! ≤ rank b[t]!
  lei : ∀ s t, lo ≤ s → s < k → i ≤ t → t < mid → rank b[s]! ≤ rank d[t]!
  lej : ∀ s t, lo ≤ s → s < k → j ≤ t → t < hi → rank b[s]! ≤ rank d[t]!
  old : ∀ t, t < lo → b[t]! = b0[t]!

def Asc (d : Array Nat) (a b : Nat) : Prop := ∀ s t, a ≤ s → s ≤ t → t < b → rank d[s]! ≤ rank d[t]!

theorem Mg_start (d b : Array Nat) (lo mid hi : Nat) : Mg rank d b b lo mid hi lo mid lo :=
  ⟨fun p => by omega, fun s t h1 h2 h3 => by omega, fun s t h1 h2 => by omega, fun s t h1 h2 => by omega, fun t _ => rfl⟩

theorem Mg_left {d b b0 : Array Nat} {lo mid hi i j k : Nat} (h : Mg rank d b b0 lo mid hi i j k) (a1 : Asc rank d lo mid) (a2 : Asc rank d mid hi) (hk : k < b.size) (hlk : lo ≤ k) (hli : lo ≤ i) (hmj : mid ≤ j) (hi' : i < mid)
    (c : hi ≤ j ∨ ¬ rank d[j]! < rank d[i]!) : Mg rank d (b.setIfInBounds k d[i]!) b0 lo mid hi (i + 1) j (k + 1) := by
  have same := getElem!_set_same b k d[i]! hk
  have oth := fun t ht => getElem!_set_other b k t d[i]! ht
  refine ⟨fun p => ?_, fun s t h1 h2 h3 => ?_, fun s t h1 h2 h3 h4 => ?_, fun s t h1 h2 h3 h4 => ?_, fun t ht => ?_⟩
  · have := h.cnt p
    rw [C_set_succ b p k _ hk, C_set_below b p k _ lo hlk]
    show _ = C d p i + (p d[i]!).toNat + _ + _
    omega
  · by_cases e : t = k
    · by_cases e2 : s = k
      · rw [e, e2]; exact Int.le_refl _
      · rw [e, same, oth s e2]; exact h.lei s i h1 (by omega) (Nat.le_refl _) hi'
    · rw [oth t e, oth s (by omega)]; exact h.srt s t h1 h2 (by omega)
  · by_cases e : s = k
    · rw [e, same]; exact a1 i t hli (by omega) h4
    · rw [oth s e]; exact h.lei s t h1 (by omega) (by omega) h4
  · by_cases e : s = k
    · rw [e, same]
      rcases c with c | c
      · omega
      · have := a2 j t hmj h3 h4; omega
    · rw [oth s e]; exact h.lej s t h1 (by omega) h3 h4
  · rw [oth t (by omega)]; exact h.old t ht

theorem Mg_right {d b b0 : Array Nat} {lo mid hi i j k : Nat} (h : Mg rank d b b0 lo mid hi i j k) (a1 : Asc rank d lo mid) (a2 : Asc rank d mid hi) (hk : k < b.size) (hlk : lo ≤ k) (hli : lo ≤ i) (hmj : mid ≤ j) (hj' : j < hi)
    (c : mid ≤ i ∨ rank d[j]! < rank d[i]!) : Mg rank d (b.setIfInBounds k d[j]!) b0 lo mid hi i (j + 1) (k + 1) := by
  have same := getElem!_set_same b k d[j]! hk
  have oth := fun t ht => getElem!_set_other b k t d[j]! ht
  refine ⟨fun p => ?_, fun s t h1 h2 h3 => ?_, fun s t h1 h2 h3 h4 => ?_, fun s t h1 h2 h3 h4 => ?_, fun t ht => ?_⟩
  · have := h.cnt p
    rw [C_set_succ b p k _ hk, C_set_below b p k _ lo hlk]
    show _ = C d p i + (C d p j + (p d[j]!).toNat) + _
    omega
  · by_cases e : t = k
    · by_cases e2 : s = k
      · rw [e, e2]; exact Int.le_refl _
      · rw [e, same, oth s e2]; exact h.lej s j h1 (by omega) (Nat.le_refl _) hj'
    · rw [oth t e, oth s (by omega)]; exact h.srt s t h1 h2 (by omega)
  · by_cases e : s = k
    · rw [e, same]
      rcases c with c | c
      · omega
      · have := a1 i t hli h3 h4; omega
    · rw [oth s e]; exact h.lei s t h1 (by omega) h3 h4
  · by_cases e : s = k
    · rw [e, same]; exact a2 j t hmj (by omega) h4
    · rw [oth s e]; exact h.lej s t h1 (by omega) (by omega) h4
  · rw [oth t (by omega)]; exact h.old t ht

/-- Ascending in each run of u places. -/
def Runs (d : Array Nat) (u n : Nat) : Prop := ∀ m s t, m * u ≤ s → s ≤ t → t < m * u + u → t < n → rank d[s]! ≤ rank d[t]!

theorem Runs_one (d : Array Nat) (n : Nat) : Runs rank d 1 n := fun m s t h1 h2 h3 h4 => by
  obtain rfl : s = t := by omega
  exact Int.le_refl _
theorem Runs_all {d : Array Nat} {u n : Nat} (h : Runs rank d u n) (hu : n ≤ u) : ∀ s t, s ≤ t → t < n → rank d[s]! ≤ rank d[t]! := fun s t h1 h2 =>
  h 0 s t (by omega) h1 (by omega) h2

/-- The chunks ahead of place 'lo' are merged. -/
structure Ch (d b : Array Nat) (u lo n : Nat) : Prop where
  cnt : ∀ p, C b p (min lo n) = C d p (min lo n)
  srt : ∀ m s t, m * u ≤ s → s ≤ t → t < m * u + u → t < min lo n → rank b[s]! ≤ rank b[t]!

theorem Ch_start (d b : Array Nat) (u n : Nat) : Ch rank d b u 0 n := ⟨fun p => by simp [C], fun m s t _ _ _ h => by simp at h⟩

theorem same_chunk {u q m t : Nat} (h1 : q * u ≤ t) (h2 : t < q * u + u) (h3 : m * u ≤ t) (h4 : t < m * u + u) : q = m := by
  rcases Nat.lt_trichotomy q m with l | e | l
  · have := Nat.mul_le_mul_right u (show q + 1 ≤ m from l)
    rw [Nat.succ_mul] at this; omega
  · exact e
  · have := Nat.mul_le_mul_right u (show m + 1 ≤ q from l)
    rw [Nat.succ_mul] at this; omega

theorem Ch_step {d b b0 : Array Nat} {u m n mid hi : Nat} (h : Ch rank d b0 u (m * u) n) (hlo : m * u < n) (hu : 0 < u) (hhi : hi = min (m * u + u) n) (hmid : mid ≤ hi) (g : Mg rank d b b0 (m * u) mid hi mid hi hi) : Ch rank d b u ((m + 1) * u) n := by
  have e : min ((m + 1) * u) n = hi := by rw [Nat.succ_mul, hhi]
  have e0 : min (m * u) n = m * u := by omega
  refine ⟨fun p => ?_, fun q s t h1 h2 h3 h4 => ?_⟩
  · rw [e]
    have a := g.cnt p
    have c := h.cnt p
    rw [e0] at c
    have c2 := C_congr (d := b0) (d' := b) p (m * u) g.old
    omega
  · rw [e] at h4
    by_cases l : t < m * u
    · rw [g.old t l, g.old s (by omega)]
      exact h.srt q s t h1 h2 h3 (by omega)
    · obtain rfl := same_chunk (show q * u ≤ t by omega) h3 (show m * u ≤ t by omega) (by omega)
      exact g.srt s t h1 h2 h4

theorem Ch_end {d b : Array Nat} {u lo n : Nat} (h : Ch rank d b u lo n) (hl : n ≤ lo) : (∀ p, C b p n = C d p n) ∧ Runs rank b u n := by
  have e : min lo n = n := by omega
  refine ⟨fun p => ?_, fun m s t h1 h2 h3 h4 => h.srt m s t h1 h2 h3 (by omega)⟩
  have := h.cnt p
  rwa [e] at this

theorem asc_lo {d : Array Nat} {w m n mid : Nat} (h : Runs rank d w n) (hmid : mid ≤ m * (2 * w) + w) (hn : mid ≤ n) : Asc rank d (m * (2 * w)) mid := fun s t h1 h2 h3 => by
  have e : m * (2 * w) = 2 * m * w := by rw [← Nat.mul_assoc, Nat.mul_comm m 2]
  exact h (2 * m) s t (by omega) h2 (by omega) (by omega)
theorem asc_hi {d : Array Nat} {w m n mid hi : Nat} (h : Runs rank d w n) (hmid : mid = m * (2 * w) + w ∨ hi ≤ mid) (hhi : hi ≤ m * (2 * w) + 2 * w) (hn : hi ≤ n) : Asc rank d mid hi := fun s t h1 h2 h3 => by
  rcases hmid with hm | hm
  · have e : (2 * m + 1) * w = m * (2 * w) + w := by rw [Nat.succ_mul, ← Nat.mul_assoc, Nat.mul_comm m 2]
    exact h (2 * m + 1) s t (by omega) h2 (by omega) (by omega)
  · omega
end

/-! ### Counting, and two ascending rows with one count -/
theorem C_list (d : Array Nat) (p : Nat → Bool) : ∀ n, C d p n = ((List.range n).map (fun t => d[t]!)).countP p
  | 0 => rfl
  | n + 1 => by
    rw [List.range_succ, List.map_append, List.countP_append, ← C_list d p n]
    show C d p n + (p d[n]!).toNat = _
    cases hp : p d[n]! <;> simp [hp]

theorem perm_of_C {d d' : Array Nat} {n : Nat} (h : ∀ p, C d' p n = C d p n) : ((List.range n).map (fun t => d'[t]!)).Perm ((List.range n).map (fun t => d[t]!)) := by
  rw [List.perm_iff_count]
  intro v
  have := h (· == v)
  rw [C_list, C_list] at this
  exact this
theorem C_of_permIn {d d' : Array Nat} {n : Nat} (hs : d.size = n) (h : PermIn 0 n d d') (p : Nat → Bool) : C d' p n = C d p n := by
  have := h.2.2
  rw [extract_toList d 0 n (by omega), extract_toList d' 0 n (by rw [h.1]; omega), Nat.sub_zero, ← List.range_eq_range'] at this
  rw [C_list, C_list]
  exact this.countP_eq p

theorem ranks_eq (rank : Nat → Int) {d d' : Array Nat} {n : Nat} (h : ∀ p, C d' p n = C d p n) (s1 : ∀ s t, s ≤ t → t < n → rank d[s]! ≤ rank d[t]!) (s2 : ∀ s t, s ≤ t → t < n → rank d'[s]! ≤ rank d'[t]!) :
    ∀ t, t < n → rank d[t]! = rank d'[t]! := by
  have hp := (perm_of_C h).map rank
  rw [List.map_map, List.map_map] at hp
  have q1 : ((List.range n).map (rank ∘ fun t => d[t]!)).Pairwise (· ≤ ·) := by
    rw [List.pairwise_map]
    refine List.Pairwise.imp_of_mem ?_ List.pairwise_lt_range
    intro a b ha hb hab
    exact s1 a b (by omega) (List.mem_range.1 hb)
  have q2 : ((List.range n).map (rank ∘ fun t => d'[t]!)).Pairwise (· ≤ ·) := by
    rw [List.pairwise_map]
    refine List.Pairwise.imp_of_mem ?_ List.pairwise_lt_range
    intro a b ha hb hab
    exact s2 a b (by omega) (List.mem_range.1 hb)
  have e := hp.eq_of_pairwise (fun a b _ _ h1 h2 => Int.le_antisymm h1 h2) q2 q1
  intro t ht
  have := congrArg (fun l => l[t]?) e
  simpa [ht] using this.symm

end Go.Proofs.Qxb6602679a.Ms
