import Derived.Test.Qxb6600854aPairs
/-! Each pair of points in reach is met once. Plain: no program, no walk. -/
namespace Go.Proofs.Qxb6600854a.Pl

/-- The points in the order of their cells; which pairs are out of reach. -/
structure Ord (n : Nat) (sg cx cy : Nat → Nat) (far : Nat → Nat → Bool) : Prop where
  lt : ∀ i, i < n → sg i < n
  inj : ∀ i j, i < n → j < n → sg i = sg j → i = j
  sur : ∀ a, a < n → ∃ i, i < n ∧ sg i = a
  asc : ∀ i j, i < j → j < n → cy (sg i) < cy (sg j) ∨ (cy (sg i) = cy (sg j) ∧ cx (sg i) ≤ cx (sg j))
  sym : ∀ a b, a < n → b < n → far a b = far b a
  near : ∀ a b, a < n → b < n → far a b = false → cx a ≤ cx b + 1 ∧ cx b ≤ cx a + 1 ∧ cy a ≤ cy b + 1 ∧ cy b ≤ cy a + 1

variable {n : Nat} {sg cx cy : Nat → Nat} {far : Nat → Nat → Bool}

theorem mem_vis (i p : Nat) : ∀ k, p ∈ vis n sg cx cy i k ↔ p < n ∧ ∃ j, j < k ∧ pr sg cx cy j i p = true
  | 0 => by simp [vis]
  | k + 1 => by
    simp only [vis, List.mem_append, mem_vis i p k, List.mem_filter, List.mem_range]
    constructor
    · rintro (⟨h, j, hj, hp⟩ | ⟨h, hp⟩)
      · exact ⟨h, j, by omega, hp⟩
      · exact ⟨h, k, by omega, hp⟩
    · rintro ⟨h, j, hj, hp⟩
      by_cases e : j = k
      · subst e; exact .inr ⟨h, hp⟩
      · exact .inl ⟨h, j, by omega, hp⟩

theorem pr_excl {i p j k : Nat} (h : pr sg cx cy j i p = true) (h' : pr sg cx cy k i p = true) : j = k := by
  match j, k with
  | 0, 0 | 1, 1 | 2, 2 | 3, 3 | 4, 4 => rfl
  | 0, 1 | 0, 2 | 0, 3 | 0, 4 | 1, 0 | 1, 2 | 1, 3 | 1, 4 | 2, 0 | 2, 1 | 2, 3 | 2, 4 | 3, 0 | 3, 1 | 3, 2 | 3, 4 | 4, 0 | 4, 1 | 4, 2 | 4, 3 =>
    simp only [pr, decide_eq_true_eq] at h h'; omega
  | j + 5, _ => simp [pr] at h
  | _, k + 5 => simp [pr] at h'

theorem range_pw (m : Nat) : (List.range m).Pairwise (· ≠ ·) := List.nodup_range

theorem vis_nodup (i : Nat) : ∀ k, (vis n sg cx cy i k).Pairwise (· ≠ ·)
  | 0 => by simp [vis]
  | k + 1 => by
    simp only [vis, List.pairwise_append]
    refine ⟨vis_nodup i k, (range_pw n).filter _, fun a ha b hb e => ?_⟩
    subst e
    obtain ⟨_, j, hj, h1⟩ := (mem_vis i a k).1 ha
    have h2 := (List.mem_filter.1 hb).2
    have := pr_excl h1 h2
    omega

theorem vis_iff (O : Ord n sg cx cy far) {i p : Nat} (hi : i < n) : p ∈ vis n sg cx cy i 5 ↔ p < n ∧ i < p ∧ cx (sg i) ≤ cx (sg p) + 1 ∧ cx (sg p) ≤ cx (sg i) + 1 ∧ cy (sg i) ≤ cy (sg p) + 1 ∧ cy (sg p) ≤ cy (sg i) + 1 := by
  rw [mem_vis]
  constructor
  · rintro ⟨hp, j, hj, h⟩
    refine ⟨hp, ?_⟩
    have tri : p < i ∨ p = i ∨ i < p := by omega
    have lex : p < i → cy (sg p) < cy (sg i) ∨ (cy (sg p) = cy (sg i) ∧ cx (sg p) ≤ cx (sg i)) := fun q => O.asc p i q hi
    rcases (by omega : j = 0 ∨ j = 1 ∨ j = 2 ∨ j = 3 ∨ j = 4) with rfl | rfl | rfl | rfl | rfl <;> simp only [pr, decide_eq_true_eq] at h
    · omega
    all_goals
      rcases tri with q | q | q
      · have := lex q; omega
      · subst q; omega
      · omega
  · rintro ⟨hp, h1, h2, h3, h4, h5⟩
    refine ⟨hp, ?_⟩
    have lex := O.asc i p h1 hp
    rcases lex with l | ⟨l1, l2⟩
    · rcases (by omega : cx (sg p) + 1 = cx (sg i) ∨ cx (sg p) = cx (sg i) ∨ cx (sg p) = cx (sg i) + 1) with q | q | q
      · exact ⟨2, by omega, by simp only [pr, decide_eq_true_eq]; omega⟩
      · exact ⟨3, by omega, by simp only [pr, decide_eq_true_eq]; omega⟩
      · exact ⟨4, by omega, by simp only [pr, decide_eq_true_eq]; omega⟩
    · rcases (by omega : cx (sg p) = cx (sg i) ∨ cx (sg p) = cx (sg i) + 1) with q | q
      · exact ⟨0, by omega, by simp only [pr, decide_eq_true_eq]; omega⟩
      · exact ⟨1, by omega, by simp only [pr, decide_eq_true_eq]; omega⟩

theorem mem_em {i : Nat} {ps : List Nat} {x : Nat × Nat} : x ∈ em sg far i ps ↔ ∃ p, p ∈ ps ∧ far (sg i) (sg p) = false ∧ x = (min (sg i) (sg p), max (sg i) (sg p)) := by
  unfold em
  rw [List.mem_filterMap]
  constructor
  · rintro ⟨p, hp, h⟩
    cases hf : far (sg i) (sg p) with
    | true => rw [hf] at h; simp at h
    | false => rw [hf] at h; simp only [Bool.false_eq_true, if_false, Option.some.injEq] at h; exact ⟨p, hp, hf, h.symm⟩
  · rintro ⟨p, hp, hf, rfl⟩
    exact ⟨p, hp, by simp [hf]⟩

theorem mem_total {x : Nat × Nat} : ∀ k, x ∈ total n sg cx cy far k ↔ ∃ i, i < k ∧ x ∈ em sg far i (vis n sg cx cy i 5)
  | 0 => by simp [total]
  | k + 1 => by
    simp only [total, List.mem_append, mem_total k]
    constructor
    · rintro (⟨i, hi, h⟩ | h)
      · exact ⟨i, by omega, h⟩
      · exact ⟨k, by omega, h⟩
    · rintro ⟨i, hi, h⟩
      by_cases e : i = k
      · subst e; exact .inr h
      · exact .inl ⟨i, by omega, h⟩

theorem em_nodup (O : Ord n sg cx cy far) {i : Nat} : (em sg far i (vis n sg cx cy i 5)).Pairwise (· ≠ ·) := by
  unfold em
  rw [List.pairwise_filterMap]
  refine (vis_nodup i 5).imp_of_mem fun {a a'} ha ha' hne b hb b' hb' => ?_
  have l1 := ((mem_vis i a 5).1 ha).1
  have l2 := ((mem_vis i a' 5).1 ha').1
  rintro rfl
  split at hb
  · cases hb
  · split at hb'
    · cases hb'
    · simp only [Option.some.injEq] at hb hb'
      rw [← hb'] at hb
      have h1 := congrArg Prod.fst hb
      have h2 := congrArg Prod.snd hb
      simp only at h1 h2
      exact hne (O.inj a a' l1 l2 (by omega))

theorem total_nodup (O : Ord n sg cx cy far) : ∀ k, k ≤ n → (total n sg cx cy far k).Pairwise (· ≠ ·)
  | 0, _ => by simp [total]
  | k + 1, hk => by
    simp only [total, List.pairwise_append]
    refine ⟨total_nodup O k (by omega), em_nodup O, fun a ha b hb e => ?_⟩
    subst e
    obtain ⟨i, hi, h⟩ := (mem_total k).1 ha
    obtain ⟨p, hp, _, e1⟩ := mem_em.1 h
    obtain ⟨q, hq, _, e2⟩ := mem_em.1 hb
    rw [vis_iff O (by omega)] at hp hq
    rw [e1] at e2
    have h1 := congrArg Prod.fst e2
    have h2 := congrArg Prod.snd e2
    simp only at h1 h2
    rcases (by omega : sg i = sg k ∨ (sg i = sg q ∧ sg p = sg k)) with c | ⟨c, c'⟩
    · have := O.inj i k (by omega) (by omega) c; omega
    · have := O.inj i q (by omega) hq.1 c; omega

/-- THE PLAIN LAW. -/
theorem law (O : Ord n sg cx cy far) : (∀ x, x ∈ total n sg cx cy far n → x.1 < x.2 ∧ x.2 < n) ∧ (total n sg cx cy far n).Pairwise (· ≠ ·) ∧ (∀ a b, a < b → b < n → ((a, b) ∈ total n sg cx cy far n ↔ far a b = false)) := by
  have hm : ∀ a b, (a, b) ∈ total n sg cx cy far n → a < b ∧ b < n ∧ far a b = false := fun a b h => by
    obtain ⟨i, hi, h⟩ := (mem_total n).1 h
    obtain ⟨p, hp, hf, e⟩ := mem_em.1 h
    rw [vis_iff O hi] at hp
    have h1 := congrArg Prod.fst e
    have h2 := congrArg Prod.snd e
    simp only at h1 h2
    have li := O.lt i hi
    have lp := O.lt p hp.1
    have ne : sg i ≠ sg p := fun c => by have := O.inj i p hi hp.1 c; omega
    refine ⟨by omega, by omega, ?_⟩
    rcases (by omega : (a = sg i ∧ b = sg p) ∨ (a = sg p ∧ b = sg i)) with ⟨c, c'⟩ | ⟨c, c'⟩
    · rw [c, c']; exact hf
    · rw [c, c', O.sym _ _ lp li]; exact hf
  refine ⟨fun x hx => ⟨(hm x.1 x.2 hx).1, (hm x.1 x.2 hx).2.1⟩, total_nodup O n (Nat.le_refl _), fun a b hab hb => ⟨fun h => (hm a b h).2.2, fun hf => ?_⟩⟩
  obtain ⟨i, hi, ei⟩ := O.sur a (by omega)
  obtain ⟨j, hj, ej⟩ := O.sur b hb
  have nr := O.near a b (by omega) hb hf
  rw [mem_total]
  rcases Nat.lt_trichotomy i j with l | l | l
  · refine ⟨i, hi, mem_em.2 ⟨j, (vis_iff O hi).2 ⟨hj, l, ?_⟩, by rw [ei, ej]; exact hf, ?_⟩⟩
    · rw [ei, ej]; exact nr
    · rw [ei, ej, show min a b = a by omega, show max a b = b by omega]
  · exfalso; subst l; omega
  · refine ⟨j, hj, mem_em.2 ⟨i, (vis_iff O hj).2 ⟨hi, l, ?_⟩, by rw [ei, ej, O.sym b a hb (by omega)]; exact hf, ?_⟩⟩
    · rw [ei, ej]; exact ⟨nr.2.1, nr.1, nr.2.2.2, nr.2.2.1⟩
    · rw [ei, ej, show min b a = a by omega, show max b a = b by omega]
end Go.Proofs.Qxb6600854a.Pl
