import Derived.Test.Qxb6602679aFloat
import GoSem.Core.Float
import Derived.Sort.Lot0
/-! The plain part of 'medianOf': the partitions around a pivot. No program, no walk. -/
namespace Go.Proofs.Qxb6602679a.Med
open Go.Sort
set_option linter.unusedVariables false

def lt32 (x y : Nat) : Bool := FloatKind.f32.format.order x y == some .lt
def gt32 (x y : Nat) : Bool := FloatKind.f32.format.order x y == some .gt
def kv (x : Nat) : Int := (Fl.key Ieee.single x).getD 0
/-- Not a NaN. -/
def nn (x : Nat) : Prop := (Fl.key Ieee.single x).isSome = true

theorem order_nn {x y : Nat} (hx : nn x) (hy : nn y) : FloatKind.f32.format.order x y = some (compare (kv x) (kv y)) := by
  obtain ⟨a, ha⟩ := Option.isSome_iff_exists.1 hx
  obtain ⟨b, hb⟩ := Option.isSome_iff_exists.1 hy
  show Ieee.single.order x y = _
  rw [Fl.order_eq, ha, hb]
  simp [kv, ha, hb]

theorem lt_nn {x y : Nat} (hx : nn x) (hy : nn y) : lt32 x y = decide (kv x < kv y) := by
  unfold lt32
  rw [order_nn hx hy, Fl.compare_int]
  by_cases h : kv x < kv y
  · simp [h]
  · by_cases e : kv x = kv y <;> simp [h, e]
theorem gt_nn {x y : Nat} (hx : nn x) (hy : nn y) : gt32 x y = decide (kv y < kv x) := by
  unfold gt32
  rw [order_nn hx hy, Fl.compare_int]
  by_cases h : kv x < kv y
  · have : ¬ kv y < kv x := by omega
    simp [h, this]
  · by_cases e : kv x = kv y
    · simp [e]
    · have : kv y < kv x := by omega
      simp [h, e, this]

theorem order_self (x : Nat) : FloatKind.f32.format.order x x = none ∨ FloatKind.f32.format.order x x = some .eq := by
  show Ieee.single.order x x = none ∨ Ieee.single.order x x = some .eq
  rw [Fl.order_eq]
  cases Fl.key Ieee.single x with
  | none => left; rfl
  | some a => right; simp [Fl.compare_int]
theorem lt_self (x : Nat) : lt32 x x = false := by
  unfold lt32; rcases order_self x with h | h <;> rw [h] <;> rfl
theorem gt_self (x : Nat) : gt32 x x = false := by
  unfold gt32; rcases order_self x with h | h <;> rw [h] <;> rfl
theorem gt_of_lt {x y : Nat} (h : lt32 x y = true) : gt32 x y = false := by
  unfold lt32 at h; unfold gt32; rw [beq_iff_eq] at h; rw [h]; rfl
theorem lt_of_gt {x y : Nat} (h : gt32 x y = true) : lt32 x y = false := by
  unfold gt32 at h; unfold lt32; rw [beq_iff_eq] at h; rw [h]; rfl

/-! ### One partition -/
def In (lo hi i j1 p : Nat) (d : Array Nat) : Prop :=
  (∀ a, lo ≤ a → a < i → gt32 d[a]! p = false) ∧ (∀ b, j1 ≤ b → b ≤ hi → lt32 d[b]! p = false) ∧
  (i < j1 → (∃ s, i ≤ s ∧ s ≤ hi ∧ lt32 d[s]! p = false) ∧ (∃ s, lo ≤ s ∧ s < j1 ∧ gt32 d[s]! p = false)) ∧
  ((i = lo ∧ j1 = hi + 1 ∧ ∃ c, lo ≤ c ∧ c ≤ hi ∧ lt32 d[c]! p = false ∧ gt32 d[c]! p = false) ∨ (lo < i ∧ j1 ≤ hi))

theorem In_start (lo hi : Nat) (d : Array Nat) (h : lo < hi) : In lo hi lo (hi + 1) d[(lo + hi) / 2]! d :=
  ⟨fun a h1 h2 => by omega, fun b h1 h2 => by omega,
   fun _ => ⟨⟨(lo + hi) / 2, by omega, by omega, lt_self _⟩, ⟨(lo + hi) / 2, by omega, by omega, gt_self _⟩⟩,
   .inl ⟨rfl, rfl, (lo + hi) / 2, by omega, by omega, lt_self _, gt_self _⟩⟩

theorem swp_at_i (d : Array Nat) (i j : Nat) (hi : i < d.size) (hj : j < d.size) : (swp d i j)[i]! = d[j]! := by
  unfold swp
  by_cases e : i = j
  · subst e; rw [getElem!_pos _ i (by simpa using hi), Array.getElem_setIfInBounds, if_pos rfl]; simpa using hi
  · rw [getElem!_pos _ i (by simpa using hi), Array.getElem_setIfInBounds, if_neg (by omega), Array.getElem_setIfInBounds, if_pos rfl]
    · exact hi
    · simpa using hi
theorem swp_at_j (d : Array Nat) (i j : Nat) (hj : j < d.size) : (swp d i j)[j]! = d[i]! := by
  unfold swp
  rw [getElem!_pos _ j (by simpa using hj), Array.getElem_setIfInBounds, if_pos rfl]
  simpa using hj
theorem swp_at_other (d : Array Nat) (i j t : Nat) (h1 : t ≠ i) (h2 : t ≠ j) : (swp d i j)[t]! = d[t]! := by
  unfold swp
  by_cases ht : t < d.size
  · rw [getElem!_pos _ t (by simpa using ht), Array.getElem_setIfInBounds, if_neg (by omega), Array.getElem_setIfInBounds, if_neg (by omega), getElem!_pos d t ht]
    simpa using ht
  · rw [getElem!_neg _ t (by simpa using ht), getElem!_neg d t ht]

theorem In_swap {lo hi i j1 p : Nat} {d : Array Nat} (h : In lo hi i j1 p d) (hs : hi < d.size) (hl : lo ≤ i) (hj : j1 ≤ hi + 1) {i2 j2 : Nat} (a1 : i ≤ i2) (a2 : ∀ a, i ≤ a → a < i2 → lt32 d[a]! p = true) (a3 : lt32 d[i2]! p = false)
    (b1 : j2 < j1) (b2 : ∀ b, j2 < b → b < j1 → gt32 d[b]! p = true) (b3 : gt32 d[j2]! p = false) (hij : i2 ≤ j2) : In lo hi (i2 + 1) j2 p (swp d i2 j2) := by
  obtain ⟨h1, h2, h3, h4⟩ := h
  refine ⟨fun a q1 q2 => ?_, fun b q1 q2 => ?_, fun q => ⟨⟨j2, by omega, by omega, ?_⟩, ⟨i2, by omega, by omega, ?_⟩⟩, .inr ⟨by omega, by omega⟩⟩
  · by_cases e : a = i2
    · rw [e, swp_at_i d i2 j2 (by omega) (by omega)]; exact b3
    · rw [swp_at_other d i2 j2 a e (by omega)]
      by_cases l : a < i
      · exact h1 a q1 l
      · exact gt_of_lt (a2 a (by omega) (by omega))
  · by_cases e : b = j2
    · rw [e, swp_at_j d i2 j2 (by omega)]; exact a3
    · rw [swp_at_other d i2 j2 b (by omega) e]
      by_cases l : b < j1
      · exact lt_of_gt (b2 b (by omega) l)
      · exact h2 b (by omega) q2
  · rw [swp_at_j d i2 j2 (by omega)]; exact a3
  · rw [swp_at_i d i2 j2 (by omega) (by omega)]; exact b3

theorem In_past {lo hi i j1 p : Nat} {d : Array Nat} (h : In lo hi i j1 p d) (hl : lo ≤ i) {i2 j2 : Nat} (a1 : i ≤ i2) (a2 : ∀ a, i ≤ a → a < i2 → lt32 d[a]! p = true)
    (b1 : j2 < j1) (b2 : ∀ b, j2 < b → b < j1 → gt32 d[b]! p = true) (hij : j2 < i2) : In lo hi i2 (j2 + 1) p d := by
  obtain ⟨h1, h2, h3, h4⟩ := h
  refine ⟨fun a q1 q2 => ?_, fun b q1 q2 => ?_, fun q => absurd q (by omega), .inr ?_⟩
  · by_cases l : a < i
    · exact h1 a q1 l
    · exact gt_of_lt (a2 a (by omega) q2)
  · by_cases l : b < j1
    · exact lt_of_gt (b2 b (by omega) l)
    · exact h2 b (by omega) q2
  · rcases h4 with ⟨e1, e2, c, c1, c2, c3, c4⟩ | ⟨e1, e2⟩
    · exfalso
      have g1 : i2 ≤ c := by
        rcases Nat.lt_or_ge c i2 with l | l
        · have := a2 c (by omega) l; rw [c3] at this; cases this
        · exact l
      have g2 : c ≤ j2 := by
        rcases Nat.lt_or_ge j2 c with l | l
        · have := b2 c l (by omega); rw [c4] at this; cases this
        · exact l
      omega
    · exact ⟨by omega, by omega⟩

/-! ### The partitions together -/
def Inv (n lo hi : Nat) (d : Array Nat) : Prop := (∀ i, i < n → nn d[i]!) →
  (∀ a b, a < lo → lo ≤ b → b < n → kv d[a]! ≤ kv d[b]!) ∧ (∀ a b, a ≤ hi → hi < b → b < n → kv d[a]! ≤ kv d[b]!)
def Final (n k : Nat) (d : Array Nat) : Prop := (∀ i, i < n → nn d[i]!) → (∀ a, a < k → kv d[a]! ≤ kv d[k]!) ∧ (∀ b, k < b → b < n → kv d[k]! ≤ kv d[b]!)

theorem Inv_start (n : Nat) (d : Array Nat) : Inv n 0 (n - 1) d := fun _ => ⟨fun a b h => by omega, fun a b h1 h2 h3 => by omega⟩
theorem Final_of_Inv {n k : Nat} {d : Array Nat} (hk : k < n) (h : Inv n k k d) : Final n k d := fun g =>
  ⟨fun a ha => (h g).1 a k ha (Nat.le_refl _) hk, fun b hb hn => (h g).2 k b (Nat.le_refl _) hb hn⟩

/-- What holds of all of a stretch goes over to the permuted stretch, and back. -/
theorem perm_all {lo hi n : Nat} {d d' : Array Nat} (hp : PermIn lo (hi + 1) d d') (hs : d.size = n) (hh : hi < n) (p : Nat → Prop) (h : ∀ i, lo ≤ i → i ≤ hi → p d[i]!) : ∀ i, lo ≤ i → i ≤ hi → p d'[i]! := by
  have := permIn_all d d' lo (hi + 1) p (by omega) hp (fun i h1 h2 => h i h1 (by omega))
  exact fun i h1 h2 => this i h1 (by omega)
theorem perm_symm {a b : Nat} {d d' : Array Nat} (hp : PermIn a b d d') : PermIn a b d' d := ⟨hp.1.symm, fun i hi => (hp.2.1 i hi).symm, hp.2.2.symm⟩

theorem nn_back {lo hi n : Nat} {d d' : Array Nat} (hp : PermIn lo (hi + 1) d d') (hs : d.size = n) (hh : hi < n) (h : ∀ i, i < n → nn d'[i]!) : ∀ i, i < n → nn d[i]! := fun i hi' => by
  by_cases e : lo ≤ i ∧ i ≤ hi
  · exact perm_all (perm_symm hp) (by rw [hp.1]; exact hs) hh nn (fun j _ q => h j (by omega)) i e.1 e.2
  · have := hp.2.1 i (by omega)
    rw [← this]; exact h i hi'

theorem Inv_perm {n lo hi : Nat} {d d' : Array Nat} (hp : PermIn lo (hi + 1) d d') (hs : d.size = n) (hh : hi < n) (hl : lo ≤ hi) (h : Inv n lo hi d) : Inv n lo hi d' := fun g => by
  obtain ⟨q1, q2⟩ := h (nn_back hp hs hh g)
  have o : ∀ i, i < lo ∨ hi < i → d'[i]! = d[i]! := fun i hi' => hp.2.1 i (by omega)
  refine ⟨fun a b h1 h2 h3 => ?_, fun a b h1 h2 h3 => ?_⟩
  · rw [o a (.inl h1)]
    by_cases e : b ≤ hi
    · exact perm_all hp hs hh (fun x => kv d[a]! ≤ kv x) (fun i i1 i2 => q1 a i h1 i1 (by omega)) b h2 e
    · rw [o b (by omega)]; exact q1 a b h1 h2 h3
  · rw [o b (.inr h2)]
    by_cases e : lo ≤ a
    · exact perm_all hp hs hh (fun x => kv x ≤ kv d[b]!) (fun i i1 i2 => q2 i b i2 h2 h3) a e h1
    · rw [o a (by omega)]; exact q2 a b h1 h2 h3

theorem split_of {n lo hi i j1 p : Nat} {d : Array Nat} (h : Inv n lo hi d) (hin : In lo hi i j1 p d) (hp : (∀ i, i < n → nn d[i]!) → nn p) (hle : j1 ≤ i) (hn : hi < n) (hi1 : i ≤ hi + 1) (hj1 : lo ≤ j1) (g : ∀ i, i < n → nn d[i]!) :
    ∀ a b, a < i → j1 ≤ b → b < n → (a < j1 ∨ i ≤ b ∨ True) → (a ≤ hi) → (lo ≤ b) → kv d[a]! ≤ kv d[b]! := by
  intro a b h1 h2 h3 _ h5 h6
  obtain ⟨q1, q2⟩ := h g
  by_cases ea : a < lo
  · exact q1 a b ea h6 h3
  by_cases eb : hi < b
  · exact q2 a b h5 eb h3
  have r1 := hin.1 a (by omega) h1
  have r2 := hin.2.1 b h2 (by omega)
  rw [gt_nn (g a (by omega)) (hp g)] at r1
  rw [lt_nn (g b h3) (hp g)] at r2
  simp only [decide_eq_false_iff_not] at r1 r2
  omega

theorem Inv_left {n lo hi i j p : Nat} {d : Array Nat} (h : Inv n lo hi d) (hin : In lo hi i (j + 1) p d) (hp : (∀ i, i < n → nn d[i]!) → nn p) (hle : j + 1 ≤ i) (hn : hi < n) (hi1 : i ≤ hi + 1) (hj1 : lo ≤ j + 1) : Inv n lo j d := fun g => by
  have S := split_of h hin hp hle hn hi1 hj1 g
  obtain ⟨q1, q2⟩ := h g
  exact ⟨q1, fun a b h1 h2 h3 => S a b (by omega) (by omega) h3 (.inr (.inr trivial)) (by omega) (by omega)⟩
theorem Inv_right {n lo hi i j1 p : Nat} {d : Array Nat} (h : Inv n lo hi d) (hin : In lo hi i j1 p d) (hp : (∀ i, i < n → nn d[i]!) → nn p) (hle : j1 ≤ i) (hn : hi < n) (hi1 : i ≤ hi + 1) (hj1 : lo ≤ j1) (hlo : lo ≤ i) : Inv n i hi d := fun g => by
  have S := split_of h hin hp hle hn hi1 hj1 g
  obtain ⟨q1, q2⟩ := h g
  exact ⟨fun a b h1 h2 h3 => S a b h1 (by omega) h3 (.inr (.inr trivial)) (by omega) (by omega), q2⟩
theorem Final_mid {n lo hi i j1 p k : Nat} {d : Array Nat} (h : Inv n lo hi d) (hin : In lo hi i j1 p d) (hp : (∀ i, i < n → nn d[i]!) → nn p) (hle : j1 ≤ i) (hn : hi < n) (hi1 : i ≤ hi + 1) (hj1 : lo ≤ j1) (k1 : j1 ≤ k) (k2 : k < i) : Final n k d := fun g => by
  have S := split_of h hin hp hle hn hi1 hj1 g
  exact ⟨fun a h1 => S a k (by omega) k1 (by omega) (.inr (.inr trivial)) (by omega) (by omega), fun b h1 h2 => S k b k2 (by omega) h2 (.inr (.inr trivial)) (by omega) (by omega)⟩

end Go.Proofs.Qxb6602679a.Med
