import Derived.Laws.Cover2
/-! The pairs that 'linkWithin' meets, in their order; each pair of points in reach once. Plain: no program, no walk. -/
namespace Go.Proofs.Qxb6600854a.Pl

/-- What one point's round looks at: which later places of the order, run by run. Places, not points: 'sg' says which point lies at a place. -/
def pr (sg cx cy : Nat → Nat) (j i p : Nat) : Bool :=
  match j with
  | 0 => decide (i < p ∧ cx (sg p) = cx (sg i) ∧ cy (sg p) = cy (sg i))
  | 1 => decide (cx (sg p) = cx (sg i) + 1 ∧ cy (sg p) = cy (sg i))
  | 2 => decide (cx (sg p) + 1 = cx (sg i) ∧ cy (sg p) = cy (sg i) + 1)
  | 3 => decide (cx (sg p) = cx (sg i) ∧ cy (sg p) = cy (sg i) + 1)
  | 4 => decide (cx (sg p) = cx (sg i) + 1 ∧ cy (sg p) = cy (sg i) + 1)
  | _ => false

def vis (n : Nat) (sg cx cy : Nat → Nat) (i : Nat) : Nat → List Nat
  | 0 => []
  | j + 1 => vis n sg cx cy i j ++ (List.range n).filter (pr sg cx cy j i)

/-- The links that a row of places gives. -/
def em (sg : Nat → Nat) (far : Nat → Nat → Bool) (i : Nat) (ps : List Nat) : List (Nat × Nat) :=
  ps.filterMap fun p => if far (sg i) (sg p) then none else some (min (sg i) (sg p), max (sg i) (sg p))

def total (n : Nat) (sg cx cy : Nat → Nat) (far : Nat → Nat → Bool) : Nat → List (Nat × Nat)
  | 0 => []
  | i + 1 => total n sg cx cy far i ++ em sg far i (vis n sg cx cy i 5)

variable {n : Nat} {sg cx cy : Nat → Nat} {far : Nat → Nat → Bool}

theorem em_append (i : Nat) (a b : List Nat) : em sg far i (a ++ b) = em sg far i a ++ em sg far i b := by simp [em]
theorem em_nil (i : Nat) : em sg far i [] = [] := rfl
theorem em_snoc_far (i p : Nat) (a : List Nat) (h : far (sg i) (sg p) = true) : em sg far i (a ++ [p]) = em sg far i a := by simp [em, h]
theorem em_snoc (i p : Nat) (a : List Nat) (h : far (sg i) (sg p) = false) : em sg far i (a ++ [p]) = em sg far i a ++ [(min (sg i) (sg p), max (sg i) (sg p))] := by simp [em, h]
theorem em_length (i : Nat) (a : List Nat) : (em sg far i a).length ≤ a.length := List.length_filterMap_le _ _
theorem vis_length (i : Nat) : ∀ j, (vis n sg cx cy i j).length ≤ j * n
  | 0 => by simp [vis]
  | j + 1 => by
    have h := vis_length i j
    have h2 := List.length_filter_le (pr sg cx cy j i) (List.range n)
    rw [List.length_range] at h2
    simp only [vis, List.length_append, Nat.add_mul, Nat.one_mul]
    omega
theorem total_length : ∀ i, (total n sg cx cy far i).length ≤ i * (5 * n)
  | 0 => by simp [total]
  | i + 1 => by
    have h := total_length i
    have h2 := em_length (sg := sg) (far := far) i (vis n sg cx cy i 5)
    have h3 := vis_length (n := n) (sg := sg) (cx := cx) (cy := cy) i 5
    simp only [total, List.length_append, Nat.add_mul, Nat.one_mul]
    omega

/-- A stretch of places is a sieve of all places. -/
theorem range_filter {m t : Nat} {q : Nat → Bool} (hmt : m ≤ t) (htn : t ≤ n) (h : ∀ p, p < n → (q p = true ↔ m ≤ p ∧ p < t)) : (List.range n).filter q = List.range' m (t - m) := by
  have e : List.range n = List.range' 0 m ++ (List.range' m (t - m) ++ List.range' t (n - t)) := by
    rw [List.range_eq_range']
    have e1 : List.range' 0 m ++ List.range' m (n - m) = List.range' 0 n := by
      have := List.range'_append_1 (s := 0) (m := m) (n := n - m)
      rw [Nat.zero_add] at this
      rw [this]; congr 1; omega
    have e2 : List.range' m (t - m) ++ List.range' t (n - t) = List.range' m (n - m) := by
      have := List.range'_append_1 (s := m) (m := t - m) (n := n - t)
      rw [show m + (t - m) = t by omega] at this
      rw [this]; congr 1; omega
    rw [e2, e1]
  rw [e, List.filter_append, List.filter_append]
  have f1 : (List.range' 0 m).filter q = [] := by
    rw [List.filter_eq_nil_iff]
    intro p hp
    have := List.mem_range'_1.1 hp
    intro c
    have := (h p (by omega)).1 c
    omega
  have f2 : (List.range' t (n - t)).filter q = [] := by
    rw [List.filter_eq_nil_iff]
    intro p hp
    have := List.mem_range'_1.1 hp
    intro c
    have := (h p (by omega)).1 c
    omega
  have f3 : (List.range' m (t - m)).filter q = List.range' m (t - m) := by
    rw [List.filter_eq_self]
    intro p hp
    have := List.mem_range'_1.1 hp
    exact (h p (by omega)).2 (by omega)
  rw [f1, f2, f3]; simp

end Go.Proofs.Qxb6600854a.Pl
