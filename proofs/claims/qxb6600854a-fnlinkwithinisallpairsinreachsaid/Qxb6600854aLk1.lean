import Derived.Test.Qxb6600854aLk0
/-! Before the walk of linkWithin: the runs of a cell. -/
namespace Go.Proofs.Qxb6600854a.Lk
open Go.ChangeShapes Go.WideShapes Go.ChangeAt Go.RowKit Go.Sort Go.Proofs.Qxb6600854a.Lw Go.Proofs.Qxb6600854a.Sr

theorem Try.info41 : (Try.prog.info? 41).map (fun i => (i.zero, i.size, i.bytes)) = some (some (.agg #[.int .i64 0, .int .i64 0]), 2, 16) := by kernel_rfl

/-- The cell of place s is the places s .. t - 1. -/
structure Cl (n : Nat) (sg cx cy : Nat → Nat) (s t CX CY : Nat) : Prop where
  le : t ≤ n
  here : ∀ p, s ≤ p → p < t → cx (sg p) = CX ∧ cy (sg p) = CY
  past : ∀ p, t ≤ p → p < n → ¬ (cx (sg p) = CX ∧ cy (sg p) = CY)

theorem cl_of {w2 : World} {B bx ox bY oY n : Nat} {X Y : Nat → Nat} {nw : Nat} {cx cy sg : Nat → Nat} {far : Nat → Nat → Bool} (H : Bin w2 B bx ox bY oY n X Y nw cx cy sg far) (n1 : n ≤ 1024) {s m t A CX CY : Nat} (hs : s < n) (hC : cx (sg s) = CX ∧ cy (sg s) = CY) (hA : CY * 2097152 + CX = A) (hm : m ≤ n - s) (ht : s + m = t)
    (h1 : ∀ j, j < m → key cx cy (sg (s + j)) / 1048576 = (A : Int)) (h2 : m < n - s → key cx cy (sg (s + m)) / 1048576 ≠ (A : Int)) : Cl n sg cx cy s t CX CY := by
  have kc : ∀ p, p < n → key cx cy (sg p) / 1048576 = (cy (sg p) : Int) * 2097152 + (cx (sg p) : Int) := fun p hp => key_cell cx cy (sg p) (by have := H.lt p hp; omega)
  have lxs := H.lx s hs
  rw [hC.1] at lxs
  refine ⟨by omega, fun p hp hpt => ?_, fun p hp hpn => ?_⟩
  · have e := h1 (p - s) (by omega)
    rw [show s + (p - s) = p by omega, kc p (by omega)] at e
    have := H.lx p (by omega)
    omega
  · have ne := h2 (by omega)
    rw [ht] at ne
    have a1 := H.asc s t (by omega) (by omega)
    have a2 := H.asc t p hp hpn
    have e0 := kc s hs
    rw [hC.1, hC.2] at e0
    have ep := kc p hpn
    rintro ⟨q1, q2⟩
    rw [q1, q2] at ep
    omega

structure Runs (n : Nat) (sg cx cy : Nat → Nat) (s t : Nat) (G : Array Int) : Prop where
  size : G.size = 10
  end_ : G[1]! = (t : Int)
  str : ∀ i, 1 ≤ i → i ≤ 4 → Str n sg cx cy s i G[2 * i]! G[2 * i + 1]!

theorem Runs.set {n : Nat} {sg cx cy : Nat → Nat} {s t : Nat} {G : Array Int} (h : Runs n sg cx cy s t G) (x : Int) : Runs n sg cx cy s t (G.setIfInBounds 0 x) := by
  refine ⟨by rw [Array.size_setIfInBounds]; exact h.size, ?_, fun i h1 h2 => ?_⟩
  · rw [getElem!_set_other _ _ _ _ (by omega)]; exact h.end_
  · rw [getElem!_set_other _ _ _ _ (by omega), getElem!_set_other _ _ _ _ (by omega)]; exact h.str i h1 h2

theorem Runs.at {n : Nat} {sg cx cy : Nat → Nat} {s t CX CY : Nat} {G : Array Int} (h : Runs n sg cx cy s t G) (C : Cl n sg cx cy s t CX CY) {i : Nat} (hsi : s ≤ i) (hit : i < t) {k : Nat} (hk : k < 5) :
    Str n sg cx cy i k (G.setIfInBounds 0 ((i : Int) + 1))[2 * k]! (G.setIfInBounds 0 ((i : Int) + 1))[2 * k + 1]! := by
  have ci := C.here i hsi hit
  have cs := C.here s (Nat.le_refl _) (by omega)
  rcases Nat.eq_zero_or_pos k with rfl | hk0
  · refine ⟨i + 1, t, ?_, ?_, by omega, C.le, fun p hp => ?_⟩
    · rw [getElem!_set_same _ _ _ (by rw [h.size]; omega)]; omega
    · exact (h.set _).end_
    · simp only [Pl.pr, decide_eq_true_eq, ci.1, ci.2]
      constructor
      · rintro ⟨h1, h2, h3⟩
        refine ⟨by omega, ?_⟩
        rcases Nat.lt_or_ge p t with q | q
        · exact q
        · exact absurd ⟨h2, h3⟩ (C.past p q hp)
      · rintro ⟨h1, h2⟩
        exact ⟨by omega, C.here p (by omega) h2⟩
  · obtain ⟨f, u, e1, e2, l1, l2, e⟩ := (h.set ((i : Int) + 1)).str k hk0 (by omega)
    refine ⟨f, u, e1, e2, l1, l2, fun p hp => ?_⟩
    rw [← e p hp]
    have : Pl.pr sg cx cy k i p = Pl.pr sg cx cy k s p := by
      rcases (by omega : k = 1 ∨ k = 2 ∨ k = 3 ∨ k = 4) with rfl | rfl | rfl | rfl <;> simp only [Pl.pr, ci.1, ci.2, cs.1, cs.2]
    rw [this]

theorem len_own {w wr : World} {base : Nat} {v : Value} {L : List (Nat × Nat)} (h : S0 w wr base v L) (ty : TypeId) (W : World) : (Builtin.len_ #[36] ty #[v]).run Try.prog W = .ok (.int .i64 (L.length : Int)) W := by
  rcases h.own.2 with ⟨rfl, e⟩ | ⟨g, cap, cur, rfl, _⟩
  · rw [e]; exact run_len_slice W 36 ty none 0 0 (by kernel_rfl)
  · exact run_len_slice W 36 ty _ _ _ (by kernel_rfl)
theorem min_int (a b : Nat) : min (a : Int) (b : Int) = ((min a b : Nat) : Int) := by omega
theorem max_int (a b : Nat) : max (a : Int) (b : Int) = ((max a b : Nat) : Int) := by omega

/-- The points, in the order of their keys. -/
structure Sg (n : Nat) (sg cx cy : Nat → Nat) : Prop where
  lt : ∀ i, i < n → sg i < n
  inj : ∀ i j, i < n → j < n → sg i = sg j → i = j
  sur : ∀ a, a < n → ∃ i, i < n ∧ sg i = a
  asc : ∀ i j, i < j → j < n → cy (sg i) < cy (sg j) ∨ (cy (sg i) = cy (sg j) ∧ cx (sg i) ≤ cx (sg j))

theorem key_mod (cx cy : Nat → Nat) (q : Nat) (hq : q < 1048576) : (key cx cy q % 1048576).toNat = q := by unfold key; omega

theorem extract_all {d : Array Int} {n : Nat} (h : d.size = n) : (d.extract 0 n).toList = d.toList := by
  subst h; simp

theorem get_mem {d : Array Int} {j : Nat} (h : j < d.size) : d[j]! ∈ d.toList := by
  rw [getElem!_pos d j h]; exact Array.mem_toList_iff.2 (Array.getElem_mem h)

theorem mem_get {d : Array Int} {x : Int} (h : x ∈ d.toList) : ∃ j, j < d.size ∧ d[j]! = x := by
  obtain ⟨j, hj, e⟩ := Array.getElem_of_mem (Array.mem_toList_iff.1 h)
  exact ⟨j, hj, by rw [getElem!_pos d j hj]; exact e⟩

theorem sorted_of {n : Nat} {cx cy : Nat → Nat} {d d2 : Array Int} (n1 : n ≤ 1024) (hd : d.size = n) (hk : ∀ j, j < n → d[j]! = key cx cy j) (hx : ∀ j, j < n → cx j ≤ 1048576) (hP : PermIn 0 n d d2) (hA : Asc d2 0 n) :
    ∃ sg, Sg n sg cx cy ∧ (∀ j, j < n → d2[j]! = key cx cy (sg j)) := by
  have s2 : d2.size = n := hP.1.trans hd
  have pm := hP.2.2
  rw [extract_all hd, extract_all s2] at pm
  have all : ∀ j, j < n → ∃ q, q < n ∧ d2[j]! = key cx cy q := fun j hj => by
    have h1 := pm.mem_iff.1 (get_mem (d := d2) (j := j) (by omega))
    obtain ⟨q, hq, e⟩ := mem_get h1
    exact ⟨q, by omega, by rw [← e]; exact hk q (by omega)⟩
  refine ⟨fun j => (d2[j]! % 1048576).toNat, ?_, ?_⟩
  · have eq : ∀ j, j < n → d2[j]! = key cx cy ((d2[j]! % 1048576).toNat) := fun j hj => by
      obtain ⟨q, hq, e⟩ := all j hj
      rw [e, key_mod cx cy q (by omega)]
    have lt : ∀ j, j < n → (d2[j]! % 1048576).toNat < n := fun j hj => by
      obtain ⟨q, hq, e⟩ := all j hj
      rw [e, key_mod cx cy q (by omega)]; exact hq
    refine ⟨lt, fun i j hi hj e => ?_, fun a ha => ?_, fun i j hij hj => ?_⟩
    · have e2 : d2[i]! = d2[j]! := by rw [eq i hi, eq j hj, e]
      have nd : d2.toList.Nodup := by
        rw [pm.nodup_iff]
        rw [show d.toList = (List.range n).map (key cx cy) by
          apply List.ext_getElem
          · simp [hd]
          · intro k h1 h2
            have hkn : k < n := by simpa [hd] using h1
            have := hk k hkn
            rw [getElem!_pos d k (by omega)] at this
            simp [this]]
        refine (List.pairwise_map.2 ((List.nodup_range (n := n)).imp_of_mem fun {a b} ha hb hne he => ?_))
        have ha' := List.mem_range.1 ha
        have hb' := List.mem_range.1 hb
        have h1 := key_mod cx cy a (by omega)
        have h2 := key_mod cx cy b (by omega)
        rw [he] at h1
        exact hne (h1.symm.trans h2)
      rw [getElem!_pos d2 i (by omega), getElem!_pos d2 j (by omega)] at e2
      have := (List.getElem_inj (xs := d2.toList) (i := i) (j := j) (h₀ := by simpa [s2] using hi) (h₁ := by simpa [s2] using hj) nd).1 (by simpa using e2)
      exact this
    · have h1 : key cx cy a ∈ d.toList := by rw [← hk a ha]; exact get_mem (by omega)
      obtain ⟨j, hj, e⟩ := mem_get (pm.mem_iff.2 h1)
      exact ⟨j, by omega, by rw [e, key_mod cx cy a (by omega)]⟩
    · have h := hA i j (Nat.zero_le _) (by omega) hj
      rw [eq i (by omega), eq j hj] at h
      have li := lt i (by omega)
      have lj := lt j hj
      generalize (d2[i]! % 1048576).toNat = a at *
      generalize (d2[j]! % 1048576).toNat = b at *
      have xa := hx a li
      have xb := hx b lj
      unfold key at h
      omega
  · intro j hj
    obtain ⟨q, hq, e⟩ := all j hj
    show d2[j]! = key cx cy ((d2[j]! % 1048576).toNat)
    rw [e, key_mod cx cy q (by omega)]

theorem bin_of {w wr w2 : World} {bx ox bY oY n : Nat} {X Y : Nat → Nat} {sd rc c1 c2 cw nw : Nat} {cx cy : Nat → Nat} {far : Nat → Nat → Bool} {d d2 : Array Int} (I : Inp w bx ox bY oY n X Y sd rc c1 c2 cw nw cx cy far)
    (K : K1 w wr n cx cy d n) (hP : PermIn 0 n d d2) (hA : Asc d2 0 n) (hS : SW wr w2 w.heap.size 0 n d2) :
    ∃ sg, Bin w2 w.heap.size bx ox bY oY n X Y nw cx cy sg far ∧ Sg n sg cx cy ∧ Below w.heap.size w w2 := by
  obtain ⟨sg, S, hk⟩ := sorted_of I.n1 K.size K.upto I.lx hP hA
  have hbx : bx < w.heap.size := World.block_lt_of_cell? _ _ (I.xs 0 I.n0)
  have hby : bY < w.heap.size := World.block_lt_of_cell? _ _ (I.ys 0 I.n0)
  have szr : w.heap.size ≤ wr.heap.size := K.bel.size
  have bl : Below w.heap.size wr w2 := hS.fr.below szr (fun k hk e => by omega)
  have bw : Below w.heap.size w w2 := K.bel.trans bl
  have kc : ∀ j, j < n → w2.cell? ⟨w.heap.size, j, none⟩ = some (.int .u64 (key cx cy (sg j))) := fun j hj => by
    have := hS.cell (i := j) hj
    rw [Nat.zero_add, hk j hj] at this
    exact this
  refine ⟨sg, ⟨World.block_lt_of_cell? _ _ (kc 0 I.n0), hbx, hby, fun j hj => (bw.cell hbx).trans (I.xs j hj), fun j hj => (bw.cell hby).trans (I.ys j hj), kc, fun j hj => ?_, S.lt, fun i j hij hj => ?_, fun j hj => I.lx _ (S.lt j hj), fun j hj => I.ly _ (S.lt j hj), I.dist⟩, S, bw⟩
  · have h1 := I.lx _ (S.lt j hj)
    have h2 := I.ly _ (S.lt j hj)
    have h3 := S.lt j hj
    have h4 := I.n1
    unfold key
    omega
  · have := hA i j (Nat.zero_le _) hij hj
    rwa [hk i (by omega), hk j hj] at this

theorem own_mono {wr : World} {b b' e size n : Nat} {v : Value} {xs : List Value} (h : wr.ownsRow b e size v n xs) (hb : b' ≤ b) : wr.ownsRow b' e size v n xs := by
  refine ⟨h.1, ?_⟩
  rcases h.2 with hn | ⟨g, cap, cur, hv, hbg, rest⟩
  · exact .inl hn
  · exact .inr ⟨g, cap, cur, hv, Nat.le_trans hb hbg, rest⟩

theorem last_of {w w2 wr : World} {B : Nat} {v : Value} {L : List (Nat × Nat)} (hB : w.heap.size = B) (h : S0 w2 wr (B + 1) v L) (hw : Below B w w2) : S0 w wr w.heap.size v L := by
  rw [hB]
  exact ⟨hw.trans (h.bel.mono (Nat.le_succ B)), own_mono h.own (Nat.le_succ B), Nat.le_trans (Nat.le_succ B) h.sz⟩
end Go.Proofs.Qxb6600854a.Lk
