import Derived.WalkKit
import Derived.ProofKit
import Derived.Below
import Derived.OwnWalk
import Derived.Deep.Draws
import Derived.Laws.MakeOwn
import Derived.Sort.Row
/-! Rows of cells: what 'make' lays, what a store turns, what stays. No program in this text. -/
namespace Go.Proofs.Qxb6602679a.Row
open Go Go.RowKit Go.Sort

/-- A float is stored as one cell (the walk's set has this law for the other kinds). -/
theorem run_store_float {P : Program} (w : World) (a : Addr) (k : FloatKind) (b : Nat) (m : Mode) : (store a (.float k b) m).run P w = stored P w a (.float k b) m := run_store P w a _ m rfl

theorem madeCells_one (z : Value) (n : Nat) : madeCells #[z] n = Array.replicate n z := by
  apply Array.ext
  · simp [madeCells]
  · intro i h1 h2
    simp [madeCells, Nat.mod_one]

/-- 'make([]T, n)', T of one cell, n a variable: the world is the old one with one block more. -/
theorem wpList_make_row {P : Program} (w : World) {ops : Array Oper} {rest : List Oper} {o : Oper} {a : Act} {Q : Exit → Act → World → Prop}
    (hg : o.guard = none) (l c : Operand) (t : TypeId) (hop : o.op = Op.makeSlice t l c)
    (e : TypeId) (z : Value) (bytes : Nat) (ht : P.underlying t = some (.slice e)) (hinfo : (P.info? e).map (fun i => (i.zero, i.size, i.bytes)) = some (some z, 1, bytes)) (hz1 : z.cells = #[z])
    (kl kc : IntKind) (L C : Int) (n : Nat) (hl : a.eval l = .int kl L) (hc : a.eval c = .int kc C) (hL : L = (n : Int)) (hC : C = (n : Int)) (b2 : bytes * n ≤ 281474976710656) (b3 : n ≤ 9223372036854775807)
    (hK : wpList P ops Q rest (a.put o.dst (.slice (some ⟨w.heap.size, 0, none⟩) n n)) (w.alloc (.cells (Array.replicate n z) e))) :
    wpList P ops Q (o :: rest) a w := by
  refine wpList_plain hg fun K hK' => ?_
  obtain ⟨i, hi, hz, hs, hb⟩ := info_parts hinfo
  have hb' : (i.bytes : Int) * (n : Int) ≤ 281474976710656 := by
    have h : ((i.bytes * n : Nat) : Int) ≤ 281474976710656 := by rw [hb]; omega
    rwa [Int.natCast_mul] at h
  have hr := run_make (P := P) w t e i z ht hi hz kl kc n n (by omega) (by omega) hb' (by omega)
  simp only [Int.toNat_natCast, hs, Nat.mul_one, hz1, madeCells_one] at hr
  subst hL
  subst hC
  unfold Oper.wp
  simp [execOp, hop, hl, hc, hr, Result.andThen]
  exact hK' _ _ hK

/-! ### What stays: every block that was there and is not in S -/
structure Fr (S : Nat → Prop) (w w' : World) : Prop where
  os : w'.os = w.os
  tape : w'.tape = w.tape
  output : w'.output = w.output
  size : w.heap.size ≤ w'.heap.size
  block : ∀ k, k < w.heap.size → ¬ S k → w'.heap[k]? = w.heap[k]?

theorem Fr.refl (S : Nat → Prop) (w : World) : Fr S w w := ⟨rfl, rfl, rfl, Nat.le_refl _, fun _ _ _ => rfl⟩
theorem Fr.trans {S : Nat → Prop} {a b c : World} (h : Fr S a b) (k : Fr S b c) : Fr S a c :=
  ⟨k.os.trans h.os, k.tape.trans h.tape, k.output.trans h.output, Nat.le_trans h.size k.size, fun i hi ns => (k.block i (Nat.lt_of_lt_of_le hi h.size) ns).trans (h.block i hi ns)⟩
theorem Fr.mono {S T : Nat → Prop} {a b : World} (h : Fr S a b) (st : ∀ k, k < a.heap.size → S k → T k) : Fr T a b :=
  ⟨h.os, h.tape, h.output, h.size, fun k hk nt => h.block k hk fun s => nt (st k hk s)⟩
/-- A second step that may turn blocks of its own, made behind the first world, or blocks of S. -/
theorem Fr.step {S T : Nat → Prop} {a b c : World} (h : Fr S a b) (k : Fr T b c) (st : ∀ i, i < a.heap.size → T i → S i) : Fr S a c :=
  ⟨k.os.trans h.os, k.tape.trans h.tape, k.output.trans h.output, Nat.le_trans h.size k.size, fun i hi ns => (k.block i (Nat.lt_of_lt_of_le hi h.size) (fun t => ns (st i hi t))).trans (h.block i hi ns)⟩
theorem Fr.setCell {S : Nat → Prop} {a w : World} (h : Fr S a w) {p : Addr} (hp : S p.block ∨ a.heap.size ≤ p.block) (u : Value) : Fr S a (w.setCell p u) :=
  ⟨h.os, h.tape, h.output, by rw [World.size_setCell]; exact h.size, fun k hk ns => by
    rw [Below.heap_setCell _ _ _ _ (by rintro rfl; rcases hp with s | l; exact ns s; omega)]; exact h.block k hk ns⟩
theorem Fr.alloc {S : Nat → Prop} {a w : World} (h : Fr S a w) (o : Obj) : Fr S a (w.alloc o) :=
  ⟨h.os, h.tape, h.output, by rw [World.size_alloc]; have := h.size; omega, fun k hk ns => by
    rw [Below.heap_alloc _ _ _ (Nat.lt_of_lt_of_le hk h.size)]; exact h.block k hk ns⟩
theorem Fr.drew {S : Nat → Prop} {a w : World} (h : Fr S a w) : Fr S a w.drew := ⟨h.os, h.tape, h.output, h.size, h.block⟩
theorem Fr.drewN {S : Nat → Prop} {a w : World} (h : Fr S a w) (q : Nat) : Fr S a (w.drewN q) := ⟨h.os, h.tape, h.output, h.size, h.block⟩
theorem Fr.cell {S : Nat → Prop} {a w : World} (h : Fr S a w) {p : Addr} (hp : p.block < a.heap.size) (ns : ¬ S p.block) : w.cell? p = a.cell? p := by
  unfold World.cell?; rw [h.block _ hp ns]
theorem Fr.frozen {S : Nat → Prop} {a w : World} (h : Fr S a w) {p : Addr} (hp : p.block < a.heap.size) (ns : ¬ S p.block) : w.frozen? p = a.frozen? p := by
  unfold World.frozen?; rw [h.block _ hp ns]
theorem Fr.below {S : Nat → Prop} {a w : World} {B : Nat} (h : Fr S a w) (hB : B ≤ a.heap.size) (ns : ∀ k, k < B → ¬ S k) : Below B a w :=
  ⟨h.os, h.tape, h.output, h.size, fun k hk => h.block k (by omega) (ns k hk)⟩
theorem Fr.ofBelow {a w : World} (h : Below a.heap.size a w) (S : Nat → Prop) : Fr S a w := ⟨h.os, h.tape, h.output, h.size, fun k hk _ => h.block k hk⟩

section
variable {α : Type} [Inhabited α] {enc : α → Value}

theorem Holds.lt {w : World} {blk off : Nat} {d : Array α} (h : Holds enc w blk off d) (hd : 0 < d.size) : blk < w.heap.size := World.block_lt_of_cell? _ _ (h 0 hd).1

/-- A row in a block that stays is as it was. -/
theorem Fr.holds {S : Nat → Prop} {a w : World} (h : Fr S a w) {blk off : Nat} {d : Array α} (hd : Holds enc a blk off d) (ns : ¬ S blk) : Holds enc w blk off d := fun j hj => by
  have hb : blk < a.heap.size := World.block_lt_of_cell? _ _ (hd j hj).1
  exact ⟨(h.cell (p := ⟨blk, off + j, none⟩) hb ns).trans (hd j hj).1, (h.frozen (p := ⟨blk, off + j, none⟩) hb ns).trans (hd j hj).2⟩

/-- One store into the row. -/
theorem holds_set {w : World} {blk off : Nat} {d : Array α} (h : Holds enc w blk off d) {i : Nat} (hi : i < d.size) (x : α) : Holds enc (w.setCell ⟨blk, off + i, none⟩ (enc x)) blk off (d.setIfInBounds i x) := fun j hj => by
  rw [Array.size_setIfInBounds] at hj
  refine ⟨?_, by rw [World.frozen?_setCell]; exact (h j hj).2⟩
  by_cases e : j = i
  · subst e
    rw [World.cell?_setCell_same _ _ _ (h j hj).1, getElem!_set_same d j x hj]
  · rw [World.cell?_setCell_other _ _ _ _ (by intro q; injection q with _ q2; omega), getElem!_set_other d i j x e]
    exact (h j hj).1

/-- A store elsewhere. -/
theorem holds_set_other {w : World} {blk off : Nat} {d : Array α} (h : Holds enc w blk off d) {p : Addr} (hp : p.block ≠ blk) (v : Value) : Holds enc (w.setCell p v) blk off d := fun j hj => by
  refine ⟨?_, by rw [World.frozen?_setCell]; exact (h j hj).2⟩
  rw [World.cell?_setCell_other _ _ _ _ (by rintro rfl; exact hp rfl)]
  exact (h j hj).1

/-- The row that 'make' laid. -/
theorem holds_made (w : World) (n : Nat) (x : α) (e : TypeId) : Holds enc (w.alloc (.cells (Array.replicate n (enc x)) e)) w.heap.size 0 (Array.replicate n x) := fun j hj => by
  have hj' : j < n := by simpa using hj
  refine ⟨?_, World.frozen?_alloc_at _ _ _ _ rfl⟩
  rw [World.cell?_alloc_at _ _ _ _ rfl, Nat.zero_add, Array.getElem?_replicate, if_pos hj', getElem!_pos _ j hj, Array.getElem_replicate]

/-- The row of cells of an array. -/
theorem holds_row (w : World) (d : Array α) (e : TypeId) : Holds enc (w.alloc (.cells (d.map enc) e)) w.heap.size 0 d := fun j hj => by
  refine ⟨?_, World.frozen?_alloc_at _ _ _ _ rfl⟩
  rw [World.cell?_alloc_at _ _ _ _ rfl, Nat.zero_add, Array.getElem?_map, Array.getElem?_eq_getElem hj, getElem!_pos d j hj]
  rfl
end

/-! ### A row that is filled from the front: 'for t := 0; t < len(s); t++ { c[t] = s[t] }' -/
section
variable {α : Type} [Inhabited α] (enc : α → Value)
def cpTo (d : Array α) (z : α) : Nat → Array Value
  | 0 => Array.replicate d.size (enc z)
  | k + 1 => (cpTo d z k).setIfInBounds k (enc d[k]!)

theorem cpTo_size (d : Array α) (z : α) : ∀ k, (cpTo enc d z k).size = d.size
  | 0 => by simp [cpTo]
  | k + 1 => by simp [cpTo, cpTo_size d z k]

theorem cpTo_get (d : Array α) (z : α) : ∀ k j, j < d.size → (cpTo enc d z k)[j]? = some (if j < k then enc d[j]! else enc z)
  | 0, j, hj => by simp [cpTo, hj]
  | k + 1, j, hj => by
    have h := cpTo_get d z k j hj
    simp only [cpTo, Array.getElem?_setIfInBounds, cpTo_size]
    by_cases e : k = j
    · subst e; simp [hj]
    · rw [if_neg e, h]
      by_cases l : j < k
      · rw [if_pos l, if_pos (by omega)]
      · rw [if_neg l, if_neg (by omega)]

theorem cpTo_full (d : Array α) (z : α) : cpTo enc d z d.size = d.map enc := by
  apply Array.ext_getElem?
  intro j
  by_cases hj : j < d.size
  · rw [cpTo_get enc d z d.size j hj, if_pos hj, Array.getElem?_map, Array.getElem?_eq_getElem hj, getElem!_pos d j hj]
    rfl
  · rw [Array.getElem?_eq_none (by rw [cpTo_size]; omega), Array.getElem?_eq_none (by simp; omega)]
end

end Go.Proofs.Qxb6602679a.Row
