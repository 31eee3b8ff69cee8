import Derived.Test.Qxb6600854aRow
import Derived.Sort.Row
/-! Rows of cells: what a store turns, what stays. No program in this text. -/
namespace Go.Proofs.Qxb6600854a.Row
open Go Go.RowKit Go.Sort

/-- A float is stored as one cell (the walk's set has this law for the other kinds). -/
theorem run_store_float {P : Program} (w : World) (a : Addr) (k : FloatKind) (b : Nat) (m : Mode) : (store a (.float k b) m).run P w = stored P w a (.float k b) m := run_store P w a _ m rfl

/-! ### What stays: every block that was there and is not in S -/
structure Fr (S : Nat → Prop) (w w' : World) : Prop where
  os : w'.os = w.os
  tape : w'.tape = w.tape
  output : w'.output = w.output
  size : w.heap.size ≤ w'.heap.size
  block : ∀ k, k < w.heap.size → ¬ S k → w'.heap[k]? = w.heap[k]?

theorem Fr.refl (S : Nat → Prop) (w : World) : Fr S w w := ⟨rfl, rfl, rfl, Nat.le_refl _, fun _ _ _ => rfl⟩
theorem Fr.trans {S : Nat → Prop} {a b c : World} (h : Fr S a b) (k : Fr S b c) : Fr S a c :=
  ⟨k.os.trans h.os, k.tape.trans h.tape, k.output.trans h.output, Nat.le_trans h.size k.size, fun i hi ns => (k.block i (Nat.lt_of_lt_of_le hi h.size) ns).trans (h.block i hi ns)⟩
theorem Fr.mono {S T : Nat → Prop} {a b : World} (h : Fr S a b) (st : ∀ k, k < a.heap.size → S k → T k) : Fr T a b :=
  ⟨h.os, h.tape, h.output, h.size, fun k hk nt => h.block k hk fun s => nt (st k hk s)⟩
/-- A second step that may turn blocks of its own, made behind the first world, or blocks of S. -/
theorem Fr.step {S T : Nat → Prop} {a b c : World} (h : Fr S a b) (k : Fr T b c) (st : ∀ i, i < a.heap.size → T i → S i) : Fr S a c :=
  ⟨k.os.trans h.os, k.tape.trans h.tape, k.output.trans h.output, Nat.le_trans h.size k.size, fun i hi ns => (k.block i (Nat.lt_of_lt_of_le hi h.size) (fun t => ns (st i hi t))).trans (h.block i hi ns)⟩
theorem Fr.setCell {S : Nat → Prop} {a w : World} (h : Fr S a w) {p : Addr} (hp : S p.block ∨ a.heap.size ≤ p.block) (u : Value) : Fr S a (w.setCell p u) :=
  ⟨h.os, h.tape, h.output, by rw [World.size_setCell]; exact h.size, fun k hk ns => by
    rw [Below.heap_setCell _ _ _ _ (by rintro rfl; rcases hp with s | l; exact ns s; omega)]; exact h.block k hk ns⟩
theorem Fr.alloc {S : Nat → Prop} {a w : World} (h : Fr S a w) (o : Obj) : Fr S a (w.alloc o) :=
  ⟨h.os, h.tape, h.output, by rw [World.size_alloc]; have := h.size; omega, fun k hk ns => by
    rw [Below.heap_alloc _ _ _ (Nat.lt_of_lt_of_le hk h.size)]; exact h.block k hk ns⟩
theorem Fr.drew {S : Nat → Prop} {a w : World} (h : Fr S a w) : Fr S a w.drew := ⟨h.os, h.tape, h.output, h.size, h.block⟩
theorem Fr.drewN {S : Nat → Prop} {a w : World} (h : Fr S a w) (q : Nat) : Fr S a (w.drewN q) := ⟨h.os, h.tape, h.output, h.size, h.block⟩
theorem Fr.cell {S : Nat → Prop} {a w : World} (h : Fr S a w) {p : Addr} (hp : p.block < a.heap.size) (ns : ¬ S p.block) : w.cell? p = a.cell? p := by
  unfold World.cell?; rw [h.block _ hp ns]
theorem Fr.frozen {S : Nat → Prop} {a w : World} (h : Fr S a w) {p : Addr} (hp : p.block < a.heap.size) (ns : ¬ S p.block) : w.frozen? p = a.frozen? p := by
  unfold World.frozen?; rw [h.block _ hp ns]
theorem Fr.below {S : Nat → Prop} {a w : World} {B : Nat} (h : Fr S a w) (hB : B ≤ a.heap.size) (ns : ∀ k, k < B → ¬ S k) : Below B a w :=
  ⟨h.os, h.tape, h.output, h.size, fun k hk => h.block k (by omega) (ns k hk)⟩
theorem Fr.ofBelow {a w : World} (h : Below a.heap.size a w) (S : Nat → Prop) : Fr S a w := ⟨h.os, h.tape, h.output, h.size, fun k hk _ => h.block k hk⟩

section
variable {α : Type} [Inhabited α] {enc : α → Value}

theorem Holds.lt {w : World} {blk off : Nat} {d : Array α} (h : Holds enc w blk off d) (hd : 0 < d.size) : blk < w.heap.size := World.block_lt_of_cell? _ _ (h 0 hd).1

/-- A row in a block that stays is as it was. -/
theorem Fr.holds {S : Nat → Prop} {a w : World} (h : Fr S a w) {blk off : Nat} {d : Array α} (hd : Holds enc a blk off d) (ns : ¬ S blk) : Holds enc w blk off d := fun j hj => by
  have hb : blk < a.heap.size := World.block_lt_of_cell? _ _ (hd j hj).1
  exact ⟨(h.cell (p := ⟨blk, off + j, none⟩) hb ns).trans (hd j hj).1, (h.frozen (p := ⟨blk, off + j, none⟩) hb ns).trans (hd j hj).2⟩

/-- One store into the row. -/
theorem holds_set {w : World} {blk off : Nat} {d : Array α} (h : Holds enc w blk off d) {i : Nat} (hi : i < d.size) (x : α) : Holds enc (w.setCell ⟨blk, off + i, none⟩ (enc x)) blk off (d.setIfInBounds i x) := fun j hj => by
  rw [Array.size_setIfInBounds] at hj
  refine ⟨?_, by rw [World.frozen?_setCell]; exact (h j hj).2⟩
  by_cases e : j = i
  · subst e
    rw [World.cell?_setCell_same _ _ _ (h j hj).1, getElem!_set_same d j x hj]
  · rw [World.cell?_setCell_other _ _ _ _ (by intro q; injection q with _ q2; omega), getElem!_set_other d i j x e]
    exact (h j hj).1

/-- A store elsewhere. -/
theorem holds_set_other {w : World} {blk off : Nat} {d : Array α} (h : Holds enc w blk off d) {p : Addr} (hp : p.block ≠ blk) (v : Value) : Holds enc (w.setCell p v) blk off d := fun j hj => by
  refine ⟨?_, by rw [World.frozen?_setCell]; exact (h j hj).2⟩
  rw [World.cell?_setCell_other _ _ _ _ (by rintro rfl; exact hp rfl)]
  exact (h j hj).1

/-- The row that 'make' laid. -/
theorem holds_made (w : World) (n : Nat) (x : α) (e : TypeId) : Holds enc (w.alloc (.cells (Array.replicate n (enc x)) e)) w.heap.size 0 (Array.replicate n x) := fun j hj => by
  have hj' : j < n := by simpa using hj
  refine ⟨?_, World.frozen?_alloc_at _ _ _ _ rfl⟩
  rw [World.cell?_alloc_at _ _ _ _ rfl, Nat.zero_add, Array.getElem?_replicate, if_pos hj', getElem!_pos _ j hj, Array.getElem_replicate]

/-- The row of cells of an array. -/
theorem holds_row (w : World) (d : Array α) (e : TypeId) : Holds enc (w.alloc (.cells (d.map enc) e)) w.heap.size 0 d := fun j hj => by
  refine ⟨?_, World.frozen?_alloc_at _ _ _ _ rfl⟩
  rw [World.cell?_alloc_at _ _ _ _ rfl, Nat.zero_add, Array.getElem?_map, Array.getElem?_eq_getElem hj, getElem!_pos d j hj]
  rfl
end


end Go.Proofs.Qxb6600854a.Row
