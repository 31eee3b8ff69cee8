import Derived.WalkKit
import Derived.ProofKit
import Derived.Below
import Derived.OwnWalk
import Derived.Deep.Draws
import Derived.Laws.MakeOwn
/-! Rows of cells that a call makes: 'make([]T, n)' as an equation on the world; a row that is filled from the front. No program in this text. -/
namespace Go.Proofs.Qxb6600854a.Row
open Go Go.RowKit

theorem madeCells_one (z : Value) (n : Nat) : madeCells #[z] n = Array.replicate n z := by
  apply Array.ext
  · simp [madeCells]
  · intro i h1 h2
    simp [madeCells, Nat.mod_one]

/-- 'make([]T, n)', T of one cell, n a variable: the world is the old one with one block more. -/
theorem wpList_make_row {P : Program} (w : World) {ops : Array Oper} {rest : List Oper} {o : Oper} {a : Act} {Q : Exit → Act → World → Prop}
    (hg : o.guard = none) (l c : Operand) (t : TypeId) (hop : o.op = Op.makeSlice t l c)
    (e : TypeId) (z : Value) (bytes : Nat) (ht : P.underlying t = some (.slice e)) (hinfo : (P.info? e).map (fun i => (i.zero, i.size, i.bytes)) = some (some z, 1, bytes)) (hz1 : z.cells = #[z])
    (kl kc : IntKind) (L C : Int) (n : Nat) (hl : a.eval l = .int kl L) (hc : a.eval c = .int kc C) (hL : L = (n : Int)) (hC : C = (n : Int)) (b2 : bytes * n ≤ 281474976710656) (b3 : n ≤ 9223372036854775807)
    (hK : wpList P ops Q rest (a.put o.dst (.slice (some ⟨w.heap.size, 0, none⟩) n n)) (w.alloc (.cells (Array.replicate n z) e))) :
    wpList P ops Q (o :: rest) a w := by
  refine wpList_plain hg fun K hK' => ?_
  obtain ⟨i, hi, hz, hs, hb⟩ := info_parts hinfo
  have hb' : (i.bytes : Int) * (n : Int) ≤ 281474976710656 := by
    have h : ((i.bytes * n : Nat) : Int) ≤ 281474976710656 := by rw [hb]; omega
    rwa [Int.natCast_mul] at h
  have hr := run_make (P := P) w t e i z ht hi hz kl kc n n (by omega) (by omega) hb' (by omega)
  simp only [Int.toNat_natCast, hs, Nat.mul_one, hz1, madeCells_one] at hr
  subst hL
  subst hC
  unfold Oper.wp
  simp [execOp, hop, hl, hc, hr, Result.andThen]
  exact hK' _ _ hK

/-- The row of n cells whose first k have been filled by f. -/
def cpTo (f : Nat → Value) (n : Nat) (z : Value) : Nat → Array Value
  | 0 => Array.replicate n z
  | k + 1 => (cpTo f n z k).setIfInBounds k (f k)

theorem cpTo_size (f : Nat → Value) (n : Nat) (z : Value) : ∀ k, (cpTo f n z k).size = n
  | 0 => by simp [cpTo]
  | k + 1 => by simp [cpTo, cpTo_size f n z k]

theorem cpTo_get (f : Nat → Value) (n : Nat) (z : Value) : ∀ k j, j < n → (cpTo f n z k)[j]? = some (if j < k then f j else z)
  | 0, j, hj => by simp [cpTo, hj]
  | k + 1, j, hj => by
    have h := cpTo_get f n z k j hj
    simp only [cpTo, Array.getElem?_setIfInBounds, cpTo_size]
    by_cases e : k = j
    · subst e; simp [hj]
    · rw [if_neg e, h]
      by_cases l : j < k
      · rw [if_pos l, if_pos (by omega)]
      · rw [if_neg l, if_neg (by omega)]

theorem cpTo_full (f : Nat → Value) (n : Nat) (z : Value) (j : Nat) (hj : j < n) : (cpTo f n z n)[j]? = some (f j) := by
  rw [cpTo_get f n z n j hj, if_pos hj]

theorem cell_row (w : World) (cs : Array Value) (e : TypeId) (j : Nat) : (w.alloc (.cells cs e)).cell? ⟨w.heap.size, 0 + j, none⟩ = cs[j]? := by
  rw [World.cell?_alloc_at _ _ _ _ rfl, Nat.zero_add]

theorem below_drewN {B : Nat} {a w : World} (h : Below B a w) : ∀ q, Below B a (w.drewN q) := fun _ => ⟨h.os, h.tape, h.output, h.size, h.block⟩

end Go.Proofs.Qxb6600854a.Row
