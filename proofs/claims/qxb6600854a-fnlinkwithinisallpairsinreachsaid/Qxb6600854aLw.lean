import Derived.Test.Qxb6600854aIns
import Derived.Test.Qxb6600854aCellRun
import Derived.Test.Qxb6600854aReach
import Derived.Test.Qxb6600854aPairs
import Derived.Deep.AppendLies
import Derived.Laws.FloatArith
/-! The world of 'linkWithin' between its statements. -/
namespace Go.Proofs.Qxb6600854a.Lw
open Go.ChangeShapes Go.WideShapes Go.ChangeAt Go.RowKit Go.Sort

def enc (L : List (Nat × Nat)) : List Value := L.flatMap fun p => [.int .i64 (p.1 : Int), .int .i64 (p.2 : Int)]
theorem enc_append (a b : List (Nat × Nat)) : enc (a ++ b) = enc a ++ enc b := by simp [enc]
theorem enc_one (x y : Nat) : enc [(x, y)] = [.int .i64 (x : Int), .int .i64 (y : Int)] := rfl
theorem enc_length (L : List (Nat × Nat)) : (enc L).length = L.length * 2 := by
  induction L with
  | nil => rfl
  | cons a t ih => simp [enc] at ih ⊢; omega

/-- The key of the point q. -/
def key (cx cy : Nat → Nat) (q : Nat) : Int := ((cy q : Int) * 2097152 + (cx q : Int)) * 1048576 + (q : Int)

/-- Between two cells of the outer loop. -/
structure S0 (w1 wr : World) (base : Nat) (v : Value) (L : List (Nat × Nat)) : Prop where
  bel : Below base w1 wr
  own : wr.ownsRow base 41 2 v L.length (enc L)
  sz : base ≤ wr.heap.size

/-- Within a cell: 'runs' lies in the block rb. -/
structure S1 (w1 wr : World) (base rb : Nat) (G : Array Int) (v : Value) (L : List (Nat × Nat)) : Prop extends S0 w1 wr base v L where
  lo : base ≤ rb
  ne : v.ownBlock ≠ some rb
  runs : Holds (Value.int .i64) wr rb 0 G
  gs : G.size = 10

variable {w1 wr : World} {base rb : Nat} {G : Array Int} {v : Value} {L : List (Nat × Nat)}

theorem S0.alloc (h : S0 w1 wr base v L) (o : Obj) : S0 w1 (wr.alloc o) base v L :=
  ⟨h.bel.alloc h.sz o, h.own.alloc o, by rw [World.size_alloc]; have := h.sz; omega⟩
theorem S0.drewN (h : S0 w1 wr base v L) (q : Nat) : S0 w1 (wr.drewN q) base v L :=
  ⟨Row.below_drewN h.bel q, h.own, h.sz⟩
theorem S1.lt (h : S1 w1 wr base rb G v L) : rb < wr.heap.size := World.block_lt_of_cell? _ _ (h.runs 0 (by rw [h.gs]; omega)).1
theorem S1.drewN (h : S1 w1 wr base rb G v L) (q : Nat) : S1 w1 (wr.drewN q) base rb G v L :=
  ⟨h.toS0.drewN q, h.lo, h.ne, h.runs, h.gs⟩
theorem S1.drew (h : S1 w1 wr base rb G v L) : S1 w1 wr.drew base rb G v L := h.drewN 1
theorem S1.alloc (h : S1 w1 wr base rb G v L) (o : Obj) : S1 w1 (wr.alloc o) base rb G v L :=
  ⟨h.toS0.alloc o, h.lo, h.ne, fun j hj => by
    have := h.runs j hj
    have hl := h.lt
    exact ⟨(World.cell?_of_block (w := wr) (Below.heap_alloc _ _ _ hl)).trans this.1, (World.frozen?_of_block (w := wr) (Below.heap_alloc _ _ _ hl)).trans this.2⟩, h.gs⟩
theorem own_setCell {e size n : Nat} {xs : List Value} (h : wr.ownsRow base e size v n xs) {p : Addr} (hp : v.ownBlock ≠ some p.block) (u : Value) : (wr.setCell p u).ownsRow base e size v n xs := by
  refine ⟨h.1, ?_⟩
  rcases h.2 with hn | ⟨g, cap, cur, rfl, hb, hgg, rest⟩
  · exact .inl hn
  · refine .inr ⟨g, cap, cur, rfl, hb, ?_, rest⟩
    rw [Below.heap_setCell _ _ _ _ (by rintro rfl; exact hp rfl)]
    exact hgg
theorem S1.cell (h : S1 w1 wr base rb G v L) {t : Nat} (ht : t < 10) : wr.cell? ⟨rb, t, none⟩ = some (.int .i64 G[t]!) := by
  have := (h.runs t (by rw [h.gs]; exact ht)).1
  rwa [Nat.zero_add] at this
theorem S1.open_ (h : S1 w1 wr base rb G v L) {t : Nat} (ht : t < 10) : wr.frozen? ⟨rb, t, none⟩ = false := by
  have := (h.runs t (by rw [h.gs]; exact ht)).2
  rwa [Nat.zero_add] at this
theorem S1.set (h : S1 w1 wr base rb G v L) {t : Nat} (ht : t < 10) (x : Int) : S1 w1 (wr.setCell ⟨rb, t, none⟩ (.int .i64 x)) base rb (G.setIfInBounds t x) v L :=
  ⟨⟨h.bel.setCell (p := ⟨rb, t, none⟩) h.lo _, own_setCell h.own (p := ⟨rb, t, none⟩) h.ne _, by rw [World.size_setCell]; exact h.sz⟩, h.lo, h.ne, by
    have := Row.holds_set h.runs (i := t) (by rw [h.gs]; exact ht) x
    rwa [Nat.zero_add] at this, by rw [Array.size_setIfInBounds]; exact h.gs⟩
/-- One link more. -/
theorem S1.link (h : S1 w1 wr base rb G v L) {a b g cap : Nat} {w' : World} (own : w'.ownsRow base 41 2 (.slice (some ⟨g, 0, none⟩) (L.length + 1) cap) (L.length + 1) (enc L ++ [.int .i64 (a : Int), .int .i64 (b : Int)]))
    (hg : wr.grownBy w' v.ownBlock) (hat : v.ownBlock = some g ∨ wr.heap.size ≤ g) : S1 w1 w' base rb G (.slice (some ⟨g, 0, none⟩) (L.length + 1) cap) (L ++ [(a, b)]) := by
  have hn : g ≠ rb := by
    rintro rfl
    rcases hat with e | e
    · exact h.ne e
    · have := h.lt; omega
  refine ⟨⟨h.bel.grown hg h.sz (fun k hk => (h.own.lt k hk).1), ?_, Nat.le_trans h.sz hg.size⟩, h.lo, by simpa [Value.ownBlock] using hn, fun j hj => ?_, h.gs⟩
  · rw [enc_append, enc_one, List.length_append]
    exact own
  · have := h.runs j hj
    have ne : some rb ≠ v.ownBlock := fun e => h.ne e.symm
    exact ⟨(hg.cell_far ⟨rb, 0 + j, none⟩ h.lt ne).trans this.1, (hg.frozen_far ⟨rb, 0 + j, none⟩ h.lt ne).trans this.2⟩
theorem S0.cell (h : S0 w1 wr base v L) {p : Addr} {x : Value} (hc : w1.cell? p = some x) (hp : p.block < base) : wr.cell? p = some x := (h.bel.cell hp).trans hc
theorem S0.open_ (h : S0 w1 wr base v L) {p : Addr} {x : Bool} (hc : w1.frozen? p = x) (hp : p.block < base) : wr.frozen? p = x := (h.bel.frozen hp).trans hc
/-- The array 'runs' is made. -/
theorem S0.made (h : S0 w1 wr base v L) (hG : G.size = 10) : S1 w1 (wr.alloc (.cells (G.map (Value.int .i64)) 54)) base wr.heap.size G v L :=
  ⟨h.alloc _, h.sz, fun e => by have := (h.own.lt _ e).2; omega, Row.holds_row wr G 54, hG⟩

/-- The places of the run j of the cell of place s. -/
def Str (n : Nat) (sg cx cy : Nat → Nat) (s j : Nat) (F T : Int) : Prop := ∃ f t : Nat, F = (f : Int) ∧ T = (t : Int) ∧ f ≤ t ∧ t ≤ n ∧ ∀ p, p < n → (Pl.pr sg cx cy j s p = true ↔ f ≤ p ∧ p < t)

def dX : Nat → Int
  | 0 => 1
  | 1 => -1
  | 2 => 0
  | _ => 1
def dY : Nat → Int
  | 0 => 0
  | _ => 1
end Go.Proofs.Qxb6600854a.Lw
