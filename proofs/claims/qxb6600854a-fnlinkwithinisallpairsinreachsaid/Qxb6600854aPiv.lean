import Derived.Test.Qxb6600854aIns
namespace Go.Proofs.Qxb6600854a.Sr
set_option linter.unusedVariables false
open Go.ChangeShapes Go.WideShapes Go.ChangeAt Go.RowKit Go.Sort

/-- The row stands; the count of swaps lies in its own block. -/
structure CW (w wr : World) (blk off n : Nat) (d : Array Int) (bs s : Nat) : Prop where
  row : Holds (Value.int .u64) wr blk off d
  size : d.size = n
  cell : wr.cell? ⟨bs, 0, none⟩ = some (.int .i64 s)
  open_ : wr.frozen? ⟨bs, 0, none⟩ = false
  fr : Row.Fr (· = bs) w wr
theorem CW.at_ {w wr : World} {blk off n : Nat} {d : Array Int} {bs s : Nat} (h : CW w wr blk off n d bs s) {i : Nat} (hi : i < n) : wr.cell? ⟨blk, off + i, none⟩ = some (.int .u64 d[i]!) := (h.row i (by rw [h.size]; exact hi)).1
theorem CW.drewN {w wr : World} {blk off n : Nat} {d : Array Int} {bs s : Nat} (h : CW w wr blk off n d bs s) (q : Nat) : CW w (wr.drewN q) blk off n d bs s := ⟨h.row, h.size, h.cell, h.open_, h.fr.drewN q⟩
theorem CW.trans {w w1 wr : World} {blk off n : Nat} {d : Array Int} {bs s t : Nat} (h : CW w w1 blk off n d bs s) (k : CW w1 wr blk off n d bs t) : CW w wr blk off n d bs t := ⟨k.row, k.size, k.cell, k.open_, h.fr.trans k.fr⟩
theorem CW.put {w wr : World} {blk off n : Nat} {d : Array Int} {bs s : Nat} (h : CW w wr blk off n d bs s) (hne : bs ≠ blk) (v : Int) (t : Nat) (hv : v = (t : Int)) : CW w (wr.setCell ⟨bs, 0, none⟩ (.int .i64 v)) blk off n d bs t := by
  subst hv
  exact ⟨Row.holds_set_other (enc := Value.int .u64) h.row hne _, h.size, World.cell?_setCell_same _ _ _ h.cell, (World.frozen?_setCell ..).trans h.open_, h.fr.setCell (.inl rfl) _⟩
theorem CW.again {w wr : World} {blk off n : Nat} {d : Array Int} {bs s : Nat} (h : CW w wr blk off n d bs s) : CW wr wr blk off n d bs s := ⟨h.row, h.size, h.cell, h.open_, Row.Fr.refl _ _⟩

set_option maxHeartbeats 1000000 in
theorem order47 (blk off n c a b bs s : Nat) (d : Array Int) (w : World) (hn : n ≤ 131072) (ha : a < n) (hb : b < n) (hne : bs ≠ blk) (hs : s ≤ 1000) (hW : CW w w blk off n d bs s) :
    Calls Try.prog 47 #[.slice (some ⟨blk, off, none⟩) n c, .int .i64 a, .int .i64 b, .pointer (some ⟨bs, 0, none⟩)] w fun e w' => ∃ x y : Nat, e = .returned (.tuple #[.int .i64 x, .int .i64 y]) ∧ ((x = a ∧ y = b) ∨ (x = b ∧ y = a)) ∧ ∃ t : Nat, t ≤ s + 1 ∧ CW w w' blk off n d bs t := by
  have HW : Hid (CW w w blk off n d bs s) := hW
  have c1 := hW.at_ ha
  have c2 := hW.at_ hb
  generalize d[a]! = x at c1
  generalize d[b]! = y at c2
  clear hW
  go_enter Try.func47, Try.ntmps47
  by_cases hxy : y < x
  · have t : decide (y < x) = true := by simp [hxy]
    go_wp2_with fail
    go_quiet ((go_at_call 27; exact Calls.quiet_of_same (Cell.less27 _ _ _)))
    generalize hq : w.drewN nq = wq
    have W3 : Hid (CW w wq blk off n d bs s) := by rw [← hq]; exact HW.out.drewN nq
    clear c1 c2 hq t
    have c3 := W3.out.cell
    have f3 := W3.out.open_
    go_wp2_with fail
    go_ret2
    exact ⟨b, a, rfl, .inr ⟨rfl, rfl⟩, s + 1, Nat.le_refl _, W3.out.put hne _ _ (by omega)⟩
  · have t : decide (y < x) = false := by simpa using hxy
    go_wp2_with fail
    go_quiet ((go_at_call 27; exact Calls.quiet_of_same (Cell.less27 _ _ _)))
    go_wp2_with fail
    go_ret2
    exact ⟨a, b, rfl, .inl ⟨rfl, rfl⟩, s, by omega, HW.out.drewN nq⟩

set_option maxHeartbeats 1000000 in
theorem median46 (blk off n c a b g bs s : Nat) (d : Array Int) (w : World) (hn : n ≤ 131072) (ha : a < n) (hb : b < n) (hg : g < n) (hne : bs ≠ blk) (hs : s ≤ 900) (hW : CW w w blk off n d bs s) :
    Calls Try.prog 46 #[.slice (some ⟨blk, off, none⟩) n c, .int .i64 a, .int .i64 b, .int .i64 g, .pointer (some ⟨bs, 0, none⟩)] w fun e w' => ∃ m : Nat, e = .returned (.int .i64 m) ∧ (m = a ∨ m = b ∨ m = g) ∧ ∃ t : Nat, t ≤ s + 3 ∧ CW w w' blk off n d bs t := by
  have HW : Hid (CW w w blk off n d bs s) := hW
  clear hW
  go_enter Try.func46, Try.ntmps46
  go_wp2_with fail
  go_at_call 47
  refine (order47 blk off n c a b bs s d w hn ha hb hne (by omega) HW.out).mono ?_
  rintro e w1 ⟨x1, y1, rfl, h1, t1, ht1, hW1⟩
  have W1 : Hid (CW w w1 blk off n d bs t1) := hW1
  clear hW1 HW
  have x1n : x1 < n := by omega
  have y1n : y1 < n := by omega
  go_wp2_with fail
  go_at_call 47
  refine (order47 blk off n c y1 g bs t1 d w1 hn y1n hg hne (by omega) W1.out.again).mono ?_
  rintro e w2 ⟨x2, y2, rfl, h2, t2, ht2, hW2⟩
  have W2 : Hid (CW w w2 blk off n d bs t2) := W1.out.trans hW2
  clear hW2 W1
  have x2n : x2 < n := by omega
  go_wp2_with fail
  go_at_call 47
  refine (order47 blk off n c x1 x2 bs t2 d w2 hn x1n x2n hne (by omega) W2.out.again).mono ?_
  rintro e w3 ⟨x3, y3, rfl, h3, t3, ht3, hW3⟩
  have W3 : Hid (CW w w3 blk off n d bs t3) := W2.out.trans hW3
  clear hW3 W2
  go_wp2_with fail
  go_ret
  exact ⟨y3, rfl, by omega, t3, by omega, W3.out⟩

set_option maxHeartbeats 1000000 in
theorem adj45 (blk off n c a bs s : Nat) (d : Array Int) (w : World) (hn : n ≤ 131072) (ha : 0 < a) (ha1 : a + 1 < n) (hne : bs ≠ blk) (hs : s ≤ 900) (hW : CW w w blk off n d bs s) :
    Calls Try.prog 45 #[.slice (some ⟨blk, off, none⟩) n c, .int .i64 a, .pointer (some ⟨bs, 0, none⟩)] w fun e w' => ∃ m : Nat, e = .returned (.int .i64 m) ∧ a ≤ m + 1 ∧ m ≤ a + 1 ∧ ∃ t : Nat, t ≤ s + 3 ∧ CW w w' blk off n d bs t := by
  obtain ⟨p, hp⟩ : ∃ p, p + 1 = a := ⟨a - 1, by omega⟩
  have ip : (a : Int) - 1 = (p : Int) := by omega
  obtain ⟨q, hq⟩ : ∃ q, a + 1 = q := ⟨_, rfl⟩
  have iq : (a : Int) + 1 = (q : Int) := by omega
  have HW : Hid (CW w w blk off n d bs s) := hW
  clear hW
  go_enter Try.func45, Try.ntmps45
  go_wp2_with fail
  go_at_call 46
  refine (median46 blk off n c p a q bs s d w hn (by omega) (by omega) (by omega) hne hs HW.out).mono ?_
  rintro e w1 ⟨m, rfl, h1, t1, ht1, hW1⟩
  have W1 : Hid (CW w w1 blk off n d bs t1) := hW1
  clear hW1 HW
  go_wp2_with fail
  go_ret
  exact ⟨m, rfl, by omega, by omega, t1, ht1, W1.out⟩

set_option maxHeartbeats 4000000 in
set_option maxRecDepth 100000 in
theorem pivot35 (blk off n c a b : Nat) (d : Array Int) (w : World) (hn : n ≤ 131072) (hab : a < b) (hb : b ≤ n) (hH : Holds (Value.int .u64) w blk off d) (hs : d.size = n) :
    Calls Try.prog 35 #[.slice (some ⟨blk, off, none⟩) n c, .int .i64 a, .int .i64 b] w fun e w' => ∃ (m h : Nat), e = .returned (.tuple #[.int .i64 m, .int .i64 h]) ∧ a ≤ m ∧ m < b ∧ h ≤ 2 ∧ SW w w' blk off n d := by
  have W0 : Hid (SW w w blk off n d) := SW.start hH hs
  have hblk : blk < w.heap.size := World.block_lt_of_cell? _ _ (W0.out.cell (i := a) (by omega))
  clear hH
  obtain ⟨L, hL⟩ : ∃ L, a + L = b := ⟨b - a, by omega⟩
  have iL : (b : Int) - (a : Int) = (L : Int) := by omega
  obtain ⟨q, hq⟩ : ∃ q, L / 4 = q := ⟨_, rfl⟩
  have iq : (L : Int) / 4 = (q : Int) := by omega
  obtain ⟨q2, hq2⟩ : ∃ q2, q * 2 = q2 := ⟨_, rfl⟩
  have iq2 : (q : Int) * 2 = (q2 : Int) := by omega
  obtain ⟨q3, hq3⟩ : ∃ q3, q * 3 = q3 := ⟨_, rfl⟩
  have iq3 : (q : Int) * 3 = (q3 : Int) := by omega
  obtain ⟨i, hi⟩ : ∃ i, a + q = i := ⟨_, rfl⟩
  have ii : (a : Int) + (q : Int) = (i : Int) := by omega
  obtain ⟨j, hj⟩ : ∃ j, a + q2 = j := ⟨_, rfl⟩
  have ij : (a : Int) + (q2 : Int) = (j : Int) := by omega
  obtain ⟨k, hk⟩ : ∃ k, a + q3 = k := ⟨_, rfl⟩
  have ik : (a : Int) + (q3 : Int) = (k : Int) := by omega
  have B0 : Hid (CW (w.alloc (.cells #[.int .i64 0] 3)) (w.alloc (.cells #[.int .i64 0] 3)) blk off n d w.heap.size 0) := by
    have fr2 : Row.Fr (fun _ => False) w (w.alloc (.cells #[.int .i64 0] 3)) := (Row.Fr.refl _ _).alloc _
    refine ⟨fr2.holds W0.out.row (fun h => h), hs, ?_, World.frozen?_alloc_at _ _ _ _ rfl, Row.Fr.refl _ _⟩
    rw [World.cell?_alloc_at _ _ _ _ rfl]
    rfl
  have F0 : Hid (Row.Fr (· = blk) w (w.alloc (.cells #[.int .i64 0] 3))) := (Row.Fr.refl _ _).alloc _
  go_enter Try.func35, Try.ntmps35
  go_upto_if 32 with fail
  generalize w.alloc (.cells #[.int .i64 0] 3) = w1 at *
  obtain ⟨bx, hbx⟩ : ∃ bx, w.heap.size = bx := ⟨_, rfl⟩
  have HBX : Hid (w.heap.size ≤ bx) := by show w.heap.size ≤ bx; omega
  rw [hbx] at B0 hblk
  rw [hbx]
  clear hbx W0
  go_cut [11] (fun v w' => ∃ m : Nat, v = .int .i64 m ∧ a ≤ m ∧ m < b ∧ ∃ s : Nat, s ≤ 100 ∧ Hid (CW w1 w' blk off n d bx s))
  case first =>
    by_cases h8 : 8 ≤ L
    · by_cases h50 : 50 ≤ L
      · go_wp2_with fail
        go_at_call 45
        refine (adj45 blk off n c i bx 0 d w1 hn (by omega) (by omega) (by omega) (by omega) B0.out).mono ?_
        rintro e w2 ⟨i', rfl, p1, p2, t1, ht1, hW1⟩
        have W1 : Hid (CW w1 w2 blk off n d bx t1) := hW1
        clear hW1 B0
        go_wp2_with fail
        go_at_call 45
        refine (adj45 blk off n c j bx t1 d w2 hn (by omega) (by omega) (by omega) (by omega) W1.out.again).mono ?_
        rintro e w3 ⟨j', rfl, p3, p4, t2, ht2, hW2⟩
        have W2 : Hid (CW w1 w3 blk off n d bx t2) := W1.out.trans hW2
        clear hW2 W1
        go_wp2_with fail
        go_at_call 45
        refine (adj45 blk off n c k bx t2 d w3 hn (by omega) (by omega) (by omega) (by omega) W2.out.again).mono ?_
        rintro e w4 ⟨k', rfl, p5, p6, t3, ht3, hW3⟩
        have W3 : Hid (CW w1 w4 blk off n d bx t3) := W2.out.trans hW3
        clear hW3 W2
        go_wp2_with fail
        go_at_call 46
        refine (median46 blk off n c i' j' k' bx t3 d w4 hn (by omega) (by omega) (by omega) (by omega) (by omega) W3.out.again).mono ?_
        rintro e w5 ⟨m, rfl, p7, t4, ht4, hW4⟩
        have W4 : Hid (CW w1 w5 blk off n d bx t4) := W3.out.trans hW4
        clear hW4 W3
        go_wp2_with fail
        go_meet
        case rel => exact ⟨m, rfl, by omega, by omega, t4, by omega, W4⟩
      · go_wp2_with fail
        go_at_call 46
        refine (median46 blk off n c i j k bx 0 d w1 hn (by omega) (by omega) (by omega) (by omega) (by omega) B0.out).mono ?_
        rintro e w5 ⟨m, rfl, p7, t4, ht4, hW4⟩
        have W4 : Hid (CW w1 w5 blk off n d bx t4) := hW4
        clear hW4 B0
        go_wp2_with fail
        go_meet
        case rel => exact ⟨m, rfl, by omega, by omega, t4, by omega, W4⟩
    · go_wp2_with fail
      go_meet
      case rel => exact ⟨j, rfl, by omega, by omega, 0, by omega, B0⟩
  case rest =>
    obtain ⟨m, rfl, m1, m2, s, s100, hW⟩ := hcut
    have cs := hW.out.cell
    have SWF : Hid (SW w wc blk off n d) := ⟨hW.out.row, hs, F0.out.step hW.out.fr (fun i h1 h2 => by have := HBX.out; omega)⟩
    clear B0 F0 hW
    by_cases s0 : s = 0
    · subst s0
      go_wp2_with fail
      go_ret2
      exact ⟨m, 1, rfl, m1, m2, by omega, SWF.out⟩
    · have t0 : ((s : Int) == 0) = false := by rw [beq_eq_false_iff_ne]; omega
      by_cases s12 : s = 12
      · subst s12
        go_wp2_with fail
        go_ret2
        exact ⟨m, 2, rfl, m1, m2, by omega, SWF.out⟩
      · have t1 : ((s : Int) == 12) = false := by rw [beq_eq_false_iff_ne]; omega
        go_wp2_with fail
        go_ret2
        exact ⟨m, 0, rfl, m1, m2, by omega, SWF.out⟩
end Go.Proofs.Qxb6600854a.Sr
