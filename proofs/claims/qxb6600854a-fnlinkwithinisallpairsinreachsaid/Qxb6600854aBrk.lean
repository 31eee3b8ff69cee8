import Derived.Test.Qxb6600854aLen
namespace Go.Proofs.Qxb6600854a.Sr
open Go.ChangeShapes Go.WideShapes Go.ChangeAt Go.RowKit Go.Sort

theorem xor_range (a b : Int) (h1 : 0 ≤ a) (h2 : a < 18446744073709551616) (h3 : 0 ≤ b) (h4 : b < 18446744073709551616) : ∃ y : Nat, bits .xor .u64 a b = (y : Int) ∧ y < 18446744073709551616 := by
  refine ⟨a.toNat ^^^ b.toNat, u64_xor a b h1 h2 h3 h4, ?_⟩
  have := Nat.xor_lt_two_pow (x := a.toNat) (y := b.toNat) (n := 64) (by omega) (by omega)
  omega

theorem wrap_range (n : Int) : 0 ≤ IntKind.u64.wrap n ∧ IntKind.u64.wrap n < 18446744073709551616 := by
  have e : IntKind.u64.wrap n = n % 18446744073709551616 := by simp [IntKind.wrap, IntKind.bits, IntKind.signed]
  rw [e]; omega

/-- The random word in its block. -/
structure XW (w wr : World) (bx x : Nat) : Prop where
  lt : x < 18446744073709551616
  cell : wr.cell? ⟨bx, 0, none⟩ = some (.int .u64 x)
  open_ : wr.frozen? ⟨bx, 0, none⟩ = false
  fr : Row.Fr (· = bx) w wr
theorem XW.put {w wr : World} {bx x : Nat} (h : XW w wr bx x) {v : Int} (y : Nat) (hv : v = (y : Int)) (hy : y < 18446744073709551616) : XW w (wr.setCell ⟨bx, 0, none⟩ (.int .u64 v)).drew bx y :=
  ⟨hy, by subst hv; exact World.cell?_setCell_same _ _ _ h.cell, (World.frozen?_setCell ..).trans h.open_, (h.fr.setCell (.inl rfl) _).drew⟩

set_option maxHeartbeats 1000000 in
theorem next44 (bx x : Nat) (w : World) (hx : x < 18446744073709551616) (hc : w.cell? ⟨bx, 0, none⟩ = some (.int .u64 x)) (hf : w.frozen? ⟨bx, 0, none⟩ = false) :
    Calls Try.prog 44 #[.pointer (some ⟨bx, 0, none⟩)] w fun e w' => ∃ y : Nat, e = .returned (.int .u64 y) ∧ XW w w' bx y := by
  have F0 : Hid (XW w w bx x) := ⟨hx, hc, hf, Row.Fr.refl _ _⟩
  go_enter Try.func44, Try.ntmps44
  go_wp2_with fail
  go_region
  obtain ⟨y, ey, hy⟩ := xor_range (x : Int) (IntKind.u64.wrap (x * 8192)) (by omega) (by omega) (wrap_range _).1 (wrap_range _).2
  rw [ey]
  have F1 := F0.out.put y rfl hy
  generalize (w.setCell ⟨bx, 0, none⟩ (.int .u64 (y : Int))).drew = w1 at F1
  have c1 := F1.cell
  have f1 := F1.open_
  clear ey hc hf F0
  go_wp2_with fail
  go_region
  obtain ⟨y2, ey2, hy2⟩ := xor_range (y : Int) ((y : Int) / 128) (by omega) (by omega) (by omega) (by omega)
  rw [ey2]
  have F2 := F1.put y2 rfl hy2
  generalize (w1.setCell ⟨bx, 0, none⟩ (.int .u64 (y2 : Int))).drew = w2 at F2
  have c2 := F2.cell
  have f2 := F2.open_
  clear ey2 c1 f1 F1
  go_wp2_with fail
  go_region
  obtain ⟨y3, ey3, hy3⟩ := xor_range (y2 : Int) (IntKind.u64.wrap (y2 * 131072)) (by omega) (by omega) (wrap_range _).1 (wrap_range _).2
  rw [ey3]
  have F3 := F2.put y3 rfl hy3
  generalize (w2.setCell ⟨bx, 0, none⟩ (.int .u64 (y3 : Int))).drew = w3 at F3
  have c3 := F3.cell
  clear ey3 c2 f2 F2
  go_wp2_with fail
  go_ret
  exact ⟨y3, rfl, F3⟩

/-- The row and the random word beside it. -/
structure BW (w wr : World) (blk off n : Nat) (d : Array Int) (bx x : Nat) : Prop where
  sw : SW w wr blk off n d
  lt : x < 18446744073709551616
  cell : wr.cell? ⟨bx, 0, none⟩ = some (.int .u64 x)
  open_ : wr.frozen? ⟨bx, 0, none⟩ = false
theorem BW.next {w wr w' : World} {blk off n : Nat} {d : Array Int} {bx x y : Nat} (h : BW w wr blk off n d bx x) (hne : bx ≠ blk) (hb : w.heap.size ≤ bx) (k : XW wr w' bx y) : BW w w' blk off n d bx y :=
  ⟨⟨k.fr.holds h.sw.row (by omega), h.sw.size, h.sw.fr.step k.fr (fun i h1 h2 => by omega)⟩, k.lt, k.cell, k.open_⟩
theorem BW.swap {w wr : World} {blk off n : Nat} {d : Array Int} {bx x : Nat} (h : BW w wr blk off n d bx x) (hne : bx ≠ blk) {i j : Nat} (hi : i < n) (hj : j < n) {u v : Int} (hx : d[j]! = u) (hy : d[i]! = v) :
    BW w ((wr.setCell ⟨blk, off + i, none⟩ (.int .u64 u)).setCell ⟨blk, off + j, none⟩ (.int .u64 v)).drew blk off n (swp d i j) bx x := by
  refine ⟨(h.sw.swap hi hj hx hy).drew, h.lt, ?_, ?_⟩
  · show World.cell? (World.setCell _ _ _) _ = _
    rw [World.cell?_setCell_other _ _ _ _ (by intro q; injection q with q1 _; omega), World.cell?_setCell_other _ _ _ _ (by intro q; injection q with q1 _; omega)]
    exact h.cell
  · show World.frozen? (World.setCell _ _ _) _ = _
    rw [World.frozen?_setCell, World.frozen?_setCell]
    exact h.open_

theorem and_le (a b : Nat) (h1 : a < 18446744073709551616) (h2 : b < 18446744073709551616) : ∃ y : Nat, bits .and .u64 (a : Int) (b : Int) = (y : Int) ∧ y ≤ b :=
  ⟨a &&& b, u64_and_nat a b h1 h2, Nat.and_le_right⟩

set_option maxHeartbeats 4000000 in
set_option maxRecDepth 100000 in
theorem break34 (blk off n c a b : Nat) (d : Array Int) (w : World) (hn : n < 65536) (hab : a < b) (hb : b ≤ n) (hH : Holds (Value.int .u64) w blk off d) (hs : d.size = n) :
    Calls Try.prog 34 #[.slice (some ⟨blk, off, none⟩) n c, .int .i64 a, .int .i64 b] w fun e w' => e = .returned (.tuple #[]) ∧ ∃ d' : Array Int, PermIn a b d d' ∧ SW w w' blk off n d' := by
  have W0 : Hid (SW w w blk off n d) := SW.start hH hs
  have hblk : blk < w.heap.size := World.block_lt_of_cell? _ _ (W0.out.cell (i := a) (by omega))
  clear hH
  obtain ⟨L, hL⟩ : ∃ L, a + L = b := ⟨b - a, by omega⟩
  have iL : (b : Int) - (a : Int) = (L : Int) := by omega
  go_enter Try.func34, Try.ntmps34
  by_cases h8 : 8 ≤ L
  · obtain ⟨q, hq⟩ : ∃ q, L / 4 = q := ⟨_, rfl⟩
    have iq : (L : Int) / 4 = (q : Int) := by omega
    obtain ⟨m2, hm2⟩ : ∃ m2, q * 2 = m2 := ⟨_, rfl⟩
    have im2 : (q : Int) * 2 = (m2 : Int) := by omega
    obtain ⟨s, hs'⟩ : ∃ s, a + m2 = s := ⟨_, rfl⟩
    have is : (a : Int) + (m2 : Int) = (s : Int) := by omega
    obtain ⟨s1, hs1⟩ : ∃ s1, s1 + 1 = s := ⟨s - 1, by omega⟩
    have is1 : (s : Int) - 1 = (s1 : Int) := by omega
    obtain ⟨s2, hs2⟩ : ∃ s2, s + 1 = s2 := ⟨s + 1, rfl⟩
    have is2 : (s : Int) + 1 = (s2 : Int) := by omega
    have B0 : Hid (BW w (w.alloc (.cells #[.int .u64 (L : Int)] 71)) blk off n d w.heap.size L) := by
      have fr : Row.Fr (· = blk) w (w.alloc (.cells #[.int .u64 (L : Int)] 71)) := (Row.Fr.refl _ _).alloc _
      have fr2 : Row.Fr (fun _ => False) w (w.alloc (.cells #[.int .u64 (L : Int)] 71)) := (Row.Fr.refl _ _).alloc _
      refine ⟨⟨fr2.holds W0.out.row (fun h => h), hs, fr⟩, by omega, ?_, World.frozen?_alloc_at _ _ _ _ rfl⟩
      rw [World.cell?_alloc_at _ _ _ _ rfl]
      rfl
    go_wp2_with fail
    generalize w.alloc (.cells #[.int .u64 (L : Int)] 71) = w1 at *
    obtain ⟨bx, hbx⟩ : ∃ bx, w.heap.size = bx := ⟨_, rfl⟩
    have HBX : Hid (w.heap.size ≤ bx) := by show w.heap.size ≤ bx; omega
    rw [hbx] at B0 hblk
    rw [hbx]
    clear hbx W0
    refine (npt43 L w1 (by omega) (by omega)).mono ?_
    rintro e w' ⟨mo, rfl, mo1, mo2, rfl⟩
    obtain ⟨mm, hmm⟩ : ∃ mm, mm + 1 = mo := ⟨mo - 1, by omega⟩
    have imm : (mo : Int) - 1 = (mm : Int) := by omega
    go_wp2_with fail
    go_loopg [9] n (fun g vi wr => ∃ (i : Nat) (dk : Array Int) (x : Nat), vi = .int .i64 i ∧ s1 ≤ i ∧ i ≤ s2 + 1 ∧ n - i ≤ g ∧ Hid (PermIn a b d dk) ∧ Hid (BW w wr blk off n dk bx x))
    case atStart => exact ⟨s1, d, L, rfl, by omega, by omega, by omega, permIn_refl _ _ _, B0⟩
    case round =>
      clear B0
      obtain ⟨i, dk, x, rfl, i1, i2, hg, hp, hB⟩ := hrel
      by_cases his : i ≤ s2
      · go_wp2_with fail
        go_at_call 44
        refine (next44 bx x _ hB.out.lt hB.out.cell hB.out.open_).mono ?_
        rintro e w' ⟨y, rfl, hX⟩
        have B1 : Hid (BW w w' blk off n dk bx y) := hB.out.next (by omega) HBX.out hX
        clear hB hX
        obtain ⟨o, eo, ho⟩ := and_le y mm B1.out.lt (by omega)
        have io : bits .and .u64 (y : Int) (mm : Int) = (o : Int) := eo
        clear eo
        obtain ⟨o2, ho2⟩ : ∃ o2, o2 = (if L ≤ o then o - L else o) := ⟨_, rfl⟩
        have HO : Hid (o2 = if L ≤ o then o - L else o) := ho2
        have o2L : o2 < L := by rw [ho2]; split <;> omega
        clear ho2
        go_upto_if 43 with fail
        go_cut [10] (fun v w'' => v = .int .i64 o2 ∧ w'' = w')
        case first =>
          by_cases hLo : L ≤ o
          · go_wp2_with fail
            go_meet
            case rel => exact ⟨by rw [HO.out, if_pos hLo]; go_num, rfl⟩
          · go_wp2_with fail
            go_meet
            case rel => exact ⟨by rw [HO.out, if_neg hLo], rfl⟩
        case rest =>
          obtain ⟨rfl, rfl⟩ := hcut
          obtain ⟨P, hP⟩ : ∃ P, a + o2 = P := ⟨_, rfl⟩
          have iP : (a : Int) + (o2 : Int) = (P : Int) := by omega
          have bI : i < n := by omega
          have bJ : P < n := by omega
          have PQ : Hid (PermIn a b d (swp dk i P)) := perm_swp hp.out i P (by omega) (by omega) (by omega) (by omega) (by omega)
          have c1 := B1.out.sw.cell bI
          have c2 := B1.out.sw.cell bJ
          have f1 := B1.out.sw.open_ bI
          have f2 := B1.out.sw.open_ bJ
          generalize hx : dk[i]! = x' at c1
          generalize hy : dk[P]! = y' at c2
          obtain ⟨v', hy'⟩ := cell?_setCell_some (w := wc) (p := ⟨blk, off + i, none⟩) (x := .int .u64 y') (q := ⟨blk, off + P, none⟩) c2
          have B2 : Hid (BW w ((wc.setCell ⟨blk, off + i, none⟩ (.int .u64 y')).setCell ⟨blk, off + P, none⟩ (.int .u64 x')).drew blk off n (swp dk i P) bx y) := B1.out.swap (by omega) bI bJ hy hx
          clear hx hy B1 hP io
          generalize swp dk i P = d2 at *
          go_wp2_with fail
          go_region
          all_goals
            go_wp2_with fail
            go_roundg (n - (i + 1))
            case measure => omega
            case rel => exact ⟨i + 1, d2, y, by go_num, by omega, by omega, by omega, PQ, B2⟩
      · go_wp2_with fail
        go_end0
        exact ⟨rfl, dk, hp.out, hB.out.sw⟩
  · go_wp2_with fail
    go_end0
    exact ⟨rfl, d, permIn_refl _ _ _, W0.out⟩
end Go.Proofs.Qxb6600854a.Sr
