import Derived.Test.Qxb6600854aLaw0
/-! The law. -/
namespace Go.Proofs.Qxb6600854a.Lk
open Go.ChangeShapes Go.WideShapes Go.ChangeAt Go.RowKit Go.Sort Go.Proofs.Qxb6600854a.Lw Go.Proofs.Qxb6600854a.Sr

set_option maxHeartbeats 8000000 in
set_option maxRecDepth 100000 in
theorem law7_main (bx ox ca bY oY cb n sd rc : Nat) (X Y : Nat → Nat) (w : World) (n0 : 0 < n) (n1 : n ≤ 1024) (hX : ∀ j, j < n → w.cell? ⟨bx, ox + j, none⟩ = some (.float .f64 (X j))) (hY : ∀ j, j < n → w.cell? ⟨bY, oY + j, none⟩ = some (.float .f64 (Y j)))
    (k1 : Fl.ge64 sd 3110860544497550640 = true) (k2 : Fl.le64 sd 6103021453049119613 = true) (k3 : Fl.ge64 rc 0 = true) (k4 : Fl.le64 rc 6103021453049119613 = true) : Calls Try.prog 7 #[.slice (some ⟨bx, ox, none⟩) n ca, .slice (some ⟨bY, oY, none⟩) n cb, .float .f64 sd, .float .f64 rc] w (Good w) := by
  have H := bytes14_ok (some ⟨bx, ox, none⟩) (some ⟨bY, oY, none⟩) n ca n cb sd rc w (by omega)
  have HK : Hid (Fl.ge64 sd 3110860544497550640 = true ∧ Fl.le64 sd 6103021453049119613 = true ∧ Fl.ge64 rc 0 = true ∧ Fl.le64 rc 6103021453049119613 = true) := ⟨k1, k2, k3, k4⟩
  have HX : Hid (∀ j, j < n → w.cell? ⟨bx, ox + j, none⟩ = some (.float .f64 (X j))) := hX
  have HY : Hid (∀ j, j < n → w.cell? ⟨bY, oY + j, none⟩ = some (.float .f64 (Y j))) := hY
  have hby : bY < w.heap.size := World.block_lt_of_cell? _ _ (hY 0 n0)
  have g1 : (FloatKind.f64.format.order sd 3110860544497550640 == some .gt || FloatKind.f64.format.order sd 3110860544497550640 == some .eq) = true := k1
  have g2 : (FloatKind.f64.format.order sd 6103021453049119613 == some .lt || FloatKind.f64.format.order sd 6103021453049119613 == some .eq) = true := k2
  have g3 : (FloatKind.f64.format.order rc 0 == some .gt || FloatKind.f64.format.order rc 0 == some .eq) = true := k3
  have g4 : (FloatKind.f64.format.order rc 6103021453049119613 == some .lt || FloatKind.f64.format.order rc 6103021453049119613 == some .eq) = true := k4
  have t : ((n : Int) != (n : Int)) = false := by simp
  clear hX hY k1 k2 k3 k4
  go_enter Try.func7, Try.ntmps7
  go_wp2_with fail
  refine H.mono ?_
  rintro e w0 ⟨rfl, rfl⟩
  clear H
  go_wp2_with fail
  refine (copy15 bx ox n ca X _ n0 (by omega) HX.out).mono ?_
  rintro e w1 ⟨rfl, h1, c1⟩
  have B1 : Hid (Below w0.heap.size w0 w1) := h1
  have CX : Hid (∀ j, j < n → w1.cell? ⟨w0.heap.size, 0 + j, none⟩ = some (.float .f64 (X j))) := c1
  clear h1 c1
  go_wp2_with fail
  refine (copy15 bY oY n cb Y _ n0 (by omega) (fun j hj => (B1.out.cell hby).trans (HY.out j hj))).mono ?_
  rintro e w2 ⟨rfl, h2, c2⟩
  have hw1 : w0.heap.size < w1.heap.size := World.block_lt_of_cell? _ _ (CX.out 0 n0)
  have CX2 : Hid (∀ j, j < n → w2.cell? ⟨w0.heap.size, 0 + j, none⟩ = some (.float .f64 (X j))) := fun j hj => (h2.cell hw1).trans (CX.out j hj)
  have CY2 : Hid (∀ j, j < n → w2.cell? ⟨w1.heap.size, 0 + j, none⟩ = some (.float .f64 (Y j))) := c2
  have B2 : Hid (Below w0.heap.size w0 w2) := B1.out.trans (h2.mono B1.out.size)
  clear h2 c2 CX B1 HX HY
  generalize hbA : w0.heap.size = bA at *
  generalize w1.heap.size = bB at *
  have HbA : Hid (w0.heap.size = bA) := hbA
  go_wp2_with fail
  refine (square16 bA 0 n bB 0 n n sd X Y _ n1 CX2.out CY2.out).mono ?_
  rintro e w3 (⟨rfl, rfl, hin⟩ | ⟨rfl, rfl⟩)
  · obtain ⟨c1, c2, cw, nw, cx, cy, P⟩ := pln_of HK.out.1 HK.out.2.1 HK.out.2.2.1 HK.out.2.2.2 hin
    have HP : Hid (Pln n X Y sd rc c1 c2 cw nw cx cy) := P
    have r4 := run_mul _ _ _ P.m3
    clear P hin
    go_wp2_with fail
    refine (zz17 bA 0 bB 0 n n n X Y sd rc c1 c2 cw nw cx cy (farOf X Y nw) _ (HP.out.inp n0 n1 CX2.out CY2.out)).mono ?_
    rintro e w5 ⟨v, rfl, sg, hSg, hS0⟩
    obtain ⟨pa, pb, pc⟩ := Pl.law (HP.out.ord hSg)
    have PL : Hid ((∀ x, x ∈ Pl.total n sg cx cy (farOf X Y nw) n → x.1 < x.2 ∧ x.2 < n) ∧ (Pl.total n sg cx cy (farOf X Y nw) n).Pairwise (· ≠ ·) ∧ (∀ a b, a < b → b < n → ((a, b) ∈ Pl.total n sg cx cy (farOf X Y nw) n ↔ farOf X Y nw a b = false))) := ⟨pa, pb, pc⟩
    have HL : Hid (S0 w3 w5 w3.heap.size v (Pl.total n sg cx cy (farOf X Y nw) n)) := hS0
    have LB : (Pl.total n sg cx cy (farOf X Y nw) n).length ≤ 5242880 := by
      have h1 := Pl.total_length (n := n) (sg := sg) (cx := cx) (cy := cy) (far := farOf X Y nw) n
      have h4 : n * (5 * n) ≤ 1024 * (5 * 1024) := Nat.mul_le_mul (by omega) (by omega)
      omega
    clear pa pb pc hSg hS0
    generalize Pl.total n sg cx cy (farOf X Y nw) n = L at *
    have hlen := len_own HL.out
    have CX5 : Hid (∀ j, j < n → w5.cell? ⟨bA, 0 + j, none⟩ = some (.float .f64 (X j))) := fun j hj => (HL.out.bel.cell (World.block_lt_of_cell? _ _ (CX2.out j hj))).trans (CX2.out j hj)
    have CY5 : Hid (∀ j, j < n → w5.cell? ⟨bB, 0 + j, none⟩ = some (.float .f64 (Y j))) := fun j hj => (HL.out.bel.cell (World.block_lt_of_cell? _ _ (CY2.out j hj))).trans (CY2.out j hj)
    have lA : bA < w5.heap.size := World.block_lt_of_cell? _ _ (CX5.out 0 n0)
    have lB : bB < w5.heap.size := World.block_lt_of_cell? _ _ (CY5.out 0 n0)
    have B5 : Hid (Below bA w0 w5) := B2.out.trans (HL.out.bel.mono (by rw [← HbA.out]; exact B2.out.size))
    obtain ⟨N2, hN2⟩ : ∃ N2, n * n = N2 := ⟨_, rfl⟩
    have iN : (n : Int) * (n : Int) = (N2 : Int) := by rw [← hN2]; simp
    have bN : N2 ≤ 1048576 := by
      have : n * n ≤ 1024 * 1024 := Nat.mul_le_mul n1 n1
      omega
    go_wp2_with (at_make; refine Row.wpList_make_row _ rfl _ _ 39 rfl 4 (.bool false) 1 Try.underlying39 Try.info4 rfl _ _ _ _ N2 rfl rfl rfl rfl (by omega) (by omega) ?_)
    have S0n : Hid (Sn w5 (w5.alloc (.cells (Array.replicate N2 (.bool false)) 4)) n L (Array.replicate N2 false) 0) := by
      have := Sn.start w5 n L
      rw [hN2] at this
      exact this
    generalize (w5.alloc (.cells (Array.replicate N2 (.bool false)) 4)) = w6 at *
    generalize Array.replicate N2 false = sv0 at *
    clear CX2 CY2 B2 HK
    go_loopg [13] L.length (fun g v13 wr => ∃ (k : Nat) (sv : Array Bool), v13 = .int .i64 k ∧ k ≤ L.length ∧ L.length - k ≤ g ∧ Hid (Sn w5 wr n L sv k))
    case atStart => exact ⟨0, sv0, rfl, by omega, by omega, S0n⟩
    case round =>
      clear S0n
      obtain ⟨k, sv, rfl, kl, hg, hS⟩ := hrel
      by_cases hk : k < L.length
      · obtain ⟨⟨a, b⟩, hx⟩ : ∃ x, L[k]? = some x := ⟨_, List.getElem?_eq_getElem hk⟩
        obtain ⟨g, cap, rfl, hgl, c1, c2⟩ := link_cells HL.out hx
        have ab := PL.out.1 (a, b) (List.mem_of_getElem? hx)
        have hab : a < b := ab.1
        have hbn : b < n := ab.2
        have c3 : wr.cell? ⟨g, k * 2, none⟩ = some (.int .i64 (a : Int)) := (hS.out.bel.cell hgl).trans c1
        have c4 : wr.cell? ⟨g, k * 2 + 1, none⟩ = some (.int .i64 (b : Int)) := (hS.out.bel.cell hgl).trans c2
        obtain ⟨an, han⟩ : ∃ an, a * n = an := ⟨_, rfl⟩
        have ian : (a : Int) * (n : Int) = (an : Int) := by rw [← han]; simp
        obtain ⟨ix, hix⟩ : ∃ ix, an + b = ix := ⟨_, rfl⟩
        have iix : (an : Int) + (b : Int) = (ix : Int) := by omega
        have hid : idx n (a, b) = ix := by rw [← hix, ← han]; rfl
        have lix : ix < n * n := by rw [← hid]; exact idx_lt (x := (a, b)) (Nat.lt_trans hab hbn) hbn
        obtain ⟨c5, c6⟩ := hS.out.cell lix
        have fr := hS.out.fresh PL.out.1 PL.out.2.1 hx
        rw [hid] at fr
        rw [fr] at c5
        have NX : Hid (Sn w5 (wr.setCell ⟨w5.heap.size, ix, none⟩ (.bool true)) n L (sv.setIfInBounds ix true) (k + 1)) := by
          have := hS.out.step hx (by rw [hid]; exact lix)
          rwa [hid] at this
        rw [hN2] at lix
        clear c1 c2 ab hx hid fr han hlen hS
        have j1 : (ix : Int) < (N2 : Int) := by omega
        have j2 : (0 : Int) ≤ (ix : Int) := by omega
        have j3 : an ≤ 1048576 := by omega
        go_wp2_with fail
        go_roundg (L.length - (k + 1))
        case measure => omega
        case rel => exact ⟨k + 1, sv.setIfInBounds ix true, by go_num, by omega, by omega, NX⟩
      · obtain rfl : k = L.length := by omega
        have HF : Hid (∀ a b, a < b → b < n → sv[a * n + b]! = !farOf X Y nw a b) := fun a b hab hb => hS.out.last PL.out.1 PL.out.2.2 hab hb
        clear PL
        go_wp2_with fail
        clear hlen
        go_loopg [17] n (fun g v17 wx => ∃ i : Nat, v17 = .int .i64 i ∧ i ≤ n ∧ n - i ≤ g ∧ Hid (Sn w5 wx n L sv L.length))
        case atStart => exact ⟨0, rfl, by omega, by omega, hS⟩
        case round =>
          clear hS
          obtain ⟨i, rfl, iln, hg2, hS⟩ := hrel
          by_cases hi : i < n
          · go_wp2_with fail
            generalize decide ((i : Int) < (n : Int)) = bi
            have HI : Hid (i < n) := hi
            clear hi
            go_loopg [18] n (fun g v18 wx => ∃ j : Nat, v18 = .int .i64 j ∧ i + 1 ≤ j ∧ j ≤ n ∧ n - j ≤ g ∧ Hid (Sn w5 wx n L sv L.length))
            case atStart =>
              have hi := HI.out
              exact ⟨i + 1, by go_num, by omega, by omega, by omega, hS⟩
            case round =>
              clear hS
              obtain ⟨j, rfl, ij, jn, hg3, hS⟩ := hrel
              by_cases hj : j < n
              · have hi := HI.out
                have lA' : ∀ p : Addr, p.block < w5.heap.size → _ := fun p hp => hS.out.bel.cell hp
                have x1 : wr.cell? ⟨bA, i, none⟩ = some (.float .f64 (X i)) := by
                  have := (hS.out.bel.cell (p := ⟨bA, 0 + i, none⟩) lA).trans (CX5.out i hi)
                  rwa [Nat.zero_add] at this
                have x2 : wr.cell? ⟨bA, j, none⟩ = some (.float .f64 (X j)) := by
                  have := (hS.out.bel.cell (p := ⟨bA, 0 + j, none⟩) lA).trans (CX5.out j hj)
                  rwa [Nat.zero_add] at this
                have x3 : wr.cell? ⟨bB, i, none⟩ = some (.float .f64 (Y i)) := by
                  have := (hS.out.bel.cell (p := ⟨bB, 0 + i, none⟩) lB).trans (CY5.out i hi)
                  rwa [Nat.zero_add] at this
                have x4 : wr.cell? ⟨bB, j, none⟩ = some (.float .f64 (Y j)) := by
                  have := (hS.out.bel.cell (p := ⟨bB, 0 + j, none⟩) lB).trans (CY5.out j hj)
                  rwa [Nat.zero_add] at this
                clear lA'
                obtain ⟨an, han⟩ : ∃ an, i * n = an := ⟨_, rfl⟩
                have ian : (i : Int) * (n : Int) = (an : Int) := by rw [← han]; simp
                obtain ⟨ix, hix⟩ : ∃ ix, an + j = ix := ⟨_, rfl⟩
                have iix : (an : Int) + (j : Int) = (ix : Int) := by omega
                have lix : ix < n * n := by rw [← hix, ← han]; exact idx_lt (x := (i, j)) hi hj
                obtain ⟨c5, _⟩ := hS.out.cell lix
                have fr := HF.out i j (by omega) hj
                rw [han, hix] at fr
                rw [fr] at c5
                rw [hN2] at lix
                obtain ⟨dx, dy, pp, qq, tt, o1, o2, o3, o4, o5, _, o7⟩ := HP.out.dist i j hi hj
                have hcall := fun W => within18 (X i) (Y i) (X j) (Y j) nw dx dy pp qq tt (farOf X Y nw i j) W o1 o2 o3 o4 o5 o7
                clear o1 o2 o3 o4 o5 o7 fr han
                generalize X i = xi at *
                generalize X j = xj at *
                generalize Y i = yi at *
                generalize Y j = yj at *
                generalize (!farOf X Y nw i j) = fb at *
                have j1 : (ix : Int) < (N2 : Int) := by omega
                have j2 : (0 : Int) ≤ (ix : Int) := by omega
                have j3 : an ≤ 1048576 := by omega
                have i1 : (i : Int) < (n : Int) := by omega
                have i2 : (j : Int) < (n : Int) := by omega
                have HCALL : Hid (∀ W, Calls Try.prog 18 #[.float .f64 xi, .float .f64 yi, .float .f64 xj, .float .f64 yj, .float .f64 nw] W fun e w' => e = .returned (.bool fb) ∧ w' = W) := hcall
                clear hcall hi
                go_wp2_with fail
                go_quiet ((go_at_call 18; exact Calls.quiet_of_same (HCALL.out _)))
                go_wp2_with fail
                go_roundg (n - (j + 1))
                case measure => omega
                case rel => exact ⟨j + 1, by go_num, by omega, by omega, by omega, hS.out.drewN nq⟩
              · have hi := HI.out
                go_wp2_with fail
                go_roundg (n - (i + 1))
                case measure => omega
                case rel => exact ⟨i + 1, by go_num, by omega, by omega, hS⟩
          · go_wp2_with fail
            go_ret
            refine ⟨rfl, ?_⟩
            rw [HbA.out]
            exact B5.out.trans (hS.out.bel.mono (Nat.le_of_lt lA))
  · go_wp2_with fail
    go_ret
    refine ⟨rfl, ?_⟩
    rw [HbA.out]
    exact B2.out
end Go.Proofs.Qxb6600854a.Lk
