import Derived.Test.Qxb6600854aLk1
namespace Go.Proofs.Qxb6600854a.Lk
open Go.ChangeShapes Go.WideShapes Go.ChangeAt Go.RowKit Go.Sort Go.Proofs.Qxb6600854a.Lw Go.Proofs.Qxb6600854a.Sr

set_option maxHeartbeats 8000000 in
set_option maxRecDepth 100000 in
theorem link22 (bx ox bY oY n ca cb : Nat) (X Y : Nat → Nat) (sd rc c1 c2 cw nw : Nat) (cx cy : Nat → Nat) (far : Nat → Nat → Bool) (w : World) (I : Inp w bx ox bY oY n X Y sd rc c1 c2 cw nw cx cy far) :
    Calls Try.prog 22 #[.slice (some ⟨bx, ox, none⟩) n ca, .slice (some ⟨bY, oY, none⟩) n cb, .float .f64 sd, .float .f64 rc] w fun e w' => ∃ v, e = .returned (.tuple #[v, .bool true]) ∧ ∃ sg, Sg n sg cx cy ∧ S0 w w' w.heap.size v (Pl.total n sg cx cy far n) := by
  have HI : Hid (Inp w bx ox bY oY n X Y sd rc c1 c2 cw nw cx cy far) := I
  have n0 := I.n0
  have n1 := I.n1
  have hbx : bx < w.heap.size := World.block_lt_of_cell? _ _ (I.xs 0 n0)
  have hby : bY < w.heap.size := World.block_lt_of_cell? _ _ (I.ys 0 n0)
  have r1 := run_mul _ _ _ I.m1
  have r2 := run_quo _ _ _ I.m2
  have r3 := run_max _ _ _ I.pick
  have r4 := run_mul _ _ _ I.m3
  clear I
  go_enter Try.func22, Try.ntmps22
  go_wp2_with (at_make; refine Row.wpList_make_row _ rfl _ _ 22 rfl 25 (.int .u64 0) 8 Try.underlying22 Try.info25 rfl _ _ _ _ n rfl rfl rfl rfl (by omega) (by omega) ?_)
  go_loopg [41] n (fun g v41 wr => ∃ (k : Nat) (d : Array Int), v41 = .int .i64 k ∧ k ≤ n ∧ n - k ≤ g ∧ Hid (K1 w wr n cx cy d k))
  case atStart => exact ⟨0, Array.replicate n 0, rfl, by omega, by omega, K1.start w n cx cy⟩
  case round =>
    obtain ⟨k, d, rfl, kn, hg, hK⟩ := hrel
    by_cases hlt : k < n
    · have i0 : (0 : Int) ≤ (k : Int) := by omega
      have i1 : (k : Int) < (n : Int) := by omega
      have cX : wr.cell? ⟨bx, ox + k, none⟩ = some (.float .f64 (X k)) := (hK.out.bel.cell hbx).trans (HI.out.xs k hlt)
      have cY : wr.cell? ⟨bY, oY + k, none⟩ = some (.float .f64 (Y k)) := (hK.out.bel.cell hby).trans (HI.out.ys k hlt)
      have cK : wr.cell? ⟨w.heap.size, k, none⟩ = some (.int .u64 d[k]!) := by
        have := (hK.out.row k (by rw [hK.out.size]; exact hlt)).1
        rwa [Nat.zero_add] at this
      have fK : wr.frozen? ⟨w.heap.size, k, none⟩ = false := by
        have := (hK.out.row k (by rw [hK.out.size]; exact hlt)).2
        rwa [Nat.zero_add] at this
      obtain ⟨qx, q1, q2⟩ := HI.out.dx k hlt
      obtain ⟨qy, q3, q4⟩ := HI.out.dy k hlt
      have lx := HI.out.lx k hlt
      have ly := HI.out.ly k hlt
      have e1 := run_quo _ _ _ q1
      have e2 := run_conv _ _ lx q2
      have e3 := run_quo _ _ _ q3
      have e4 := run_conv _ _ ly q4
      have e5 : bits .or .u64 (((cy k : Int) * 2097152 + (cx k : Int)) * 1048576) k = key cx cy k := by
        have := or_pt (cy k * 2097152 + cx k) k (by omega) (by omega)
        unfold key
        rw [show ((cy k * 2097152 + cx k : Nat) : Int) = (cy k : Int) * 2097152 + (cx k : Int) by omega] at this
        exact this
      have NX : Hid (K1 w (wr.setCell ⟨w.heap.size, k, none⟩ (.int .u64 (key cx cy k))) n cx cy (d.setIfInBounds k (key cx cy k)) (k + 1)) := hK.out.step hlt
      generalize key cx cy k = ky at e5 NX
      generalize X k = xk at *
      generalize Y k = yk at *
      generalize cx k = cxk at *
      generalize cy k = cyk at *
      generalize d[k]! = dk at *
      clear q1 q2 q3 q4
      have u1 : IntKind.u64.wrap (((cyk : Int) * 2097152 + (cxk : Int)) * 1048576) = ((cyk : Int) * 2097152 + (cxk : Int)) * 1048576 := IntWalk.u64_in _ ⟨by omega, by omega⟩
      have u2 : IntKind.u64.wrap (k : Int) = (k : Int) := IntWalk.u64_in _ ⟨by omega, by omega⟩
      have z1 : w.heap.size ≠ bx := by omega
      have z2 : w.heap.size ≠ bY := by omega
      go_wp2_with fail
      go_region_held3 (fun w' => w'.cell? ⟨bx, ox + k, none⟩ = some (.float .f64 xk) ∧ w'.cell? ⟨bY, oY + k, none⟩ = some (.float .f64 yk)) (go_keep) (first | (go_at_call 23; refine (Cell.key23 _ _ _ (by omega) (by omega) (by omega) (by omega)).mono ?_; rintro e w' ⟨rfl, rfl⟩))
      go_wp2_with fail
      go_roundg (n - (k + 1))
      case measure => omega
      case rel => exact ⟨k + 1, d.setIfInBounds k ky, by go_num, by omega, by omega, NX.out.drewN 1⟩
    · obtain rfl : n = k := by omega
      go_wp2_with fail
      refine (sort26 _ _ _ _ d _ (by omega) hK.out.row hK.out.size).mono ?_
      rintro e w2 ⟨rfl, d2, hP, hA, hS⟩
      obtain ⟨sg, hB, hSg, hBW⟩ : ∃ sg, Hid (Bin w2 w.heap.size bx ox bY oY n X Y nw cx cy sg far) ∧ Hid (Sg n sg cx cy) ∧ Hid (Below w.heap.size w w2) := bin_of HI.out hK.out hP hA hS
      obtain ⟨B, hBB⟩ : ∃ B, w.heap.size = B := ⟨_, rfl⟩
      have HBB : Hid (w.heap.size = B) := hBB
      rw [hBB] at hB hBW hbx hby
      clear hP hA hS hK HI kn hg hlt d2 d r1 r2 r3
      rw [hBB]
      clear hBB
      go_wp2_with fail
      go_loopg [8, 14] n (fun g v8 v14 wr => ∃ s : Nat, v14 = .int .i64 s ∧ s ≤ n ∧ n - s ≤ g ∧ Hid (S0 w2 wr (B + 1) v8 (Pl.total n sg cx cy far s)))
      case atStart => exact ⟨0, rfl, by omega, by omega, ⟨Below.refl _ _, World.ownsRow_nil _ _ _ _, hB.out.sz⟩⟩
      case round =>
        obtain ⟨s, rfl, sn, hg, hS⟩ := hrel
        by_cases hlt : s < n
        · have cs : wr.cell? ⟨B, s, none⟩ = some (.int .u64 (key cx cy (sg s))) := hS.out.cell (hB.out.kc s hlt) (Nat.lt_succ_self B)
          obtain ⟨A, hA⟩ : ∃ A : Nat, cy (sg s) * 2097152 + cx (sg s) = A := ⟨_, rfl⟩
          have lx := hB.out.lx s hlt
          have ly := hB.out.ly s hlt
          have ls := hB.out.lt s hlt
          have ka : key cx cy (sg s) / 1048576 = (A : Int) := by unfold key; omega
          have b0 : 0 ≤ key cx cy (sg s) := by unfold key; omega
          have b1 : key cx cy (sg s) < 18446744073709551616 := by unfold key; omega
          have ay : (A : Int) / 2097152 = (cy (sg s) : Int) := by omega
          have ax : bits .and .u64 (A : Int) 2097151 = (cx (sg s) : Int) := by rw [← hA]; exact and_lo _ _ (by omega) (by omega)
          generalize hkk : key cx cy (sg s) = ky at *
          have HKY : Hid (key cx cy (sg s) = ky) := hkk
          clear hkk
          go_wp2_with fail
          refine (Cell.len25 B s (n - s) (n - s) (fun j => key cx cy (sg (s + j))) (A : Int) _ (by omega) (fun j hj => hS.out.cell (hB.out.kc (s + j) (by omega)) (Nat.lt_succ_self B)) (fun j hj => hB.out.kb (s + j) (by omega))).mono ?_
          rintro e w' ⟨m, hm, c1, c2, rfl, rfl⟩
          have hm1 : 1 ≤ m := by
            rcases Nat.eq_zero_or_pos m with q | q
            · exfalso
              subst q
              have := c2 (by omega)
              rw [Nat.add_zero, HKY.out] at this
              exact this ka
            · exact q
          have HT : Hid ((∀ j, j < m → key cx cy (sg (s + j)) / 1048576 = (A : Int)) ∧ (m < n - s → key cx cy (sg (s + m)) / 1048576 ≠ (A : Int))) := ⟨c1, c2⟩
          clear c1 c2
          obtain ⟨t, ht⟩ : ∃ t, s + m = t := ⟨_, rfl⟩
          have st : (s : Int) + (m : Int) = (t : Int) := by omega
          go_wp2_with fail
          have S14 : Hid (S1 w2 (w'.alloc (.cells #[.int .i64 (s : Int), .int .i64 (t : Int), .int .i64 0, .int .i64 0, .int .i64 0, .int .i64 0, .int .i64 0, .int .i64 0, .int .i64 0, .int .i64 0] 54)) (B + 1) w'.heap.size #[(s : Int), (t : Int), 0, 0, 0, 0, 0, 0, 0, 0] u8 (Pl.total n sg cx cy far s)) := by
            have := hS.out.made (G := #[(s : Int), (t : Int), 0, 0, 0, 0, 0, 0, 0, 0]) rfl
            rw [lit10] at this
            exact this
          generalize (w'.alloc (.cells #[.int .i64 (s : Int), .int .i64 (t : Int), .int .i64 0, .int .i64 0, .int .i64 0, .int .i64 0, .int .i64 0, .int .i64 0, .int .i64 0, .int .i64 0] 54)) = w3 at *
          generalize w'.heap.size = rb at *
          clear hS cs
          generalize hCX : cx (sg s) = CX at *
          generalize hCY : cy (sg s) = CY at *
          have HC : Hid (cx (sg s) = CX ∧ cy (sg s) = CY) := ⟨hCX, hCY⟩
          clear hCX hCY
          go_loopg [103] 4 (fun g v103 wr => ∃ (j : Nat) (G : Array Int), v103 = .int .i64 j ∧ j ≤ 4 ∧ 4 - j ≤ g ∧ Hid (S1 w2 wr (B + 1) rb G u8 (Pl.total n sg cx cy far s)) ∧ Hid (G[0]! = (s : Int) ∧ G[1]! = (t : Int) ∧ ∀ i, 1 ≤ i → i ≤ j → Str n sg cx cy s i G[2 * i]! G[2 * i + 1]!))
          case atStart => exact ⟨0, _, rfl, by omega, by omega, S14, rfl, rfl, fun i h1 h2 => absurd h2 (by omega)⟩
          case round =>
            clear S14
            obtain ⟨j, G, rfl, j4, hg2, hS1, hG⟩ := hrel
            by_cases hj : j < 4
            · have hix := ix56 j hj
              obtain ⟨dx, hdx⟩ : ∃ dx, dX j = dx := ⟨_, rfl⟩
              obtain ⟨dy, hdy⟩ : ∃ dy, dY j = dy := ⟨_, rfl⟩
              have hcall : ∀ W, Below (B + 1) w2 W → Hid (Calls Try.prog 20 #[.slice (some ⟨B, 0, none⟩) n n, .int .i64 ((CX : Int) + dx), .int .i64 ((CY : Int) + dy)] W fun e w' => ∃ f t : Nat, e = .returned (.tuple #[.int .i64 f, .int .i64 t]) ∧ (∃ q, w' = W.drewN q) ∧ f ≤ t ∧ t ≤ n ∧ ∀ p, p < n → (Pl.pr sg cx cy (j + 1) s p = true ↔ f ≤ p ∧ p < t)) := fun W hW => by
                have := beside20 hB.out n1 hlt HC.out hj hW
                rw [hdx, hdy] at this
                exact this
              have bx1 : -1 ≤ dx ∧ dx ≤ 1 := by
                rw [← hdx]
                rcases (by omega : j = 0 ∨ j = 1 ∨ j = 2 ∨ j = 3) with rfl | rfl | rfl | rfl <;> decide
              have by1 : 0 ≤ dy ∧ dy ≤ 1 := by
                rw [← hdy]
                rcases (by omega : j = 0 ∨ j = 1 ∨ j = 2 ∨ j = 3) with rfl | rfl | rfl | rfl <;> decide
              rw [hdx, hdy] at hix
              clear hdx hdy
              obtain ⟨bx2, bx3⟩ := bx1
              obtain ⟨by2, by3⟩ := by1
              obtain ⟨x1, hx1⟩ : ∃ x1, (CX : Int) + dx = x1 := ⟨_, rfl⟩
              obtain ⟨y1, hy1⟩ : ∃ y1, (CY : Int) + dy = y1 := ⟨_, rfl⟩
              rw [hx1, hy1] at hcall
              have q1 : IntKind.i64.wrap x1 = x1 := IntWalk.i64_in _ ⟨by omega, by omega⟩
              have q2 : IntKind.i64.wrap y1 = y1 := IntWalk.i64_in _ ⟨by omega, by omega⟩
              obtain ⟨j1, hj1⟩ : ∃ j1, j + 1 = j1 := ⟨_, rfl⟩
              have ej : (j : Int) + 1 = (j1 : Int) := by omega
              have q3 : IntKind.i64.wrap (j1 : Int) = (j1 : Int) := IntWalk.i64_in _ ⟨by omega, by omega⟩
              have k0 : (0 : Int) ≤ (j1 : Int) := by omega
              have k5 : (j1 : Int) < 5 := by omega
              go_wp2_with fail
              have S15 : Hid (S1 w2 (wr.alloc (.cells #[.int .i64 dx, .int .i64 dy] 55)) (B + 1) rb G u8 (Pl.total n sg cx cy far s)) := hS1.out.alloc _
              have n15 : wr.heap.size ≠ rb := by have := hS1.out.lt; omega
              have n16 : rb ≠ wr.heap.size := by omega
              have d0 : (wr.alloc (.cells #[.int .i64 dx, .int .i64 dy] 55)).cell? ⟨wr.heap.size, 0, none⟩ = some (.int .i64 dx) := by rw [World.cell?_alloc_at _ _ _ _ rfl]; rfl
              have d1 : (wr.alloc (.cells #[.int .i64 dx, .int .i64 dy] 55)).cell? ⟨wr.heap.size, 1, none⟩ = some (.int .i64 dy) := by rw [World.cell?_alloc_at _ _ _ _ rfl]; rfl
              generalize (wr.alloc (.cells #[.int .i64 dx, .int .i64 dy] 55)) = w4 at *
              generalize wr.heap.size = nb at *
              clear hS1 hix
              have r0 := S15.out.cell (t := j1 * 2) (by omega)
              have r1 := S15.out.cell (t := j1 * 2 + 1) (by omega)
              have f0 := S15.out.open_ (t := j1 * 2) (by omega)
              have f1 := S15.out.open_ (t := j1 * 2 + 1) (by omega)
              generalize G[j1 * 2]! = g0 at r0
              generalize G[j1 * 2 + 1]! = g1 at r1
              have B4 : Hid (Below (B + 1) w2 w4) := S15.out.bel
              go_region_held3 (fun w' => w'.cell? ⟨nb, 0, none⟩ = some (.int .i64 dx) ∧ w'.cell? ⟨nb, 1, none⟩ = some (.int .i64 dy)) (go_keep) (first | (go_at_call 20; refine (hcall _ (by first | exact B4.out.drew | exact B4.out)).out.mono ?_; rintro e w' ⟨F, T, rfl, ⟨q, rfl⟩, hF, hT, hpr⟩))
              have NX : Hid (S1 w2 (((w4.drewN (1 + q)).setCell ⟨rb, j1 * 2, none⟩ (.int .i64 (F : Int))).setCell ⟨rb, j1 * 2 + 1, none⟩ (.int .i64 (T : Int))) (B + 1) rb ((G.setIfInBounds (j1 * 2) (F : Int)).setIfInBounds (j1 * 2 + 1) (T : Int)) u8 (Pl.total n sg cx cy far s)) := ((S15.out.drewN (1 + q)).set (by omega) _).set (by omega) _
              have HP : Hid (∀ p, p < n → (Pl.pr sg cx cy (j + 1) s p = true ↔ F ≤ p ∧ p < T)) := hpr
              have gsz := S15.out.gs
              rename_i hHeld
              clear hpr hHeld hcall S15 B4 d0 d1 r0 r1 f0 f1
              go_wp2_with fail
              go_roundg (4 - j1)
              case measure => omega
              case rel =>
                refine ⟨j1, _, by simp, by omega, by omega, NX, ?_, ?_, fun i h1 h2 => ?_⟩
                · rw [getElem!_set_other _ _ _ _ (by omega), getElem!_set_other _ _ _ _ (by omega)]; exact hG.out.1
                · rw [getElem!_set_other _ _ _ _ (by omega), getElem!_set_other _ _ _ _ (by omega)]; exact hG.out.2.1
                · by_cases e : i = j1
                  · subst e
                    refine ⟨F, T, ?_, ?_, hF, hT, fun p hp => by rw [← hj1]; exact HP.out p hp⟩
                    · rw [show 2 * i = i * 2 by omega, getElem!_set_other _ _ _ _ (by omega), getElem!_set_same _ _ _ (by omega)]
                    · rw [show 2 * i + 1 = i * 2 + 1 by omega, getElem!_set_same _ _ _ (by rw [Array.size_setIfInBounds]; omega)]
                  · rw [getElem!_set_other _ _ _ _ (by omega), getElem!_set_other _ _ _ _ (by omega), getElem!_set_other _ _ _ _ (by omega), getElem!_set_other _ _ _ _ (by omega)]
                    exact hG.out.2.2 i h1 (by omega)
            · obtain rfl : j = 4 := by omega
              have RN : Hid (Runs n sg cx cy s t G) := ⟨hS1.out.gs, hG.out.2.1, hG.out.2.2⟩
              have CL : Hid (Cl n sg cx cy s t CX CY) := cl_of hB.out n1 hlt HC.out hA hm ht HT.out.1 HT.out.2
              have tn : t ≤ n := CL.out.le
              have hsT : s < t := by omega
              clear hG HT HC hA ax ay ka b0 b1 HKY hm hm1 hj hg2 j4 ht st ls lx ly
              go_wp2_with fail
              go_loopg [8, 22] n (fun g v8 v22 wr => ∃ (i : Nat) (G : Array Int), v22 = .int .i64 i ∧ s ≤ i ∧ i ≤ t ∧ n - i ≤ g ∧ Hid (Runs n sg cx cy s t G) ∧ Hid (S1 w2 wr (B + 1) rb G v8 (Pl.total n sg cx cy far i)))
              case atStart => exact ⟨s, G, rfl, by omega, by omega, by omega, RN, hS1⟩
              case round =>
                clear RN hS1 G
                obtain ⟨i, G, rfl, si, it, hg4, RN, hS1⟩ := hrel
                by_cases hi : i < t
                · have hin : i < n := by omega
                  have ci : wr.cell? ⟨B, i, none⟩ = some (.int .u64 (key cx cy (sg i))) := hS1.out.toS0.cell (hB.out.kc i hin) (Nat.lt_succ_self B)
                  have la := hB.out.lt i hin
                  have kk := hB.out.kb i hin
                  have an : bits .and .u64 (key cx cy (sg i)) 1048575 = (sg i : Int) := and_pt _ _ (by omega) (by omega) kk.2
                  have r0 := hS1.out.cell (t := 0) (by omega)
                  have f0 := hS1.out.open_ (t := 0) (by omega)
                  have S25 : Hid (S1 w2 (wr.setCell ⟨rb, 0, none⟩ (.int .i64 ((i : Int) + 1))) (B + 1) rb (G.setIfInBounds 0 ((i : Int) + 1)) u8 (Pl.total n sg cx cy far i)) := hS1.out.set (by omega) _
                  have R25 : Hid (Runs n sg cx cy s t (G.setIfInBounds 0 ((i : Int) + 1))) := RN.out.set _
                  have A25 : Hid (∀ k, k < 5 → Str n sg cx cy i k (G.setIfInBounds 0 ((i : Int) + 1))[2 * k]! (G.setIfInBounds 0 ((i : Int) + 1))[2 * k + 1]!) := fun k hk => RN.out.at CL.out si hi hk
                  generalize G.setIfInBounds 0 ((i : Int) + 1) = G1 at *
                  generalize G[0]! = gz at *
                  obtain ⟨ky, hky⟩ : ∃ ky, key cx cy (sg i) = ky := ⟨_, rfl⟩
                  rw [hky] at ci an kk
                  obtain ⟨kk0, kk1⟩ := kk
                  clear hky hS1 RN
                  obtain ⟨a, ha⟩ : ∃ a, sg i = a := ⟨_, rfl⟩
                  have HA : Hid (sg i = a) := ha
                  rw [ha] at an la
                  clear ha
                  go_upto_region 26 with fail
                  clear ci r0 f0 an kk0 kk1
                  generalize wr.setCell ⟨rb, 0, none⟩ (.int .i64 ((i : Int) + 1)) = w6 at *
                  have g0 := S25.out.cell (t := 0) (by omega)
                  have g1 := S25.out.cell (t := 1) (by omega)
                  have g2 := S25.out.cell (t := 2) (by omega)
                  have g3 := S25.out.cell (t := 3) (by omega)
                  have g4 := S25.out.cell (t := 4) (by omega)
                  have g5 := S25.out.cell (t := 5) (by omega)
                  have g6 := S25.out.cell (t := 6) (by omega)
                  have g7 := S25.out.cell (t := 7) (by omega)
                  have g8 := S25.out.cell (t := 8) (by omega)
                  have g9 := S25.out.cell (t := 9) (by omega)
                  have hN : Hid (∀ k, k < 5 → Str n sg cx cy i k (nth10 G1[0]! G1[1]! G1[2]! G1[3]! G1[4]! G1[5]! G1[6]! G1[7]! G1[8]! G1[9]! (2 * k)) (nth10 G1[0]! G1[1]! G1[2]! G1[3]! G1[4]! G1[5]! G1[6]! G1[7]! G1[8]! G1[9]! (2 * k + 1))) := fun k hk => by
                    have := A25.out k hk
                    rcases (by omega : k = 0 ∨ k = 1 ∨ k = 2 ∨ k = 3 ∨ k = 4) with rfl | rfl | rfl | rfl | rfl <;> exact this
                  clear A25
                  generalize G1[0]! = z0 at *
                  generalize G1[1]! = z1 at *
                  generalize G1[2]! = z2 at *
                  generalize G1[3]! = z3 at *
                  generalize G1[4]! = z4 at *
                  generalize G1[5]! = z5 at *
                  generalize G1[6]! = z6 at *
                  generalize G1[7]! = z7 at *
                  generalize G1[8]! = z8 at *
                  generalize G1[9]! = z9 at *
                  go_wp2_with fail
                  clear g0 g1 g2 g3 g4 g5 g6 g7 g8 g9
                  generalize decide ((i : Int) < (t : Int)) = bi
                  go_loopg [8, 146] 5 (fun g v8 v146 wr => ∃ k : Nat, v146 = .int .i64 k ∧ k ≤ 5 ∧ 5 - k ≤ g ∧ Hid (S1 w2 wr (B + 1) rb G1 v8 (Pl.total n sg cx cy far i ++ Pl.em sg far i (Pl.vis n sg cx cy i k))))
                  case atStart =>
                    refine ⟨0, rfl, by omega, by omega, ?_⟩
                    rw [show Pl.total n sg cx cy far i ++ Pl.em sg far i (Pl.vis n sg cx cy i 0) = Pl.total n sg cx cy far i from List.append_nil _]
                    exact S25
                  case round =>
                    clear S25
                    obtain ⟨k, rfl, k5, hg5, hS5⟩ := hrel
                    by_cases hk : k < 5
                    · obtain ⟨f, u, e1, e2, fu, un, hpr⟩ := hN.out k hk
                      have hix := ix54 z0 z1 z2 z3 z4 z5 z6 z7 z8 z9 k hk
                      rw [e1, e2] at hix
                      have HV : Hid (Pl.vis n sg cx cy i (k + 1) = Pl.vis n sg cx cy i k ++ List.range' f (u - f)) := by
                        show Pl.vis n sg cx cy i k ++ _ = _
                        rw [Pl.range_filter fu un hpr]
                      have HL : Hid ((Pl.total n sg cx cy far i).length ≤ i * (5 * n) ∧ (Pl.vis n sg cx cy i k).length ≤ k * n) := ⟨Pl.total_length i, Pl.vis_length i k⟩
                      clear hpr e1 e2
                      obtain ⟨D, hD⟩ : ∃ D, f + D = u := ⟨u - f, by omega⟩
                      have iD : (u : Int) - (f : Int) = (D : Int) := by omega
                      have nD : u - f = D := by omega
                      rw [nD] at HV
                      generalize Pl.vis n sg cx cy i k = V0 at *
                      have i0 : (0 : Int) ≤ (f : Int) := by omega
                      have i1 : (f : Int) ≤ (u : Int) := by omega
                      have i2 : (u : Int) ≤ (n : Int) := by omega
                      by_cases hfn : f < n
                      · go_wp2_with fail
                        have S28 : Hid (S1 w2 (wr.alloc (.cells #[.int .i64 (f : Int), .int .i64 (u : Int)] 53)) (B + 1) rb G1 u8 (Pl.total n sg cx cy far i ++ Pl.em sg far i V0)) := hS5.out.alloc _
                        generalize (wr.alloc (.cells #[.int .i64 (f : Int), .int .i64 (u : Int)] 53)) = w7 at *
                        generalize wr.heap.size = nb at *
                        clear hS5 hix
                        generalize decide ((k : Int) < 5) = bk
                        have HK : Hid (k < 5) := hk
                        clear hk
                        go_loopg [8, 156] n (fun g v8 v156 wr => ∃ q : Nat, v156 = .int .i64 q ∧ q ≤ D ∧ n - q ≤ g ∧ Hid (S1 w2 wr (B + 1) rb G1 v8 (Pl.total n sg cx cy far i ++ Pl.em sg far i (V0 ++ List.range' f q))))
                        case atStart =>
                          refine ⟨0, rfl, by omega, by omega, ?_⟩
                          rw [show V0 ++ List.range' f 0 = V0 from List.append_nil _]
                          exact S28
                        case round =>
                          clear S28
                          obtain ⟨q, rfl, qD, hg6, hS6⟩ := hrel
                          by_cases hq : q < D
                          · obtain ⟨p, hp⟩ : ∃ p, f + q = p := ⟨_, rfl⟩
                            have pn : p < n := by omega
                            have cp : wr.cell? ⟨B, p, none⟩ = some (.int .u64 (key cx cy (sg p))) := hS6.out.toS0.cell (hB.out.kc p pn) (Nat.lt_succ_self B)
                            have lb := hB.out.lt p pn
                            have kk := hB.out.kb p pn
                            have an : bits .and .u64 (key cx cy (sg p)) 1048575 = (sg p : Int) := and_pt _ _ (by omega) (by omega) kk.2
                            obtain ⟨ky, hky⟩ : ∃ ky, key cx cy (sg p) = ky := ⟨_, rfl⟩
                            rw [hky] at cp an kk
                            obtain ⟨kk0, kk1⟩ := kk
                            clear hky
                            obtain ⟨b, hb⟩ : ∃ b, sg p = b := ⟨_, rfl⟩
                            have HBp : Hid (sg p = b) := hb
                            rw [hb] at an lb
                            clear hb
                            have x1 : wr.cell? ⟨bx, ox + a, none⟩ = some (.float .f64 (X a)) := hS6.out.toS0.cell (hB.out.xs a la) (Nat.lt_succ_of_lt hbx)
                            have x2 : wr.cell? ⟨bx, ox + b, none⟩ = some (.float .f64 (X b)) := hS6.out.toS0.cell (hB.out.xs b lb) (Nat.lt_succ_of_lt hbx)
                            have x3 : wr.cell? ⟨bY, oY + a, none⟩ = some (.float .f64 (Y a)) := hS6.out.toS0.cell (hB.out.ys a la) (Nat.lt_succ_of_lt hby)
                            have x4 : wr.cell? ⟨bY, oY + b, none⟩ = some (.float .f64 (Y b)) := hS6.out.toS0.cell (hB.out.ys b lb) (Nat.lt_succ_of_lt hby)
                            obtain ⟨dx, dy, pp, qq, tt, o1, o2, o3, o4, o5, o6⟩ := hB.out.dist a b la lb
                            have c1 := run_sub _ _ _ o1
                            have c2 := run_sub _ _ _ o2
                            have c3 := run_mul _ _ _ o3
                            have c4 := run_mul _ _ _ o4
                            have c5 := run_add _ _ _ o5
                            clear o1 o2 o3 o4 o5
                            generalize X a = xa at *
                            generalize X b = xb at *
                            generalize Y a = ya at *
                            generalize Y b = yb at *
                            have a0 : (0 : Int) ≤ (a : Int) := by omega
                            have a1 : (a : Int) < (n : Int) := by omega
                            have b0 : (0 : Int) ≤ (b : Int) := by omega
                            have b1 : (b : Int) < (n : Int) := by omega
                            have o7 : (FloatKind.f64.format.order tt nw == some Ordering.gt) = far a b := o6
                            cases hfar : far a b with
                            | true =>
                              rw [hfar] at o6 o7
                              have NX : Hid (Pl.em sg far i (V0 ++ List.range' f (q + 1)) = Pl.em sg far i (V0 ++ List.range' f q)) := by
                                have hf2 : far (sg i) (sg (f + q)) = true := by rw [hp, HA.out, HBp.out]; exact hfar
                                show _ = _
                                rw [List.range'_1_concat, ← List.append_assoc, Pl.em_snoc_far _ _ _ hf2]
                              clear hfar
                              go_wp2_with fail
                              go_quiet (fail)
                              go_wp2_with fail
                              go_roundg (n - (q + 1))
                              case measure => omega
                              case rel => exact ⟨q + 1, by go_num, by omega, by omega, by rw [NX.out]; exact hS6.out.drewN nq⟩
                            | false =>
                              rw [hfar] at o6 o7
                              have LB : (Pl.total n sg cx cy far i ++ Pl.em sg far i (V0 ++ List.range' f q)).length < 6000000 := by
                                have h1 := HL.out.1
                                have h2 := HL.out.2
                                have h3 := Pl.em_length (sg := sg) (far := far) i (V0 ++ List.range' f q)
                                have h4 : i * (5 * n) ≤ 1024 * (5 * 1024) := Nat.mul_le_mul (by omega) (by omega)
                                have hk := HK.out
                                have h5 : k * n ≤ 5 * 1024 := Nat.mul_le_mul (by omega) (by omega)
                                rw [List.length_append, List.length_range'] at h3
                                rw [List.length_append]
                                omega
                              have NX : Hid (Pl.total n sg cx cy far i ++ Pl.em sg far i (V0 ++ List.range' f (q + 1)) = (Pl.total n sg cx cy far i ++ Pl.em sg far i (V0 ++ List.range' f q)) ++ [(min a b, max a b)]) := by
                                have hf2 : far (sg i) (sg (f + q)) = false := by rw [hp, HA.out, HBp.out]; exact hfar
                                show _ = _
                                rw [List.range'_1_concat, ← List.append_assoc V0, Pl.em_snoc _ _ _ hf2, hp, HA.out, HBp.out, List.append_assoc]
                              clear hfar
                              obtain ⟨LL, hLL⟩ : ∃ LL, Pl.total n sg cx cy far i ++ Pl.em sg far i (V0 ++ List.range' f q) = LL := ⟨_, rfl⟩
                              rw [hLL] at hS6 NX LB
                              clear hLL
                              have hmn := min_int a b
                              have hmx := max_int a b
                              generalize min a b = mn at *
                              generalize max a b = mx at *
                              go_wp2_with fail
                              go_quiet (fail)
                              generalize hq9 : wr.drewN nq = wq
                              have SQ : Hid (S1 w2 wq (B + 1) rb G1 u8 LL) := by rw [← hq9]; exact hS6.out.drewN nq
                              clear hq9 hS6 x1 x2 x3 x4 cp
                              have hlen := len_own SQ.out.toS0
                              have lne : ((LL.length : Int) == 10000000) = false := by rw [beq_eq_false_iff_ne]; omega
                              obtain ⟨ie, hi0, hz0, hz1, hz2⟩ := info_parts Try.info41
                              have h63 : LL.length + 1 ≤ maxLen := by simp only [maxLen]; omega
                              have hbase : B + 1 ≤ (wq.alloc (.cells #[.int .i64 (mn : Int), .int .i64 (mx : Int)] 41)).heap.size := by rw [World.size_alloc]; have := SQ.out.sz; omega
                              have own9 : Hid ((wq.alloc (.cells #[.int .i64 (mn : Int), .int .i64 (mx : Int)] 41)).ownsRow (B + 1) 41 2 u8 LL.length (enc LL)) := SQ.out.own.alloc _
                              have news9 : Hid (∀ j x, [Value.int .i64 (mn : Int), Value.int .i64 (mx : Int)][j]? = some x → (wq.alloc (.cells #[.int .i64 (mn : Int), .int .i64 (mx : Int)] 41)).cell? ((⟨wq.heap.size, 0, none⟩ : Addr).add j) = some x) := World.news_of_block (cs := #[.int .i64 (mn : Int), .int .i64 (mx : Int)]) (heap_alloc_new wq _)
                              have one9 : Hid (∀ x ∈ [Value.int .i64 (mn : Int), Value.int .i64 (mx : Int)], x.oneCell' = true) := by
                                intro x hx
                                simp only [List.mem_cons, List.not_mem_nil, or_false] at hx
                                rcases hx with rfl | rfl <;> rfl
                              go_upto_region 37 with fail
                              go_wp2_with (at_builtin; refine wpList_append_lies _ rfl (.tmp 193) (.tmp 201) 36 rfl (B + 1) 41 ie (.agg #[.int .i64 0, .int .i64 0]) 2 16 Try.underlying36 hi0 hz0 hz1 hz2 rfl (by decide) u8 LL.length (enc LL) (by rfl) own9.out ⟨wq.heap.size, 0, none⟩ 1 1 [.int .i64 (mn : Int), .int .i64 (mx : Int)] (by rfl) rfl news9.out one9.out (by omega) h63 (by omega) hbase _ rfl ?_; intro g cap w8 own8 gr8 at8 lt8)
                              have NS : Hid (S1 w2 w8 (B + 1) rb G1 (.slice (some ⟨g, 0, none⟩) (LL.length + 1) cap) (LL ++ [(mn, mx)])) := (SQ.out.alloc _).link own8 gr8 (by
                                rcases at8 with h | h
                                · exact .inl h
                                · right; rw [h]; exact Nat.le_refl _)
                              rw [← NX.out] at NS
                              go_roundg (n - (q + 1))
                              case measure => omega
                              case rel => exact ⟨q + 1, by go_num, by omega, by omega, NS⟩
                          · obtain rfl : q = D := by omega
                            rw [← HV.out] at hS6
                            have hk := HK.out
                            go_wp2_with fail
                            go_roundg (5 - (k + 1))
                            case measure => omega
                            case rel => exact ⟨k + 1, by go_num, by omega, by omega, hS6⟩
                      · have fn : f = n := by omega
                        have un2 : u = n := by omega
                        have D0 : D = 0 := by omega
                        have HV2 : Hid (Pl.vis n sg cx cy i (k + 1) = V0) := by
                          show _ = _
                          rw [HV.out, D0]; exact List.append_nil _
                        rw [← HV2.out] at hS5
                        subst fn un2
                        clear HV HV2 nD iD hD D0 i0 i1 i2 fu un
                        have S28 : Hid (S1 w2 (wr.alloc (.cells #[.int .i64 (u : Int), .int .i64 (u : Int)] 53)) (B + 1) rb G1 u8 (Pl.total u sg cx cy far i ++ Pl.em sg far i (Pl.vis u sg cx cy i (k + 1)))) := hS5.out.alloc _
                        go_wp2_with fail
                        generalize (wr.alloc (.cells #[.int .i64 (u : Int), .int .i64 (u : Int)] 53)) = w7 at *
                        generalize wr.heap.size = nb at *
                        generalize decide ((k : Int) < 5) = bk
                        have HK : Hid (k < 5) := hk
                        clear hk
                        go_loopg [8, 156] 1 (fun g v8 v156 wr => v156 = .int .i64 0 ∧ Hid (S1 w2 wr (B + 1) rb G1 v8 (Pl.total u sg cx cy far i ++ Pl.em sg far i (Pl.vis u sg cx cy i (k + 1)))))
                        case atStart => exact ⟨rfl, S28⟩
                        case round =>
                          obtain ⟨rfl, hS6⟩ := hrel
                          clear S28
                          go_wp2_with fail
                          have hk := HK.out
                          go_roundg (5 - (k + 1))
                          case measure => omega
                          case rel => exact ⟨k + 1, by go_num, by omega, by omega, hS6⟩
                    · obtain rfl : k = 5 := by omega
                      have S5 : Hid (S1 w2 wr (B + 1) rb G1 u8 (Pl.total n sg cx cy far (i + 1))) := hS5
                      go_wp2_with fail
                      go_roundg (n - (i + 1))
                      case measure => omega
                      case rel => exact ⟨i + 1, G1, by go_num, by omega, by omega, by omega, R25, S5⟩
                · have hit : i = t := by omega
                  rw [hit] at hS1
                  have hlt2 : s < t := by omega
                  go_wp2_with fail
                  go_roundg (n - t)
                  case measure => omega
                  case rel => exact ⟨t, rfl, by omega, by omega, hS1.out.toS0⟩
        · obtain rfl : n = s := by omega
          go_wp2_with fail
          go_ret2
          exact ⟨_, rfl, sg, hSg.out, last_of HBB.out hS.out hBW.out⟩
end Go.Proofs.Qxb6600854a.Lk
