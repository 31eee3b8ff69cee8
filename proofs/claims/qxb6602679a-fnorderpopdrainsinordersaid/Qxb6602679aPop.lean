import Derived.Test.Qxb6602679aDown
import Derived.Test.Qxb6602679aPopPlain
namespace Go.Proofs.Qxb6602679a
open Go.ChangeShapes Go.WideShapes Go.ChangeAt Go.RowKit Go.Sort
set_option linter.unusedVariables false

theorem cell_other {w : World} {a b : Addr} {v u : Value} (h : w.cell? b = some u) (hne : a.block ≠ b.block ∨ a.off ≠ b.off) : (w.setCell a v).cell? b = some u := by
  rw [World.cell?_setCell_other _ _ _ _ (by rintro rfl; rcases hne with q | q <;> exact q rfl)]; exact h

set_option maxHeartbeats 4000000 in
set_option maxRecDepth 1000000 in
theorem pop34 (bo bA bh bt n ch nA cA nT cT : Nat) (A V : Array Nat) (T : Array Int) (w : World)
    (o0 : w.cell? ⟨bo, 0, none⟩ = some (.slice (some ⟨bA, 0, none⟩) nA cA)) (o1 : w.cell? ⟨bo, 1, none⟩ = some (.slice (some ⟨bh, 0, none⟩) n ch)) (o2 : w.cell? ⟨bo, 2, none⟩ = some (.slice (some ⟨bt, 0, none⟩) nT cT)) (fo : w.frozen? ⟨bo, 1, none⟩ = false)
    (hA : Holds (Value.float .f64) w bA 0 A) (hV : Holds encN w bh 0 V) (hT : Holds (Value.int .i32) w bt 0 T) (sA : A.size = nA) (sT : T.size = nT) (hn1 : 1 ≤ n) (hn : n ≤ 65536) (hch : n ≤ ch) (hch2 : ch ≤ 65536)
    (d1 : bo ≠ bh) (d2 : bo ≠ bt) (d3 : bA ≠ bh) (d4 : bA ≠ bt) (d5 : bh ≠ bt) (d6 : bo ≠ bA) (hok : Hp.Ok A V T n) :
    Calls Try.prog 34 #[.pointer (some ⟨bo, 0, none⟩)] w fun e w' => e = .returned (.int .i32 (V[0]! : Nat)) ∧ ∃ (V' : Array Nat) (T' : Array Int), Hp.Popped A V T n V' T' ∧ Holds encN w' bh 0 V' ∧ Holds (Value.int .i32) w' bt 0 T' ∧ w'.cell? ⟨bo, 1, none⟩ = some (.slice (some ⟨bh, 0, none⟩) (n - 1) ch) ∧ Row.Fr (fun b => b = bo ∨ b = bh ∨ b = bt) w w' := by
  have hns := hok.ns
  have r0 := hok.rng 0 (by omega)
  have rl := hok.rng (n - 1) (by omega)
  have c0 : w.cell? ⟨bh, 0, none⟩ = some (.int .i32 (V[0]! : Nat)) := (holds_at hV (t := 0) (by omega)).1
  have cl : w.cell? ⟨bh, n - 1, none⟩ = some (.int .i32 (V[n - 1]! : Nat)) := (holds_at hV (t := n - 1) (by omega)).1
  have f0 : w.frozen? ⟨bh, 0, none⟩ = false := (holds_at hV (t := 0) (by omega)).2
  obtain ⟨m, rfl⟩ : ∃ m, n = m + 1 := ⟨n - 1, by omega⟩
  have em : m + 1 - 1 = m := by omega
  rw [em] at rl cl
  have AH : Hid (Holds (Value.float .f64) w bA 0 A ∧ Holds encN w bh 0 V ∧ Holds (Value.int .i32) w bt 0 T ∧ Hp.Ok A V T (m + 1)) := ⟨hA, hV, hT, hok⟩
  have hne : ((m : Int) + 1 == 0) = false := by rw [beq_eq_false_iff_ne]; omega
  -- the worlds on the way
  obtain ⟨v, hv⟩ : ∃ v, V[0]! = v := ⟨_, rfl⟩
  obtain ⟨l, hl⟩ : ∃ l, V[m]! = l := ⟨_, rfl⟩
  have HV : Hid (V[0]! = v) := hv
  have HL : Hid (V[m]! = l) := hl
  rw [hv] at r0 c0 ⊢
  rw [hl] at rl cl
  clear hv hl hA hV hT hok
  have i1 : (m : Int) < (m : Int) + 1 := by omega
  go_enter Try.func34, Try.ntmps34
  go_wp2_with fail
  go_quiet (fail)
  go_wp2_with fail
  generalize hwq : w.drewN nq = wq
  have q0 : wq.cell? ⟨bo, 0, none⟩ = some (.slice (some ⟨bA, 0, none⟩) nA cA) := by rw [← hwq]; exact o0
  have q1 : wq.cell? ⟨bo, 1, none⟩ = some (.slice (some ⟨bh, 0, none⟩) (m + 1) ch) := by rw [← hwq]; exact o1
  have q2 : wq.cell? ⟨bo, 2, none⟩ = some (.slice (some ⟨bt, 0, none⟩) nT cT) := by rw [← hwq]; exact o2
  have qf : wq.frozen? ⟨bo, 1, none⟩ = false := by rw [← hwq]; exact fo
  have FQ : Hid (Row.Fr (fun b => b = bo ∨ b = bh ∨ b = bt) w wq) := by rw [← hwq]; exact (Row.Fr.refl _ _).drewN nq
  have HQ : Hid (Holds (Value.float .f64) wq bA 0 A ∧ Holds encN wq bh 0 V ∧ Holds (Value.int .i32) wq bt 0 T) := by rw [← hwq]; exact ⟨AH.out.1, AH.out.2.1, AH.out.2.2.1⟩
  have HOK : Hid (Hp.Ok A V T (m + 1)) := AH.out.2.2.2
  clear hwq o0 o1 o2 fo c0 cl f0 AH
  go_region
  generalize hw5 : (wq.setCell ⟨bo, 1, none⟩ (.slice (some ⟨bh, 0, none⟩) m ch)).drew = w5
  have p0 : w5.cell? ⟨bo, 0, none⟩ = some (.slice (some ⟨bA, 0, none⟩) nA cA) := by rw [← hw5]; exact cell_other q0 (.inr (by show (1 : Nat) ≠ 0; decide))
  have p1 : w5.cell? ⟨bo, 1, none⟩ = some (.slice (some ⟨bh, 0, none⟩) m ch) := by rw [← hw5]; exact World.cell?_setCell_same _ _ _ q1
  have p2 : w5.cell? ⟨bo, 2, none⟩ = some (.slice (some ⟨bt, 0, none⟩) nT cT) := by rw [← hw5]; exact cell_other q2 (.inr (by show (1 : Nat) ≠ 2; decide))
  have F5 : Hid (Row.Fr (fun b => b = bo ∨ b = bh ∨ b = bt) w w5) := by rw [← hw5]; exact (FQ.out.setCell (.inl (.inl rfl)) _).drew
  have H5 : Hid (Holds (Value.float .f64) w5 bA 0 A ∧ Holds encN w5 bh 0 V ∧ Holds (Value.int .i32) w5 bt 0 T) := by
    rw [← hw5]
    exact ⟨Row.holds_set_other HQ.out.1 (by show bo ≠ bA; exact d6) _, Row.holds_set_other HQ.out.2.1 (by show bo ≠ bh; exact d1) _, Row.holds_set_other HQ.out.2.2 (by show bo ≠ bt; exact d2) _⟩
  clear hw5 q0 q1 q2 qf FQ HQ
  have vT : v < nT := by omega
  have lT : l < nT := by omega
  obtain ⟨cv, fv⟩ := holds_at H5.out.2.2 (t := v) (by omega)
  generalize T[v]! = tv at cv
  have i2 : (v : Int) < (nT : Int) := by omega
  have i3 : (l : Int) < (nT : Int) := by omega
  -- at[v] = -1
  generalize hw6 : w5.setCell ⟨bt, v, none⟩ (.int .i32 (-1)) = w6
  have HW6 : Hid (w5.setCell ⟨bt, v, none⟩ (.int .i32 (-1)) = w6) := hw6
  have s0 : w6.cell? ⟨bo, 0, none⟩ = some (.slice (some ⟨bA, 0, none⟩) nA cA) := by rw [← hw6]; exact cell_other p0 (.inl (by show bt ≠ bo; omega))
  have s1 : w6.cell? ⟨bo, 1, none⟩ = some (.slice (some ⟨bh, 0, none⟩) m ch) := by rw [← hw6]; exact cell_other p1 (.inl (by show bt ≠ bo; omega))
  have s2 : w6.cell? ⟨bo, 2, none⟩ = some (.slice (some ⟨bt, 0, none⟩) nT cT) := by rw [← hw6]; exact cell_other p2 (.inl (by show bt ≠ bo; omega))
  have F6 : Hid (Row.Fr (fun b => b = bo ∨ b = bh ∨ b = bt) w w6) := by rw [← hw6]; exact F5.out.setCell (.inl (.inr (.inr rfl))) _
  have H6 : Hid (Holds (Value.float .f64) w6 bA 0 A ∧ Holds encN w6 bh 0 V ∧ Holds (Value.int .i32) w6 bt 0 (T.setIfInBounds v (-1))) := by
    rw [← hw6]
    exact ⟨Row.holds_set_other H5.out.1 (by show bt ≠ bA; omega) _, Row.holds_set_other H5.out.2.1 (by show bt ≠ bh; omega) _, holds_put (enc := Value.int .i32) H5.out.2.2 (by omega) (-1)⟩
  by_cases hm : m = 0
  · have g0 : ¬ (0 : Int) < (m : Int) := by omega
    have PD : Hid (Hp.Popped A V T 1 V (T.setIfInBounds v (-1))) := by
      have := HOK.out
      rw [hm] at this
      have := Hp.popped_one this
      rw [HV.out] at this
      exact this
    go_wp2
    go_ret
    refine ⟨rfl, V, _, ?_, H6.out.2.1, H6.out.2.2, ?_, F6.out⟩
    · exact PD.out
    · have := s1; rw [hm] at this; exact this
  · have g0 : (0 : Int) < (m : Int) := by omega
    obtain ⟨c0, f0⟩ := holds_at H6.out.2.1 (t := 0) (by omega)
    obtain ⟨cl, fl⟩ := holds_at H6.out.2.2 (t := l) (by rw [Array.size_setIfInBounds]; omega)
    rw [HV.out] at c0
    unfold encN at c0
    generalize (T.setIfInBounds v (-1))[l]! = tl at cl
    have DI0 : Hid (Hp.DI A (Hp.V1 V (m + 1)) (Hp.T1 V T (m + 1)) m 0 0 (Hp.V1 V (m + 1)) (Hp.T1 V T (m + 1))) := Hp.pop_DI HOK.out (by omega)
    go_wp2_with fail
    go_region
    generalize hw8 : ((w6.setCell ⟨bh, 0, none⟩ (.int .i32 (l : Nat))).setCell ⟨bt, l, none⟩ (.int .i32 0)).drew = w8
    have t0 : w8.cell? ⟨bo, 0, none⟩ = some (.slice (some ⟨bA, 0, none⟩) nA cA) := by rw [← hw8]; exact cell_other (cell_other s0 (.inl (by show bh ≠ bo; omega))) (.inl (by show bt ≠ bo; omega))
    have t1 : w8.cell? ⟨bo, 1, none⟩ = some (.slice (some ⟨bh, 0, none⟩) m ch) := by rw [← hw8]; exact cell_other (cell_other s1 (.inl (by show bh ≠ bo; omega))) (.inl (by show bt ≠ bo; omega))
    have t2 : w8.cell? ⟨bo, 2, none⟩ = some (.slice (some ⟨bt, 0, none⟩) nT cT) := by rw [← hw8]; exact cell_other (cell_other s2 (.inl (by show bh ≠ bo; omega))) (.inl (by show bt ≠ bo; omega))
    have F8 : Hid (Row.Fr (fun b => b = bo ∨ b = bh ∨ b = bt) w w8) := by rw [← hw8]; exact ((F6.out.setCell (.inl (.inr (.inl rfl))) _).setCell (.inl (.inr (.inr rfl))) _).drew
    have H8 : Hid (Holds (Value.float .f64) w8 bA 0 A ∧ Holds encN w8 bh 0 (Hp.V1 V (m + 1)) ∧ Holds (Value.int .i32) w8 bt 0 (Hp.T1 V T (m + 1))) := by
      rw [← hw8]
      unfold Hp.V1 Hp.T1
      rw [show m + 1 - 1 = m by omega, HL.out, HV.out]
      refine ⟨?_, ?_, ?_⟩
      · exact Row.holds_set_other (Row.holds_set_other H6.out.1 (by show bh ≠ bA; omega) _) (by show bt ≠ bA; omega) _
      · exact Row.holds_set_other (holds_put H6.out.2.1 (by omega) l) (by show bt ≠ bh; omega) _
      · exact holds_put (enc := Value.int .i32) (Row.holds_set_other H6.out.2.2 (by show bh ≠ bt; omega) _) (by rw [Array.size_setIfInBounds]; omega) 0
    have sT1 : Hid ((Hp.T1 V T (m + 1)).size = nT) := by rw [Hp.T1_size]; exact sT
    have b8 : Hid (bo < w8.heap.size) := World.block_lt_of_cell? _ _ t0
    clear hw8 hw6 HW6 s0 s1 s2 c0 f0 cl fl F6 H6 p0 p1 p2 cv fv F5 H5
    go_wp2_with fail
    refine (down32 bo bA bh bt m ch nA cA nT cT 0 A (Hp.V1 V (m + 1)) (Hp.T1 V T (m + 1)) _ t0 t1 t2 H8.out.1 H8.out.2.1 H8.out.2.2 sA sT1.out (by omega) d1 d2 d3 d4 d5 DI0.out).mono ?_
    rintro e w9 ⟨rfl, V', T', hdn, h1, h2, h3⟩
    have PD : Hid (Hp.Popped A V T (m + 1) V' T') := Hp.popped_of_done HOK.out (by omega) hdn
    have C1 : Hid (w9.cell? ⟨bo, 1, none⟩ = some (.slice (some ⟨bh, 0, none⟩) m ch)) := (h3.cell (p := ⟨bo, 1, none⟩) b8.out (by rintro (e | e); exact d1 e; exact d2 e)).trans t1
    have F9 : Hid (Row.Fr (fun b => b = bo ∨ b = bh ∨ b = bt) w w9) := F8.out.trans (h3.mono (fun k _ h => .inr h))
    have H9 : Hid (Holds encN w9 bh 0 V' ∧ Holds (Value.int .i32) w9 bt 0 T') := ⟨h1, h2⟩
    clear hdn h1 h2 h3 t0 t1 t2
    go_wp2
    go_ret
    exact ⟨rfl, V', T', PD.out, H9.out.1, H9.out.2, C1.out, F9.out⟩
end Go.Proofs.Qxb6602679a
