import Derived.Test.Qxb6602679aPop2
namespace Go.Proofs.Qxb6602679a
open Go.ChangeShapes Go.WideShapes Go.ChangeAt Go.RowKit Go.Sort
set_option linter.unusedVariables false

/-! ### Clones of whatever slice: nil, without elements, with some -/
def Nl (p : Option Addr) (n c : Nat) : Prop := n = 0 → (p = none ∧ c = 0) ∨ ∃ x, p = some x

theorem clone20S (p : Option Addr) (n c : Nat) (d : Array Int) (w : World) (hs : d.size = n) (hn : n ≤ 65536) (hp : Nl p n c) (h : Sl (Value.int .i32) w p n d) :
    Calls Try.prog 20 #[.slice p n c] w fun e w' => ∃ p', e = .returned (.slice p' n n) ∧ Hid (Nl p' n n ∧ Sl (Value.int .i32) w' p' n d ∧ Row.Fr (fun _ => False) w w') := by
  by_cases h0 : n = 0
  · subst h0
    refine (clone20_none p c w (hp rfl)).mono ?_
    rintro e w' ⟨p', rfl, h1, h2⟩
    exact ⟨p', rfl, fun _ => h1.out, fun h => absurd h (by omega), h2⟩
  · obtain ⟨b, off, rfl, hc⟩ := h (by omega)
    refine (clone20A b off c n d w hs hn hc).mono ?_
    rintro e w' ⟨B, rfl, h1, h2, h3, h4⟩
    exact ⟨_, rfl, fun h => absurd h h0, fun _ => ⟨B, 0, rfl, fun j hj => (h3 j (by omega)).1⟩, h4⟩
theorem clone19S (p : Option Addr) (n c : Nat) (d : Array Nat) (w : World) (hs : d.size = n) (hn : n ≤ 65536) (hp : Nl p n c) (h : Sl (Value.float .f64) w p n d) :
    Calls Try.prog 19 #[.slice p n c] w fun e w' => ∃ p', e = .returned (.slice p' n n) ∧ Hid (Row.Fr (fun _ => False) w w') := by
  by_cases h0 : n = 0
  · subst h0
    refine (clone19_none p c w (hp rfl)).mono ?_
    rintro e w' ⟨p', rfl, h1, h2⟩
    exact ⟨p', rfl, h2⟩
  · obtain ⟨b, off, rfl, hc⟩ := h (by omega)
    refine (clone19A b off c n d w hs hn hc).mono ?_
    rintro e w' ⟨B, rfl, h1, h2, h3, h4⟩
    exact ⟨_, rfl, h4⟩
theorem Sl.keep {α : Type} [Inhabited α] {enc : α → Value} {w w' : World} {p : Option Addr} {n : Nat} {d : Array α} (h : Sl enc w p n d) (f : Row.Fr (fun _ => False) w w') : Sl enc w' p n d := fun h0 => by
  obtain ⟨b, off, e, hc⟩ := h h0
  refine ⟨b, off, e, fun j hj => ?_⟩
  have := hc j hj
  rw [f.cell (p := ⟨b, off + j, none⟩) (World.block_lt_of_cell? _ _ this) (fun f => f), this]

theorem bytes25 (pA pH pT : Option Addr) (nA cA n ch nT cT : Nat) (w : World) :
    Calls Try.prog 25 #[.slice pA nA cA, .slice pH n ch, .slice pT nT cT] w fun e w' => (e = .returned (.bool true) ∨ e = .returned (.bool false)) ∧ w' = w := by
  go_enter Try.func25, Try.ntmps25
  go_wp2
  all_goals
    go_ret
    first | exact ⟨.inl rfl, rfl⟩ | exact ⟨.inr rfl, rfl⟩
theorem bytes28 (pA pH pT : Option Addr) (nA cA n ch nT cT : Nat) (w : World) :
    Calls Try.prog 28 #[.slice pA nA cA, .slice pH n ch, .slice pT nT cT] w fun e w' => (e = .returned (.bool true) ∨ e = .returned (.bool false)) ∧ w' = w := by
  go_enter Try.func28, Try.ntmps28
  go_wp2
  all_goals
    go_ret
    first | exact ⟨.inl rfl, rfl⟩ | exact ⟨.inr rfl, rfl⟩

set_option maxHeartbeats 4000000 in
set_option maxRecDepth 1000000 in
/-- 'pop' on an empty heap. -/
theorem law7_none (p pT pA : Option Addr) (c nT cT nA cA : Nat) (A : Array Nat) (T : Array Int) (w : World) (hnT : nT ≤ 65536) (hnA : nA ≤ 65536) (sA : A.size = nA) (sT : T.size = nT) (hp : (p = none ∧ c = 0) ∨ ∃ x, p = some x) (nlA : Nl pA nA cA) (nlT : Nl pT nT cT)
    (hA : Sl (Value.float .f64) w pA nA A) (hT : Sl (Value.int .i32) w pT nT T) :
    Calls Try.prog 7 #[.slice pA nA cA, .slice p 0 c, .slice pT nT cT] w fun e w' => e = .returned (.bool true) ∧ Below w.heap.size w w' := by
  have HA : Hid (Sl (Value.float .f64) w pA nA A ∧ Nl pA nA cA ∧ A.size = nA) := ⟨hA, nlA, sA⟩
  have HT : Hid (Sl (Value.int .i32) w pT nT T ∧ Nl pT nT cT ∧ T.size = nT) := ⟨hT, nlT, sT⟩
  have HP : Hid ((p = none ∧ c = 0) ∨ ∃ x, p = some x) := hp
  have BY := bytes25 pA p pT nA cA 0 c nT cT w
  have VA := valid26_none p pA pT c nA cA nT cT w hnT hnA
  clear hA hT hp sA sT nlA nlT
  go_enter Try.func7, Try.ntmps7
  go_wp2_with fail
  refine BY.mono ?_
  rintro e w0 ⟨he, rfl⟩
  clear BY
  rcases he with rfl | rfl
  · go_wp2_with fail
    refine VA.mono ?_
    rintro e w1 ⟨rfl, f1⟩
    clear VA
    have F1 : Hid (Row.Fr (fun _ => False) w0 w1) := f1
    clear f1
    go_wp2_with fail
    refine (clone19S pA nA cA A _ HA.out.2.2 hnA HA.out.2.1 (HA.out.1.keep F1.out)).mono ?_
    rintro e w2 ⟨p2, rfl, f⟩
    have F2 : Hid (Row.Fr (fun _ => False) w0 w2) := F1.out.trans f.out
    clear f
    go_wp2_with fail
    refine (clone20_none p c _ HP.out).mono ?_
    rintro e w3 ⟨p3, rfl, hp3, f⟩
    have F3 : Hid (Row.Fr (fun _ => False) w0 w3) := F2.out.trans f
    clear f
    go_wp2_with fail
    refine (clone20S pT nT cT T _ HT.out.2.2 hnT HT.out.2.1 (HT.out.1.keep F3.out)).mono ?_
    rintro e w4 ⟨p4, rfl, h4⟩
    go_wp2_with fail
    refine (clone20_none p3 0 _ (by rcases hp3.out with h | h; exact .inl ⟨h.1, rfl⟩; exact .inr h)).mono ?_
    rintro e w5 ⟨p5, rfl, hp5, f⟩
    have H5 : Hid (Sl (Value.int .i32) w5 p4 nT T ∧ Row.Fr (fun _ => False) w0 w5) := ⟨h4.out.2.1.keep f, (F3.out.trans h4.out.2.2).trans f⟩
    clear f
    go_wp2_with fail
    refine (clone20S p4 nT nT T _ HT.out.2.2 hnT h4.out.1 H5.out.1).mono ?_
    rintro e w6 ⟨p6, rfl, h6⟩
    go_wp2_with fail
    refine (zz27_none p5 p2 p6 0 nA nA nT nT _).mono ?_
    rintro e w7 ⟨rfl, f7⟩
    have H7 : Hid (Sl (Value.int .i32) w7 p4 nT T ∧ Sl (Value.int .i32) w7 p6 nT T ∧ Row.Fr (fun _ => False) w0 w7) := ⟨(H5.out.1.keep h6.out.2.2).keep f7, h6.out.2.1.keep f7, (H5.out.2.trans h6.out.2.2).trans f7⟩
    clear f7 h6 H5 h4 F1 F2 F3 HA HT HP hp3 hp5
    go_wp2_with fail
    go_loopw [12] (fun v wr => ∃ x q : Nat, v = .int .i64 x ∧ x ≤ nT ∧ wr = w7.drewN q) (fun v _ => nT - (intOf v).toNat)
    case atStart => exact ⟨0, 0, rfl, by omega, rfl⟩
    case round =>
      obtain ⟨x, q, rfl, hx, hwq⟩ := hrel
      have HWQ : Hid (wr = w7.drewN q) := hwq
      by_cases hxn : x < nT
      · obtain ⟨b4, o4, rfl, c4⟩ := H7.out.1 (by omega)
        obtain ⟨b6, o6, rfl, c6⟩ := H7.out.2.1 (by omega)
        have e4 : wr.cell? ⟨b4, o4 + x, none⟩ = some (.int .i32 T[x]!) := by rw [hwq]; exact c4 x hxn
        have e6 : wr.cell? ⟨b6, o6 + x, none⟩ = some (.int .i32 T[x]!) := by rw [hwq]; exact c6 x hxn
        clear c4 c6 hwq
        generalize T[x]! = tx at e4 e6
        have i1 : (x : Int) < (nT : Int) := by omega
        go_wp2_with fail
        go_quiet (fail)
        go_wp2
        go_roundw
        case rel => exact ⟨x + 1, _, by go_num, by omega, by rw [HWQ.out, World.drewN_drewN]⟩
        case measure => simp [intOf]; omega
      · clear hwq
        go_wp2
        go_ret
        exact ⟨rfl, by rw [HWQ.out]; exact (H7.out.2.2.drewN q).below (Nat.le_refl _) (fun _ _ f => f)⟩
  · clear VA
    go_wp2
    go_ret
    exact ⟨rfl, Below.refl _ _⟩

end Go.Proofs.Qxb6602679a
