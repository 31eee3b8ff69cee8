import Derived.Test.Qxb6602679aDown
namespace Go.Proofs.Qxb6602679a
open Go.ChangeShapes Go.WideShapes Go.ChangeAt Go.RowKit Go.Sort
set_option linter.unusedVariables false

theorem beq_cast (k i : Nat) : ((k : Int) == (i : Int)) = (k == i) := by
  by_cases q : k = i
  · subst q; simp
  · have : ¬ (k : Int) = (i : Int) := by omega
    rw [beq_eq_false_iff_ne.2 this, beq_eq_false_iff_ne.2 q]

theorem range33 (v : Int) (pT pA : Option Addr) (nT cT nA cA : Nat) (w : World) (hT : nT ≤ 65536) (hA : nA ≤ 65536) (v0 : -2147483648 ≤ v) (v1 : v ≤ 2147483647) :
    Calls Try.prog 33 #[.int .i32 v, .slice pT nT cT, .slice pA nA cA] w fun e w' => e = .returned (.bool (decide (0 ≤ v ∧ v < nT ∧ v < nA))) ∧ w' = w := by
  by_cases h1 : 0 ≤ v
  · by_cases h2 : v < nT
    · by_cases h3 : v < nA
      · have e : decide (0 ≤ v ∧ v < nT ∧ v < nA) = true := decide_eq_true ⟨h1, h2, h3⟩
        rw [e]
        clear e
        go_enter Try.func33, Try.ntmps33
        go_wp2
        go_ret
        exact ⟨rfl, rfl⟩
      · have e : decide (0 ≤ v ∧ v < nT ∧ v < nA) = false := decide_eq_false fun h => h3 h.2.2
        rw [e]
        clear e
        go_enter Try.func33, Try.ntmps33
        go_wp2
        go_ret
        exact ⟨rfl, rfl⟩
    · have e : decide (0 ≤ v ∧ v < nT ∧ v < nA) = false := decide_eq_false fun h => h2 h.2.1
      rw [e]
      clear e
      go_enter Try.func33, Try.ntmps33
      go_wp2
      go_ret
      exact ⟨rfl, rfl⟩
  · have e : decide (0 ≤ v ∧ v < nT ∧ v < nA) = false := decide_eq_false fun h => h1 h.1
    rw [e]
    clear e
    go_enter Try.func33, Try.ntmps33
    go_wp2
    go_ret
    exact ⟨rfl, rfl⟩

theorem sub22 (i j : Nat) (w : World) (hi : i ≤ 65536) (hj : j ≤ 65536) : Calls Try.prog 22 #[.int .i64 i, .int .i64 j] w fun e w' => e = .returned (.bool (Hp.sub i j)) ∧ w' = w := by
  go_enter Try.func22, Try.ntmps22
  go_wp2
  go_loop [1] (fun v => ∃ k : Nat, v = .int .i64 k ∧ k ≤ 65536 ∧ Hid (Hp.sub i k = Hp.sub i j)) (fun v => (intOf v).toNat)
  case atStart => exact ⟨j, rfl, hj, rfl⟩
  case round =>
    obtain ⟨k, rfl, k1, hk⟩ := hrel
    by_cases h : i < k
    · have e : Hid (Hp.sub i ((k - 1) / 2) = Hp.sub i j) := by rw [← Hp.sub_gt h]; exact hk.out
      go_wp2
      go_round
      case rel => exact ⟨(k - 1) / 2, by go_num, by omega, e⟩
      case measure => simp [intOf]; omega
    · have e : Hid (((k : Int) == (i : Int)) = Hp.sub i j) := by
        rw [← hk.out, Hp.sub_le (by omega)]
        exact beq_cast k i
      go_wp2
      go_ret
      exact ⟨by rw [← e.out]; rfl, rfl⟩

theorem Try.info4 : (Try.prog.info? 4).map (fun i => (i.zero, i.size, i.bytes)) = some (some (.bool false), 1, 1) := by kernel_rfl

/-- Every entry is an index into both, and none stands twice. -/
def Dist (H : Array Int) (n nT nA : Nat) : Prop := (∀ j : Nat, j < n → 0 ≤ H[j]! ∧ H[j]! < nT ∧ H[j]! < nA) ∧ ∀ j k : Nat, j < k → k < n → H[j]! ≠ H[k]!

set_option maxHeartbeats 1000000 in
/-- 'satb1Distinct': where it says yes. -/
theorem dist31 (b off n c : Nat) (pT pA : Option Addr) (nT cT nA cA : Nat) (H : Array Int) (w : World) (hn : n ≤ 65536) (hT : nT ≤ 65536) (hA : nA ≤ 65536)
    (hc : ∀ j : Nat, j < n → w.cell? ⟨b, off + j, none⟩ = some (.int .i32 H[j]!)) (hw : ∀ j : Nat, j < n → -2147483648 ≤ H[j]! ∧ H[j]! ≤ 2147483647) :
    Calls Try.prog 31 #[.slice (some ⟨b, off, none⟩) n c, .slice pT nT cT, .slice pA nA cA] w fun e w' => ∃ r : Bool, e = .returned (.bool r) ∧ (r = true → Dist H n nT nA) ∧ Row.Fr (fun _ => False) w w' := by
  obtain ⟨G, hG⟩ : ∃ G : Nat → Int, ∀ j, G j = H[j]! := ⟨fun j => H[j]!, fun _ => rfl⟩
  have HG : Hid (∀ j, G j = H[j]!) := hG
  have HC : Hid (∀ j : Nat, j < n → w.cell? ⟨b, off + j, none⟩ = some (.int .i32 (G j))) := fun j hj => by rw [hG]; exact hc j hj
  have HW : Hid (∀ j : Nat, j < n → -2147483648 ≤ G j ∧ G j ≤ 2147483647) := fun j hj => by rw [hG]; exact hw j hj
  clear hc hw hG
  obtain ⟨B, hB⟩ : ∃ B, w.heap.size = B := ⟨_, rfl⟩
  have HB : Hid (w.heap.size = B) := hB
  have M0 : Holds Value.bool (w.alloc (.cells (Array.replicate nT (.bool false)) 4)) B 0 (Array.replicate nT false) := by rw [← hB]; exact Row.holds_made (enc := Value.bool) w nT false 4
  go_enter Try.func31, Try.ntmps31
  go_wp2_with (at_make; refine Row.wpList_make_row _ rfl _ _ 51 rfl 4 (.bool false) 1 Try.underlying51 Try.info4 rfl _ _ _ _ nT rfl rfl rfl rfl (by omega) (by omega) ?_)
  clear hB
  go_loopw [8] (fun v wr => ∃ (k : Nat) (S : Array Bool), v = .int .i64 k ∧ k ≤ n ∧ Hid (S.size = nT) ∧ Hid (Holds Value.bool wr B 0 S) ∧ Hid (Row.Fr (fun _ => False) w wr) ∧ Hid ((∀ j : Nat, j < k → 0 ≤ G j ∧ G j < nT ∧ G j < nA) ∧ (∀ j l : Nat, j < l → l < k → G j ≠ G l) ∧ (∀ x : Nat, x < nT → S[x]! = false → ∀ j : Nat, j < k → G j ≠ x)))
    (fun v _ => n - (intOf v).toNat)
  case atStart => exact ⟨0, _, rfl, by omega, by simp [Hid], M0, (Row.Fr.refl _ _).alloc _, fun j hj => by omega, fun j l h1 h2 => by omega, fun x _ _ j hj => by omega⟩
  case round =>
    clear M0
    obtain ⟨k, S, rfl, hk, hS, hM, hfr, hI⟩ := hrel
    by_cases hlt : k < n
    · have ck : wr.cell? ⟨b, off + k, none⟩ = some (.int .i32 (G k)) := by
        have := HC.out k hlt
        rw [hfr.out.cell (p := ⟨b, off + k, none⟩) (World.block_lt_of_cell? _ _ this) (fun f => f)]; exact this
      obtain ⟨w0, w1⟩ := HW.out k hlt
      generalize hy : G k = y at ck w0 w1
      have HY : Hid (G k = y) := hy
      clear hy
      by_cases hr : 0 ≤ y ∧ y < nT ∧ y < nA
      · have R := fun W => range33 y pT pA nT cT nA cA W hT hA w0 w1
        rw [decide_eq_true hr] at R
        have HR : Hid (∀ W, Calls Try.prog 33 #[.int .i32 y, .slice pT nT cT, .slice pA nA cA] W fun e w' => e = .returned (.bool true) ∧ w' = W) := R
        clear R
        obtain ⟨y0, y1, y2⟩ := hr
        obtain ⟨x, rfl⟩ := Int.eq_ofNat_of_zero_le y0
        have hxT : x < nT := by omega
        obtain ⟨cx, fx⟩ := holds_at hM.out (t := x) (by rw [hS.out]; exact hxT)
        generalize hb : S[x]! = b at cx
        have HBx : Hid (S[x]! = b) := hb
        clear hb
        cases b with
        | true =>
          go_wp2_with fail
          refine (HR.out _).mono ?_
          rintro e w' ⟨rfl, rfl⟩
          go_wp2
          go_ret
          exact ⟨false, rfl, (fun h => by cases h), hfr.out⟩
        | false =>
          have HN : Hid (Holds Value.bool (wr.setCell ⟨B, x, none⟩ (.bool true)) B 0 (S.setIfInBounds x true)) := holds_put (enc := Value.bool) hM.out (by rw [hS.out]; exact hxT) true
          have HF : Hid (Row.Fr (fun _ => False) w (wr.setCell ⟨B, x, none⟩ (.bool true))) := hfr.out.setCell (.inr (by show w.heap.size ≤ B; rw [HB.out]; exact Nat.le_refl _)) _
          have HI : Hid ((∀ j : Nat, j < k + 1 → 0 ≤ G j ∧ G j < nT ∧ G j < nA) ∧ (∀ j l : Nat, j < l → l < k + 1 → G j ≠ G l) ∧ (∀ z : Nat, z < nT → (S.setIfInBounds x true)[z]! = false → ∀ j : Nat, j < k + 1 → G j ≠ z)) := by
            obtain ⟨a1, a2, a3⟩ := hI.out
            refine ⟨fun j hj => ?_, fun j l h1 h2 => ?_, fun z hz he j hj => ?_⟩
            · by_cases e : j = k
              · rw [e, HY.out]; omega
              · exact a1 j (by omega)
            · by_cases e : l = k
              · rw [e, HY.out]; exact a3 x hxT HBx.out j (by omega)
              · exact a2 j l h1 (by omega)
            · have zx : z ≠ x := by rintro rfl; rw [getElem!_set_same S z true (by rw [hS.out]; exact hxT)] at he; cases he
              rw [getElem!_set_other S x z true zx] at he
              by_cases e : j = k
              · rw [e, HY.out]; omega
              · exact a3 z hz he j (by omega)
          go_wp2_with fail
          refine (HR.out _).mono ?_
          rintro e w' ⟨rfl, rfl⟩
          go_wp2
          go_roundw
          case rel => exact ⟨k + 1, _, by go_num, by omega, by rw [Array.size_setIfInBounds]; exact hS.out, HN, HF, HI⟩
          case measure => simp [intOf]; omega
      · have R := fun W => range33 y pT pA nT cT nA cA W hT hA w0 w1
        rw [decide_eq_false hr] at R
        have HR : Hid (∀ W, Calls Try.prog 33 #[.int .i32 y, .slice pT nT cT, .slice pA nA cA] W fun e w' => e = .returned (.bool false) ∧ w' = W) := R
        clear R hr
        go_wp2_with fail
        refine (HR.out _).mono ?_
        rintro e w' ⟨rfl, rfl⟩
        go_wp2
        go_ret
        exact ⟨false, rfl, (fun h => by cases h), hfr.out⟩
    · go_wp2
      go_ret
      refine ⟨true, rfl, fun _ => ⟨fun j hj => ?_, fun j l h1 h2 => ?_⟩, hfr.out⟩
      · rw [← HG.out]; exact hI.out.1 j (by omega)
      · rw [← HG.out, ← HG.out]; exact hI.out.2.1 j l h1 (by omega)

end Go.Proofs.Qxb6602679a
