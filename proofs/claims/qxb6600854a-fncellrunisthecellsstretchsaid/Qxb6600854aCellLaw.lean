import Derived.Test.Qxb6600854aCopy
namespace Go.Proofs.Qxb6600854a.Cell
open Go.ChangeShapes Go.WideShapes Go.ChangeAt Go.RowKit

theorem sorted_of_adj (f : Nat → Int) (n : Nat) (h : ∀ j, j + 1 < n → f j ≤ f (j + 1)) : ∀ i j, i ≤ j → j < n → f i ≤ f j := by
  intro i j hij
  induction j with
  | zero => intro _; obtain rfl : i = 0 := by omega
            exact Int.le_refl _
  | succ j ih =>
    intro hj
    by_cases e : i = j + 1
    · subst e; exact Int.le_refl _
    · have a := ih (by omega) (by omega)
      have b := h j hj
      omega

/-- No key: a nil slice, or one of no length. -/
theorem law_none (p : Option Addr) (c : Nat) (a1 a2 : Int) (w : World) (hp : (p = none ∧ c = 0) ∨ ∃ x, p = some x) (h2 : 0 ≤ a2) :
    Calls Try.prog 3 #[.slice p 0 c, .int .i64 a1, .int .i64 a2] w fun e w' => e = .returned (.bool true) ∧ Below w.heap.size w w' := by
  obtain ⟨p', w1, hcopy, hp', hb⟩ : ∃ p' w1, (Calls Try.prog 10 #[.slice p 0 c] w fun e w' => e = .returned (.slice p' 0 0) ∧ w' = w1) ∧ (p' = none ∨ ∃ b, p' = some ⟨b, 0, none⟩) ∧ Below w.heap.size w w1 := by
    rcases hp with ⟨rfl, rfl⟩ | ⟨x, rfl⟩
    · exact ⟨none, w, copy10_nil w, .inl rfl, Below.refl _ _⟩
    · exact ⟨_, _, copy10_empty x c w, .inr ⟨_, rfl⟩, (Below.refl _ _).alloc (Nat.le_refl _) _⟩
  have HP : Hid (p' = none ∨ ∃ b, p' = some ⟨b, 0, none⟩) := hp'
  clear hp hp'
  by_cases hout : a1 < 0 ∨ 2097151 < a1 ∨ 2097151 < a2
  · have H := run11_out p' 0 0 a1 a2 w1 hout
    go_enter Try.func3, Try.ntmps3
    go_wp2_with fail
    refine (bytes9_ok _ _ _ _ _ _ (by omega)).mono ?_
    rintro e w' ⟨rfl, rfl⟩
    go_wp2_with fail
    refine hcopy.mono ?_
    rintro e w' ⟨rfl, rfl⟩
    go_wp2_with fail
    go_loop [7] (fun i => i = .int .i64 1) (fun _ => 0)
    case atStart => rfl
    case round =>
      obtain rfl := hrel
      go_wp2_with fail
      refine H.mono ?_
      rintro e w' ⟨rfl, rfl⟩
      by_cases c1 : a1 < 0
      · go_wp2
        go_ret
        exact ⟨rfl, hb⟩
      by_cases c2 : 2097151 < a1
      · go_wp2
        go_ret
        exact ⟨rfl, hb⟩
      have c3 : 2097151 < a2 := by omega
      clear hout
      go_wp2
      go_ret
      exact ⟨rfl, hb⟩
  · have c1 : 0 ≤ a1 := by omega
    have c2 : a1 ≤ 2097151 := by omega
    have c3 : a2 ≤ 2097151 := by omega
    have H := run11_none p' a1 a2 w1 c1 c2 h2 c3 HP.out
    clear hout
    go_enter Try.func3, Try.ntmps3
    go_wp2_with fail
    refine (bytes9_ok _ _ _ _ _ _ (by omega)).mono ?_
    rintro e w' ⟨rfl, rfl⟩
    go_wp2_with fail
    refine hcopy.mono ?_
    rintro e w' ⟨rfl, rfl⟩
    go_wp2_with fail
    go_loop [7] (fun i => i = .int .i64 1) (fun _ => 0)
    case atStart => rfl
    case round =>
      obtain rfl := hrel
      go_wp2_with fail
      refine H.mono ?_
      rintro e w' ⟨rfl, q, rfl⟩
      go_wp2_with fail
      go_loop [11, 12, 13] (fun s t i => s = .int .i64 0 ∧ t = .int .i64 0 ∧ i = .int .i64 0) (fun _ _ _ => 0)
      case atStart => exact ⟨rfl, rfl, rfl⟩
      case round =>
        obtain ⟨rfl, rfl, rfl⟩ := hrel
        go_wp2
        go_ret
        exact ⟨rfl, Row.below_drewN hb q⟩

set_option maxHeartbeats 1000000 in
/-- At least one key. -/
theorem law_some (b off n c : Nat) (f : Nat → Int) (a1 a2 : Int) (w : World) (h0 : 0 < n) (hn : n ≤ 131072) (h2 : 0 ≤ a2)
    (hc : ∀ j, j < n → w.cell? ⟨b, off + j, none⟩ = some (.int .u64 (f j))) (hz : ∀ j, j < n → 0 ≤ f j ∧ f j < 18446744073709551616) :
    Calls Try.prog 3 #[.slice (some ⟨b, off, none⟩) n c, .int .i64 a1, .int .i64 a2] w fun e w' => e = .returned (.bool true) ∧ Below w.heap.size w w' := by
  obtain ⟨w1, hcopy, hc1, hb⟩ : ∃ w1, (Calls Try.prog 10 #[.slice (some ⟨b, off, none⟩) n c] w fun e w' => e = .returned (.slice (some ⟨w.heap.size, 0, none⟩) n n) ∧ w' = w1) ∧ (∀ j, j < n → w1.cell? ⟨w.heap.size, 0 + j, none⟩ = some (.int .u64 (f j))) ∧ Below w.heap.size w w1 :=
    ⟨_, copy10 b off n c f w hn hc, fun j hj => by rw [Row.cell_row, Row.cpTo_full _ _ _ _ hj], (Below.refl _ _).alloc (Nat.le_refl _) _⟩
  have HC : Hid (∀ j, j < n → w1.cell? ⟨w.heap.size, 0 + j, none⟩ = some (.int .u64 (f j))) := hc1
  have HZ : Hid (∀ j, j < n → 0 ≤ f j ∧ f j < 18446744073709551616) := hz
  have HB : Hid (Below w.heap.size w w1) := hb
  clear hc hz hc1 hb
  generalize hB : w.heap.size = B at *
  have HW : Hid (w.heap.size = B) := hB
  clear hB
  go_enter Try.func3, Try.ntmps3
  go_wp2_with fail
  refine (bytes9_ok _ _ _ _ _ _ (by omega)).mono ?_
  rintro e w' ⟨rfl, rfl⟩
  go_wp2_with fail
  refine hcopy.mono ?_
  rintro e w' ⟨rfl, rfl⟩
  clear hcopy
  go_wp2_with fail
  go_loopw [7] (fun i wr => ∃ k q : Nat, k < n ∧ i = .int .i64 ((k : Int) + 1) ∧ wr = w'.drewN q ∧ Hid (∀ j, j + 1 < k + 1 → f j ≤ f (j + 1))) (fun i _ => n - (intOf i).toNat)
  case atStart => exact ⟨0, 0, h0, rfl, rfl, fun j hj => by omega⟩
  case round =>
    obtain ⟨k, q, hk, rfl, rfl, hj⟩ := hrel
    by_cases hlt : k + 1 < n
    · have cm := HC.out k (by omega)
      have cn := HC.out (k + 1) hlt
      rw [Nat.zero_add] at cm cn
      have i1 : (k : Int) + 1 < (n : Int) := by omega
      have i2 : (k : Int) < (n : Int) := by omega
      by_cases hle : f (k + 1) < f k
      · go_wp2_with fail
        go_quiet (fail)
        go_wp2
        go_ret
        exact ⟨rfl, Row.below_drewN (Row.below_drewN HB.out _) _⟩
      · go_wp2_with fail
        go_quiet (fail)
        go_wp2
        go_roundw
        case rel =>
          refine ⟨k + 1, _, by omega, by go_num, rfl, fun j hj' => ?_⟩
          by_cases e : j = k
          · subst e; omega
          · exact hj.out j (by omega)
        case measure => simp [intOf]; omega
    · have hs := sorted_of_adj f n (fun j hj' => hj.out j (by omega))
      have HS : Hid (∀ i j, i ≤ j → j < n → f i ≤ f j) := hs
      clear hs
      by_cases hout : a1 < 0 ∨ 2097151 < a1 ∨ 2097151 < a2
      · go_wp2_with fail
        refine (run11_out _ _ _ _ _ _ hout).mono ?_
        rintro e w' ⟨rfl, rfl⟩
        by_cases c1 : a1 < 0
        · go_wp2
          go_ret
          exact ⟨rfl, Row.below_drewN HB.out _⟩
        by_cases c2 : 2097151 < a1
        · go_wp2
          go_ret
          exact ⟨rfl, Row.below_drewN HB.out _⟩
        have c3 : 2097151 < a2 := by omega
        clear hout
        go_wp2
        go_ret
        exact ⟨rfl, Row.below_drewN HB.out _⟩
      · have c1 : 0 ≤ a1 := by omega
        have c2 : a1 ≤ 2097151 := by omega
        have c3 : a2 ≤ 2097151 := by omega
        clear hout
        go_wp2_with fail
        refine (run11 B n f a1 a2 (w'.drewN q) hn c1 c2 h2 c3 (by exact HC.out) HZ.out HS.out).mono ?_
        rintro e w'' ⟨m, d, hmd, r1, r2, r3, rfl, q2, rfl⟩
        have R : Hid ((∀ j, j < m → f j / 1048576 < a2 * 2097152 + a1) ∧ (∀ j, m ≤ j → j < m + d → f j / 1048576 = a2 * 2097152 + a1) ∧ (∀ j, m + d ≤ j → j < n → a2 * 2097152 + a1 < f j / 1048576)) := ⟨r1, r2, r3⟩
        clear r1 r2 r3
        go_wp2_with fail
        go_loop [11, 12, 13] (fun s t i => ∃ k s' t' : Nat, k ≤ n ∧ s = .int .i64 s' ∧ t = .int .i64 t' ∧ i = .int .i64 k ∧ s' ≤ k ∧ t' ≤ k ∧ Hid (s' = min k m ∧ t' = min k (m + d) - min k m)) (fun _ _ i => n - (intOf i).toNat)
        case atStart => exact ⟨0, 0, 0, Nat.zero_le _, rfl, rfl, rfl, Nat.le_refl _, Nat.le_refl _, by simp [Hid]⟩
        case round =>
          obtain ⟨k, s', t', hk, rfl, rfl, rfl, l1, l2, hst⟩ := hrel
          by_cases hlt : k < n
          · have cm := HC.out k hlt
            rw [Nat.zero_add] at cm
            obtain ⟨z0, z1⟩ := HZ.out k hlt
            generalize hy : f k = y at cm z0 z1
            have Y : Hid (f k = y) := hy
            clear hy
            by_cases k1 : k < m
            · have t1 : y / 1048576 < a2 * 2097152 + a1 := by have := R.out.1 k k1; rw [Y.out] at this; exact this
              go_wp2
              go_round
              case rel => exact ⟨k + 1, s' + 1, t', by omega, by go_num, rfl, by go_num, by omega, by omega, by have := hst.out; simp only [Hid]; omega⟩
              case measure => simp [intOf]; omega
            by_cases k2 : k < m + d
            · have e1 : y / 1048576 = a2 * 2097152 + a1 := by have := R.out.2.1 k (by omega) k2; rw [Y.out] at this; exact this
              have t1 : ¬ y / 1048576 < a2 * 2097152 + a1 := by omega
              have t2 : (y / 1048576 == a2 * 2097152 + a1) = true := by simp [e1]
              clear e1
              go_wp2
              go_round
              case rel => exact ⟨k + 1, s', t' + 1, by omega, rfl, by go_num, by go_num, by omega, by omega, by have := hst.out; simp only [Hid]; omega⟩
              case measure => simp [intOf]; omega
            · have e1 : a2 * 2097152 + a1 < y / 1048576 := by have := R.out.2.2 k (by omega) hlt; rw [Y.out] at this; exact this
              have t1 : ¬ y / 1048576 < a2 * 2097152 + a1 := by omega
              have t2 : (y / 1048576 == a2 * 2097152 + a1) = false := by rw [beq_eq_false_iff_ne]; omega
              go_wp2
              go_round
              case rel => exact ⟨k + 1, s', t', by omega, rfl, rfl, by go_num, by omega, by omega, by have := hst.out; simp only [Hid]; omega⟩
              case measure => simp [intOf]; omega
          · obtain ⟨rfl, rfl⟩ : s' = m ∧ t' = d := by have := hst.out; omega
            go_wp2
            go_ret
            exact ⟨by simp, Row.below_drewN HB.out _⟩
end Go.Proofs.Qxb6600854a.Cell
