import Derived.Test.Qxb6602679aRows
import Derived.Test.Qxb6602679aRow
import Derived.Test.Qxb6602679aFloat
import Derived.Laws.FloatArith
/-! The three clones, and the length guards. -/
namespace Go.Proofs.Qxb6602679a
open Go.ChangeShapes Go.WideShapes Go.ChangeAt Go.RowKit Go.Sort
attribute [local go_sem] Row.run_store_float


theorem Try.info25 : (Try.prog.info? 25).map (fun i => (i.zero, i.size, i.bytes)) = some (some (.float .f32 0), 1, 4) := by kernel_rfl
theorem nil_nil22 (W : World) : (binOp .eql 22 (.slice none 0 0) (.slice none 0 0)).run Try.prog W = .ok (.bool true) W := by kernel_rfl
theorem some_nil22 (x : Addr) (n c : Nat) (W : World) : (binOp .eql 22 (.slice (some x) n c) (.slice none 0 0)).run Try.prog W = .ok (.bool false) W := by kernel_rfl

theorem clone10_nil (w : World) : Calls Try.prog 10 #[.slice none 0 0] w fun e w' => e = .returned (.slice none 0 0) ∧ w' = w := by
  have hnil := nil_nil22
  go_enter Try.func10, Try.ntmps10
  go_wp2
  go_ret
  exact ⟨rfl, rfl⟩

theorem clone10_empty (x : Addr) (c : Nat) (w : World) :
    Calls Try.prog 10 #[.slice (some x) 0 c] w fun e w' => e = .returned (.slice (some ⟨w.heap.size, 0, none⟩) 0 0) ∧ w' = w.alloc (.cells #[] 25) := by
  have hnil := some_nil22
  go_enter Try.func10, Try.ntmps10
  go_wp2_with (at_make; refine Row.wpList_make_row _ rfl _ _ 22 rfl 25 (.float .f32 0) 4 Try.underlying22 Try.info25 rfl _ _ _ _ 0 rfl rfl rfl rfl (by omega) (by omega) ?_)
  go_loop [4] (fun i => i = .int .i64 0) (fun _ => 0)
  case atStart => rfl
  case round =>
    obtain rfl := hrel
    go_wp2
    go_ret
    exact ⟨rfl, rfl⟩

theorem clone10 (b off c : Nat) (d : Array Nat) (w : World) (hn : d.size ≤ 65536)
    (hc : ∀ j, j < d.size → w.cell? ⟨b, off + j, none⟩ = some (.float .f32 d[j]!)) :
    Calls Try.prog 10 #[.slice (some ⟨b, off, none⟩) d.size c] w fun e w' => e = .returned (.slice (some ⟨w.heap.size, 0, none⟩) d.size d.size) ∧ w' = w.alloc (.cells (d.map (Value.float .f32)) 25) := by
  obtain ⟨n, hnd⟩ : ∃ n, d.size = n := ⟨_, rfl⟩
  obtain ⟨G, hG⟩ : ∃ G : Nat → Nat, ∀ j, G j = d[j]! := ⟨fun j => d[j]!, fun _ => rfl⟩
  obtain ⟨C, hC⟩ : ∃ C : Nat → Array Value, ∀ k, C k = Row.cpTo (Value.float .f32) d 0 k := ⟨_, fun _ => rfl⟩
  have hfull : C n = d.map (Value.float .f32) := by rw [hC, ← hnd]; exact Row.cpTo_full _ d 0
  rw [← hfull, hnd]
  have C0 : Array.replicate n (.float .f32 0) = C 0 := by rw [hC, ← hnd]; rfl
  have CS : ∀ k, (C k).setIfInBounds k (.float .f32 (G k)) = C (k + 1) := fun k => by rw [hC, hC, hG]; rfl
  have CZ : ∀ k, (C k).size = n := fun k => by rw [hC, Row.cpTo_size, hnd]
  have CG : ∀ k, k < n → (C k)[k]? = some (.float .f32 0) := fun k hk => by rw [hC, Row.cpTo_get _ d 0 k k (by omega), if_neg (by omega)]
  have HC : Hid (∀ j, j < n → w.cell? ⟨b, off + j, none⟩ = some (.float .f32 (G j))) := fun j hj => by rw [hG]; exact hc j (by omega)
  have H0 : Hid (Array.replicate n (.float .f32 0) = C 0) := C0
  have HS : Hid (∀ k, (C k).setIfInBounds k (.float .f32 (G k)) = C (k + 1)) := CS
  have HZ : Hid (∀ k, (C k).size = n) := CZ
  have HG : Hid (∀ k, k < n → (C k)[k]? = some (.float .f32 0)) := CG
  rw [hnd] at hn
  clear hc hG hC hfull C0 CS CZ CG hnd
  clear d
  have hnil := some_nil22
  go_enter Try.func10, Try.ntmps10
  go_wp2_with (at_make; refine Row.wpList_make_row _ rfl _ _ 22 rfl 25 (.float .f32 0) 4 Try.underlying22 Try.info25 rfl _ _ _ _ n rfl rfl rfl rfl (by omega) (by omega) ?_)
  go_loopw [4] (fun i wr => ∃ k : Nat, k ≤ n ∧ i = .int .i64 k ∧ wr = w.alloc (.cells (C k) 25)) (fun i _ => n - (intOf i).toNat)
  case atStart => exact ⟨0, Nat.zero_le _, rfl, by rw [H0.out]⟩
  case round =>
    obtain ⟨k, hk, rfl, rfl⟩ := hrel
    by_cases hlt : k < n
    · have cm := HC.out k hlt
      have hb : b < w.heap.size := World.block_lt_of_cell? _ _ cm
      have sz := HZ.out k
      have cw := HG.out k hlt
      go_wp2
      go_roundw
      case rel => exact ⟨k + 1, by omega, by go_num, by rw [HS.out]⟩
      case measure => simp [intOf]; omega
    · have : k = n := by omega
      subst this
      go_wp2
      go_ret
      exact ⟨rfl, rfl⟩

theorem Try.info40 : (Try.prog.info? 40).map (fun i => (i.zero, i.size, i.bytes)) = some (some (.float .f64 0), 1, 8) := by kernel_rfl
theorem nil_nil31 (W : World) : (binOp .eql 31 (.slice none 0 0) (.slice none 0 0)).run Try.prog W = .ok (.bool true) W := by kernel_rfl
theorem some_nil31 (x : Addr) (n c : Nat) (W : World) : (binOp .eql 31 (.slice (some x) n c) (.slice none 0 0)).run Try.prog W = .ok (.bool false) W := by kernel_rfl

theorem clone19_nil (w : World) : Calls Try.prog 19 #[.slice none 0 0] w fun e w' => e = .returned (.slice none 0 0) ∧ w' = w := by
  have hnil := nil_nil31
  go_enter Try.func19, Try.ntmps19
  go_wp2
  go_ret
  exact ⟨rfl, rfl⟩

theorem clone19_empty (x : Addr) (c : Nat) (w : World) :
    Calls Try.prog 19 #[.slice (some x) 0 c] w fun e w' => e = .returned (.slice (some ⟨w.heap.size, 0, none⟩) 0 0) ∧ w' = w.alloc (.cells #[] 40) := by
  have hnil := some_nil31
  go_enter Try.func19, Try.ntmps19
  go_wp2_with (at_make; refine Row.wpList_make_row _ rfl _ _ 31 rfl 40 (.float .f64 0) 8 Try.underlying31 Try.info40 rfl _ _ _ _ 0 rfl rfl rfl rfl (by omega) (by omega) ?_)
  go_loop [4] (fun i => i = .int .i64 0) (fun _ => 0)
  case atStart => rfl
  case round =>
    obtain rfl := hrel
    go_wp2
    go_ret
    exact ⟨rfl, rfl⟩

theorem clone19 (b off c : Nat) (d : Array Nat) (w : World) (hn : d.size ≤ 65536)
    (hc : ∀ j, j < d.size → w.cell? ⟨b, off + j, none⟩ = some (.float .f64 d[j]!)) :
    Calls Try.prog 19 #[.slice (some ⟨b, off, none⟩) d.size c] w fun e w' => e = .returned (.slice (some ⟨w.heap.size, 0, none⟩) d.size d.size) ∧ w' = w.alloc (.cells (d.map (Value.float .f64)) 40) := by
  obtain ⟨n, hnd⟩ : ∃ n, d.size = n := ⟨_, rfl⟩
  obtain ⟨G, hG⟩ : ∃ G : Nat → Nat, ∀ j, G j = d[j]! := ⟨fun j => d[j]!, fun _ => rfl⟩
  obtain ⟨C, hC⟩ : ∃ C : Nat → Array Value, ∀ k, C k = Row.cpTo (Value.float .f64) d 0 k := ⟨_, fun _ => rfl⟩
  have hfull : C n = d.map (Value.float .f64) := by rw [hC, ← hnd]; exact Row.cpTo_full _ d 0
  rw [← hfull, hnd]
  have C0 : Array.replicate n (.float .f64 0) = C 0 := by rw [hC, ← hnd]; rfl
  have CS : ∀ k, (C k).setIfInBounds k (.float .f64 (G k)) = C (k + 1) := fun k => by rw [hC, hC, hG]; rfl
  have CZ : ∀ k, (C k).size = n := fun k => by rw [hC, Row.cpTo_size, hnd]
  have CG : ∀ k, k < n → (C k)[k]? = some (.float .f64 0) := fun k hk => by rw [hC, Row.cpTo_get _ d 0 k k (by omega), if_neg (by omega)]
  have HC : Hid (∀ j, j < n → w.cell? ⟨b, off + j, none⟩ = some (.float .f64 (G j))) := fun j hj => by rw [hG]; exact hc j (by omega)
  have H0 : Hid (Array.replicate n (.float .f64 0) = C 0) := C0
  have HS : Hid (∀ k, (C k).setIfInBounds k (.float .f64 (G k)) = C (k + 1)) := CS
  have HZ : Hid (∀ k, (C k).size = n) := CZ
  have HG : Hid (∀ k, k < n → (C k)[k]? = some (.float .f64 0)) := CG
  rw [hnd] at hn
  clear hc hG hC hfull C0 CS CZ CG hnd
  clear d
  have hnil := some_nil31
  go_enter Try.func19, Try.ntmps19
  go_wp2_with (at_make; refine Row.wpList_make_row _ rfl _ _ 31 rfl 40 (.float .f64 0) 8 Try.underlying31 Try.info40 rfl _ _ _ _ n rfl rfl rfl rfl (by omega) (by omega) ?_)
  go_loopw [4] (fun i wr => ∃ k : Nat, k ≤ n ∧ i = .int .i64 k ∧ wr = w.alloc (.cells (C k) 40)) (fun i _ => n - (intOf i).toNat)
  case atStart => exact ⟨0, Nat.zero_le _, rfl, by rw [H0.out]⟩
  case round =>
    obtain ⟨k, hk, rfl, rfl⟩ := hrel
    by_cases hlt : k < n
    · have cm := HC.out k hlt
      have hb : b < w.heap.size := World.block_lt_of_cell? _ _ cm
      have sz := HZ.out k
      have cw := HG.out k hlt
      go_wp2
      go_roundw
      case rel => exact ⟨k + 1, by omega, by go_num, by rw [HS.out]⟩
      case measure => simp [intOf]; omega
    · have : k = n := by omega
      subst this
      go_wp2
      go_ret
      exact ⟨rfl, rfl⟩

theorem Try.info21 : (Try.prog.info? 21).map (fun i => (i.zero, i.size, i.bytes)) = some (some (.int .i32 0), 1, 4) := by kernel_rfl
theorem nil_nil32 (W : World) : (binOp .eql 32 (.slice none 0 0) (.slice none 0 0)).run Try.prog W = .ok (.bool true) W := by kernel_rfl
theorem some_nil32 (x : Addr) (n c : Nat) (W : World) : (binOp .eql 32 (.slice (some x) n c) (.slice none 0 0)).run Try.prog W = .ok (.bool false) W := by kernel_rfl

theorem clone20_nil (w : World) : Calls Try.prog 20 #[.slice none 0 0] w fun e w' => e = .returned (.slice none 0 0) ∧ w' = w := by
  have hnil := nil_nil32
  go_enter Try.func20, Try.ntmps20
  go_wp2
  go_ret
  exact ⟨rfl, rfl⟩

theorem clone20_empty (x : Addr) (c : Nat) (w : World) :
    Calls Try.prog 20 #[.slice (some x) 0 c] w fun e w' => e = .returned (.slice (some ⟨w.heap.size, 0, none⟩) 0 0) ∧ w' = w.alloc (.cells #[] 21) := by
  have hnil := some_nil32
  go_enter Try.func20, Try.ntmps20
  go_wp2_with (at_make; refine Row.wpList_make_row _ rfl _ _ 32 rfl 21 (.int .i32 0) 4 Try.underlying32 Try.info21 rfl _ _ _ _ 0 rfl rfl rfl rfl (by omega) (by omega) ?_)
  go_loop [4] (fun i => i = .int .i64 0) (fun _ => 0)
  case atStart => rfl
  case round =>
    obtain rfl := hrel
    go_wp2
    go_ret
    exact ⟨rfl, rfl⟩

theorem clone20 (b off c : Nat) (d : Array Int) (w : World) (hn : d.size ≤ 65536)
    (hc : ∀ j, j < d.size → w.cell? ⟨b, off + j, none⟩ = some (.int .i32 d[j]!)) :
    Calls Try.prog 20 #[.slice (some ⟨b, off, none⟩) d.size c] w fun e w' => e = .returned (.slice (some ⟨w.heap.size, 0, none⟩) d.size d.size) ∧ w' = w.alloc (.cells (d.map (Value.int .i32)) 21) := by
  obtain ⟨n, hnd⟩ : ∃ n, d.size = n := ⟨_, rfl⟩
  obtain ⟨G, hG⟩ : ∃ G : Nat → Int, ∀ j, G j = d[j]! := ⟨fun j => d[j]!, fun _ => rfl⟩
  obtain ⟨C, hC⟩ : ∃ C : Nat → Array Value, ∀ k, C k = Row.cpTo (Value.int .i32) d 0 k := ⟨_, fun _ => rfl⟩
  have hfull : C n = d.map (Value.int .i32) := by rw [hC, ← hnd]; exact Row.cpTo_full _ d 0
  rw [← hfull, hnd]
  have C0 : Array.replicate n (.int .i32 0) = C 0 := by rw [hC, ← hnd]; rfl
  have CS : ∀ k, (C k).setIfInBounds k (.int .i32 (G k)) = C (k + 1) := fun k => by rw [hC, hC, hG]; rfl
  have CZ : ∀ k, (C k).size = n := fun k => by rw [hC, Row.cpTo_size, hnd]
  have CG : ∀ k, k < n → (C k)[k]? = some (.int .i32 0) := fun k hk => by rw [hC, Row.cpTo_get _ d 0 k k (by omega), if_neg (by omega)]
  have HC : Hid (∀ j, j < n → w.cell? ⟨b, off + j, none⟩ = some (.int .i32 (G j))) := fun j hj => by rw [hG]; exact hc j (by omega)
  have H0 : Hid (Array.replicate n (.int .i32 0) = C 0) := C0
  have HS : Hid (∀ k, (C k).setIfInBounds k (.int .i32 (G k)) = C (k + 1)) := CS
  have HZ : Hid (∀ k, (C k).size = n) := CZ
  have HG : Hid (∀ k, k < n → (C k)[k]? = some (.int .i32 0)) := CG
  rw [hnd] at hn
  clear hc hG hC hfull C0 CS CZ CG hnd
  clear d
  have hnil := some_nil32
  go_enter Try.func20, Try.ntmps20
  go_wp2_with (at_make; refine Row.wpList_make_row _ rfl _ _ 32 rfl 21 (.int .i32 0) 4 Try.underlying32 Try.info21 rfl _ _ _ _ n rfl rfl rfl rfl (by omega) (by omega) ?_)
  go_loopw [4] (fun i wr => ∃ k : Nat, k ≤ n ∧ i = .int .i64 k ∧ wr = w.alloc (.cells (C k) 21)) (fun i _ => n - (intOf i).toNat)
  case atStart => exact ⟨0, Nat.zero_le _, rfl, by rw [H0.out]⟩
  case round =>
    obtain ⟨k, hk, rfl, rfl⟩ := hrel
    by_cases hlt : k < n
    · have cm := HC.out k hlt
      have hb : b < w.heap.size := World.block_lt_of_cell? _ _ cm
      have sz := HZ.out k
      have cw := HG.out k hlt
      go_wp2
      go_roundw
      case rel => exact ⟨k + 1, by omega, by go_num, by rw [HS.out]⟩
      case measure => simp [intOf]; omega
    · have : k = n := by omega
      subst this
      go_wp2
      go_ret
      exact ⟨rfl, rfl⟩

/-- The clone as a new block of its own. -/
theorem clone10A (b off c n : Nat) (d : Array Nat) (w : World) (hs : d.size = n) (hn : n ≤ 65536)
    (hc : ∀ j : Nat, j < n → w.cell? ⟨b, off + j, none⟩ = some (.float .f32 d[j]!)) :
    Calls Try.prog 10 #[.slice (some ⟨b, off, none⟩) n c] w fun e w' => ∃ B, e = .returned (.slice (some ⟨B, 0, none⟩) n n) ∧ w.heap.size ≤ B ∧ B < w'.heap.size ∧ Holds (Value.float .f32) w' B 0 d ∧ Row.Fr (fun _ => False) w w' := by
  subst hs
  refine (clone10 b off c d w hn hc).mono ?_
  rintro e w' ⟨rfl, rfl⟩
  exact ⟨_, rfl, Nat.le_refl _, by simp, Row.holds_row w d 25, (Row.Fr.refl _ _).alloc _⟩

/-- The clone of a slice without elements, nil or not. -/
theorem clone10_none (p : Option Addr) (c : Nat) (w : World) (hp : (p = none ∧ c = 0) ∨ ∃ x, p = some x) :
    Calls Try.prog 10 #[.slice p 0 c] w fun e w' => ∃ p', e = .returned (.slice p' 0 0) ∧ Hid ((p' = none ∧ 0 = 0) ∨ ∃ x, p' = some x) ∧ Row.Fr (fun _ => False) w w' := by
  rcases hp with ⟨rfl, rfl⟩ | ⟨x, rfl⟩
  · refine (clone10_nil w).mono ?_
    rintro e w' ⟨rfl, rfl⟩
    exact ⟨none, rfl, .inl ⟨rfl, rfl⟩, Row.Fr.refl _ _⟩
  · refine (clone10_empty x c w).mono ?_
    rintro e w' ⟨rfl, rfl⟩
    exact ⟨_, rfl, .inr ⟨_, rfl⟩, (Row.Fr.refl _ _).alloc _⟩

/-- The clone as a new block of its own. -/
theorem clone19A (b off c n : Nat) (d : Array Nat) (w : World) (hs : d.size = n) (hn : n ≤ 65536)
    (hc : ∀ j : Nat, j < n → w.cell? ⟨b, off + j, none⟩ = some (.float .f64 d[j]!)) :
    Calls Try.prog 19 #[.slice (some ⟨b, off, none⟩) n c] w fun e w' => ∃ B, e = .returned (.slice (some ⟨B, 0, none⟩) n n) ∧ w.heap.size ≤ B ∧ B < w'.heap.size ∧ Holds (Value.float .f64) w' B 0 d ∧ Row.Fr (fun _ => False) w w' := by
  subst hs
  refine (clone19 b off c d w hn hc).mono ?_
  rintro e w' ⟨rfl, rfl⟩
  exact ⟨_, rfl, Nat.le_refl _, by simp, Row.holds_row w d 40, (Row.Fr.refl _ _).alloc _⟩

/-- The clone of a slice without elements, nil or not. -/
theorem clone19_none (p : Option Addr) (c : Nat) (w : World) (hp : (p = none ∧ c = 0) ∨ ∃ x, p = some x) :
    Calls Try.prog 19 #[.slice p 0 c] w fun e w' => ∃ p', e = .returned (.slice p' 0 0) ∧ Hid ((p' = none ∧ 0 = 0) ∨ ∃ x, p' = some x) ∧ Row.Fr (fun _ => False) w w' := by
  rcases hp with ⟨rfl, rfl⟩ | ⟨x, rfl⟩
  · refine (clone19_nil w).mono ?_
    rintro e w' ⟨rfl, rfl⟩
    exact ⟨none, rfl, .inl ⟨rfl, rfl⟩, Row.Fr.refl _ _⟩
  · refine (clone19_empty x c w).mono ?_
    rintro e w' ⟨rfl, rfl⟩
    exact ⟨_, rfl, .inr ⟨_, rfl⟩, (Row.Fr.refl _ _).alloc _⟩

/-- The clone as a new block of its own. -/
theorem clone20A (b off c n : Nat) (d : Array Int) (w : World) (hs : d.size = n) (hn : n ≤ 65536)
    (hc : ∀ j : Nat, j < n → w.cell? ⟨b, off + j, none⟩ = some (.int .i32 d[j]!)) :
    Calls Try.prog 20 #[.slice (some ⟨b, off, none⟩) n c] w fun e w' => ∃ B, e = .returned (.slice (some ⟨B, 0, none⟩) n n) ∧ w.heap.size ≤ B ∧ B < w'.heap.size ∧ Holds (Value.int .i32) w' B 0 d ∧ Row.Fr (fun _ => False) w w' := by
  subst hs
  refine (clone20 b off c d w hn hc).mono ?_
  rintro e w' ⟨rfl, rfl⟩
  exact ⟨_, rfl, Nat.le_refl _, by simp, Row.holds_row w d 21, (Row.Fr.refl _ _).alloc _⟩

/-- The clone of a slice without elements, nil or not. -/
theorem clone20_none (p : Option Addr) (c : Nat) (w : World) (hp : (p = none ∧ c = 0) ∨ ∃ x, p = some x) :
    Calls Try.prog 20 #[.slice p 0 c] w fun e w' => ∃ p', e = .returned (.slice p' 0 0) ∧ Hid ((p' = none ∧ 0 = 0) ∨ ∃ x, p' = some x) ∧ Row.Fr (fun _ => False) w w' := by
  rcases hp with ⟨rfl, rfl⟩ | ⟨x, rfl⟩
  · refine (clone20_nil w).mono ?_
    rintro e w' ⟨rfl, rfl⟩
    exact ⟨none, rfl, .inl ⟨rfl, rfl⟩, Row.Fr.refl _ _⟩
  · refine (clone20_empty x c w).mono ?_
    rintro e w' ⟨rfl, rfl⟩
    exact ⟨_, rfl, .inr ⟨_, rfl⟩, (Row.Fr.refl _ _).alloc _⟩

end Go.Proofs.Qxb6602679a
