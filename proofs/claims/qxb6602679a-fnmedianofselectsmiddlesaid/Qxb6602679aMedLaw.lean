import Derived.Test.Qxb6602679aSort
import Derived.Test.Qxb6602679aMedWalk
namespace Go.Proofs.Qxb6602679a
open Go.ChangeShapes Go.WideShapes Go.ChangeAt Go.RowKit Go.Sort

namespace Med
def le32 (x y : Nat) : Bool := FloatKind.f32.format.order x y == some .lt || FloatKind.f32.format.order x y == some .eq
def ge32 (x y : Nat) : Bool := FloatKind.f32.format.order x y == some .gt || FloatKind.f32.format.order x y == some .eq
theorem le_nn {x y : Nat} (hx : nn x) (hy : nn y) : le32 x y = decide (kv x ≤ kv y) := by
  unfold le32
  rw [order_nn hx hy, Fl.compare_int]
  by_cases h : kv x < kv y
  · have : kv x ≤ kv y := by omega
    simp [h, this]
  · by_cases e : kv x = kv y
    · simp [e]
    · have : ¬ kv x ≤ kv y := by omega
      simp [h, e, this]
theorem ge_nn {x y : Nat} (hx : nn x) (hy : nn y) : ge32 x y = decide (kv y ≤ kv x) := by
  unfold ge32
  rw [order_nn hx hy, Fl.compare_int]
  by_cases h : kv x < kv y
  · have : ¬ kv y ≤ kv x := by omega
    simp [h, this]
  · by_cases e : kv x = kv y
    · simp [e]
    · have : kv y ≤ kv x := by omega
      simp [h, e, this]
end Med

theorem C_le {d : Array Nat} {p : Nat → Bool} {k : Nat} : ∀ n, (∀ t : Nat, k ≤ t → t < n → p d[t]! = false) → Ms.C d p n ≤ min n k
  | 0, _ => by simp [Ms.C]
  | n + 1, h => by
    have ih := C_le (d := d) (p := p) (k := k) n (fun t h1 h2 => h t h1 (by omega))
    show Ms.C d p n + (p d[n]!).toNat ≤ _
    by_cases l : k ≤ n
    · rw [h n l (by omega)]; simp; omega
    · have : (p d[n]!).toNat ≤ 1 := Bool.toNat_le _
      omega
theorem C_ge {d : Array Nat} {p : Nat → Bool} {k : Nat} : ∀ n, (∀ t : Nat, t ≤ k → t < n → p d[t]! = true) → min n (k + 1) ≤ Ms.C d p n
  | 0, _ => by simp
  | n + 1, h => by
    have ih := C_ge (d := d) (p := p) (k := k) n (fun t h1 h2 => h t h1 (by omega))
    show _ ≤ Ms.C d p n + (p d[n]!).toNat
    by_cases l : n ≤ k
    · rw [h n l (by omega)]; simp; omega
    · omega
theorem C_bound (d : Array Nat) (p : Nat → Bool) : ∀ n, Ms.C d p n ≤ n
  | 0 => Nat.le_refl _
  | n + 1 => by
    have := C_bound d p n
    have : (p d[n]!).toNat ≤ 1 := Bool.toNat_le _
    show Ms.C d p n + (p d[n]!).toNat ≤ _
    omega

theorem sort13_all (blk off cap n : Nat) (d : Array Nat) (w : World) (hs : d.size = n) (h0 : 1 ≤ n) (hn : n ≤ 65536) (hH : Holds (Value.float .f32) w blk off d) (hw : ∀ t : Nat, d[t]! < 4294967296) :
    Calls Try.prog 13 #[.slice (some ⟨blk, off, none⟩) n cap] w fun e w' => e = .returned (.tuple #[]) ∧ ∃ d' : Array Nat, d'.size = n ∧ (∀ p, Ms.C d' p n = Ms.C d p n) ∧ (∀ s t : Nat, s ≤ t → t < n → Med.rank d'[s]! ≤ Med.rank d'[t]!) ∧ (∀ t : Nat, d'[t]! < 4294967296) ∧ Holds (Value.float .f32) w' blk off d' ∧ Row.Fr (· = blk) w w' := by
  by_cases h : n < 2
  · refine (sort13_short _ n cap w h).mono ?_
    rintro e w' ⟨rfl, rfl⟩
    refine ⟨rfl, d, hs, fun _ => rfl, fun s t h1 h2 => ?_, hw, hH, Row.Fr.refl _ _⟩
    obtain rfl : s = t := by omega
    exact Int.le_refl _
  · exact sort13 blk off cap n d w hs (by omega) hn hH hw

theorem bytes9_ok (a : Option Addr) (n c : Nat) (w : World) (h : n ≤ 1048576) : Calls Try.prog 9 #[.slice a n c] w fun e w' => e = .returned (.bool true) ∧ w' = w := by
  go_enter Try.func9, Try.ntmps9
  go_wp2
  go_ret
  exact ⟨rfl, rfl⟩
theorem bytes9_no (a : Option Addr) (n c : Nat) (w : World) (h : 1048576 < n) : Calls Try.prog 9 #[.slice a n c] w fun e w' => e = .returned (.bool false) ∧ w' = w := by
  go_enter Try.func9, Try.ntmps9
  go_wp2
  go_ret
  exact ⟨rfl, rfl⟩

theorem med11_none (p : Option Addr) (c : Nat) (w : World) : Calls Try.prog 11 #[.slice p 0 c] w fun e w' => e = .returned (.float .f32 0) ∧ w' = w := by
  go_enter Try.func11, Try.ntmps11
  go_wp2_with (go_at_call 29; refine (med29_none _ _ _).mono ?_; rintro e w' ⟨rfl, rfl⟩)
  go_ret
  exact ⟨rfl, rfl⟩
theorem med11 (blk off cap n : Nat) (d : Array Nat) (w : World) (hs : d.size = n) (h0 : 0 < n) (hn : n ≤ 65536) (hH : Holds (Value.float .f32) w blk off d) :
    Calls Try.prog 11 #[.slice (some ⟨blk, off, none⟩) n cap] w fun e w' => ∃ d' : Array Nat, e = .returned (.float .f32 d'[n / 2]!) ∧ PermIn 0 n d d' ∧ Med.Final n (n / 2) d' ∧ Holds (Value.float .f32) w' blk off d' ∧ Row.Fr (· = blk) w w' := by
  have M := med29 blk off cap n d w hs h0 hn hH
  have AM := M
  clear hH M
  go_enter Try.func11, Try.ntmps11
  go_wp2_with fail
  refine AM.mono ?_
  rintro e w' ⟨d', rfl, h1, h2, h3, h4⟩
  have H : Hid (PermIn 0 n d d' ∧ Med.Final n (n / 2) d' ∧ Holds (Value.float .f32) w' blk off d' ∧ Row.Fr (· = blk) w w') := ⟨h1, h2, h3, h4⟩
  clear h1 h2 h3 h4
  generalize hr : d'[n / 2]! = r
  have HR : Hid (d'[n / 2]! = r) := hr
  clear hr
  go_wp2
  go_ret
  exact ⟨d', by rw [HR.out]; rfl, H.out⟩

/-- No element: a nil slice, or one of no length. -/
theorem law_none (p : Option Addr) (c : Nat) (w : World) (hp : (p = none ∧ c = 0) ∨ ∃ x, p = some x) :
    Calls Try.prog 3 #[.slice p 0 c] w fun e w' => e = .returned (.bool true) ∧ Below w.heap.size w w' := by
  have K := fun W => clone10_none p c W hp
  have HK : Hid (∀ W, Calls Try.prog 10 #[.slice p 0 c] W fun e w' => ∃ p', e = .returned (.slice p' 0 0) ∧ Hid ((p' = none ∧ 0 = 0) ∨ ∃ x, p' = some x) ∧ Row.Fr (fun _ => False) W w') := K
  clear K hp
  have z1 : (FloatKind.f32.format.order 0 0 == some .eq) = true := by decide +kernel
  go_enter Try.func3, Try.ntmps3
  go_wp2_with fail
  refine (bytes9_ok _ _ _ _ (by omega)).mono ?_
  rintro e w' ⟨rfl, rfl⟩
  go_wp2_with fail
  refine (HK.out _).mono ?_
  rintro e w1 ⟨p1, rfl, hp1, f1⟩
  go_wp2_with fail
  refine (HK.out _).mono ?_
  rintro e w2 ⟨p2, rfl, hp2, f2⟩
  go_wp2_with fail
  refine (med11_none _ _ _).mono ?_
  rintro e w3 ⟨rfl, rfl⟩
  go_wp2_with fail
  refine (negz12_0 _).mono ?_
  rintro e w4 ⟨rfl, rfl⟩
  go_wp2
  go_ret
  exact ⟨rfl, (f1.trans f2).below (Nat.le_refl _) (fun _ _ f => f)⟩

end Go.Proofs.Qxb6602679a
