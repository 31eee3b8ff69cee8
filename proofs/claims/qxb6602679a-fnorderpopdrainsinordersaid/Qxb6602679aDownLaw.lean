import Derived.Test.Qxb6602679aPrem2
namespace Go.Proofs.Qxb6602679a
open Go.ChangeShapes Go.WideShapes Go.ChangeAt Go.RowKit Go.Sort
set_option linter.unusedVariables false

theorem bytes17 (pA pH pT : Option Addr) (nA cA n ch nT cT : Nat) (i : Int) (w : World) (h1 : nA ≤ 9223372036854775807) (h2 : n ≤ 9223372036854775807) (h3 : nT ≤ 9223372036854775807) :
    Calls Try.prog 17 #[.slice pA nA cA, .slice pH n ch, .slice pT nT cT, .int .i64 i] w fun e w' => (e = .returned (.bool true) ∨ e = .returned (.bool false)) ∧ w' = w := by
  go_enter Try.func17, Try.ntmps17
  go_wp2
  all_goals
    go_ret
    first | exact ⟨.inl rfl, rfl⟩ | exact ⟨.inr rfl, rfl⟩

theorem holds_toN {w : World} {B n nT nA : Nat} {H : Array Int} (h : Holds (Value.int .i32) w B 0 H) (hs : H.size = n) (hd : Dist H n nT nA) : Holds encN w B 0 (toN H) := fun j hj => by
  rw [toN_size, hs] at hj
  have := h j (by omega)
  rw [(toN_cast hs hd hj).1] at this
  exact this

/-- 'ZZOrderDown': the order is boxed, then sifted. -/
theorem zz21 (bA bh bt n ch nA cA nT cT i0 : Nat) (A H : Array Nat) (T : Array Int) (w : World) (hA : Holds (Value.float .f64) w bA 0 A) (hH : Holds encN w bh 0 H) (hT : Holds (Value.int .i32) w bt 0 T) (sA : A.size = nA) (sT : T.size = nT) (hn : n ≤ 65536)
    (d3 : bA ≠ bh) (d4 : bA ≠ bt) (d5 : bh ≠ bt) (lh : bh < w.heap.size) (lt : bt < w.heap.size) (hD : Hp.DI A H T n i0 i0 H T) :
    Calls Try.prog 21 #[.slice (some ⟨bA, 0, none⟩) nA cA, .slice (some ⟨bh, 0, none⟩) n ch, .slice (some ⟨bt, 0, none⟩) nT cT, .int .i64 i0] w fun e w' => e = .returned (.tuple #[]) ∧ ∃ (V : Array Nat) (T' : Array Int), Hp.Done A H T n i0 V T' ∧ Holds encN w' bh 0 V ∧ Holds (Value.int .i32) w' bt 0 T' ∧ Row.Fr (fun b => b = bh ∨ b = bt) w w' := by
  have F : Row.Fr (fun _ => False) w (w.alloc (.cells #[.slice (some ⟨bA, 0, none⟩) nA cA, .slice (some ⟨bh, 0, none⟩) n ch, .slice (some ⟨bt, 0, none⟩) nT cT] 47)) := (Row.Fr.refl _ _).alloc _
  have D := down32 w.heap.size bA bh bt n ch nA cA nT cT i0 A H T (w.alloc (.cells #[.slice (some ⟨bA, 0, none⟩) nA cA, .slice (some ⟨bh, 0, none⟩) n ch, .slice (some ⟨bt, 0, none⟩) nT cT] 47))
    (by rw [World.cell?_alloc_at _ _ _ _ rfl]; rfl) (by rw [World.cell?_alloc_at _ _ _ _ rfl]; rfl) (by rw [World.cell?_alloc_at _ _ _ _ rfl]; rfl)
    (F.holds hA (fun f => f)) (F.holds hH (fun f => f)) (F.holds hT (fun f => f)) sA sT hn (by omega) (by omega) d3 d4 d5 hD
  have HF : Hid (Row.Fr (fun _ => False) w (w.alloc (.cells #[.slice (some ⟨bA, 0, none⟩) nA cA, .slice (some ⟨bh, 0, none⟩) n ch, .slice (some ⟨bt, 0, none⟩) nT cT] 47))) := F
  clear hA hH hT hD F
  go_enter Try.func21, Try.ntmps21
  go_wp2_with fail
  refine D.mono ?_
  rintro e w1 ⟨rfl, V, T', h1, h2, h3, h4⟩
  clear D
  go_wp2
  go_end0
  exact ⟨rfl, V, T', h1, h2, h3, (HF.out.mono (fun _ _ f => f.elim)).trans h4⟩

/-- What the rows hold while the law looks at them. -/
structure LS (w wr : World) (BA BH BT Bh Ba Bm : Nat) (A N V : Array Nat) (T T' M : Array Int) : Prop where
  a : Holds (Value.float .f64) wr BA 0 A
  n : Holds encN wr BH 0 N
  t : Holds (Value.int .i32) wr BT 0 T
  h : Holds encN wr Bh 0 V
  at_ : Holds (Value.int .i32) wr Ba 0 T'
  m : Holds (Value.int .i8) wr Bm 0 M
  bl : Below w.heap.size w wr
theorem LS.drewN {w wr : World} {BA BH BT Bh Ba Bm : Nat} {A N V : Array Nat} {T T' M : Array Int} (h : LS w wr BA BH BT Bh Ba Bm A N V T T' M) (q : Nat) : LS w (wr.drewN q) BA BH BT Bh Ba Bm A N V T T' M :=
  ⟨h.a, h.n, h.t, h.h, h.at_, h.m, h.bl.trans ⟨rfl, rfl, rfl, Nat.le_refl _, fun _ _ => rfl⟩⟩
theorem LS.mark {w wr : World} {BA BH BT Bh Ba Bm : Nat} {A N V : Array Nat} {T T' M : Array Int} (h : LS w wr BA BH BT Bh Ba Bm A N V T T' M) (n1 : BA < Bm) (n2 : BH < Bm) (n3 : BT < Bm) (n4 : Bh < Bm) (n5 : Ba < Bm) (n6 : w.heap.size ≤ Bm) {x : Nat} (hx : x < M.size) (v : Int) :
    LS w (wr.setCell ⟨Bm, x, none⟩ (.int .i8 v)) BA BH BT Bh Ba Bm A N V T T' (M.setIfInBounds x v) :=
  ⟨Row.holds_set_other h.a (by show Bm ≠ BA; omega) _, Row.holds_set_other h.n (by show Bm ≠ BH; omega) _, Row.holds_set_other h.t (by show Bm ≠ BT; omega) _, Row.holds_set_other h.h (by show Bm ≠ Bh; omega) _,
   Row.holds_set_other h.at_ (by show Bm ≠ Ba; omega) _, holds_put (enc := Value.int .i8) h.m hx v, h.bl.setCell n6 _⟩

theorem Try.info39 : (Try.prog.info? 39).map (fun i => (i.zero, i.size, i.bytes)) = some (some (.int .i8 0), 1, 1) := by kernel_rfl

theorem DI_start {A : Array Nat} {H T : Array Int} {n nT nA i0 : Nat} (hs : H.size = n) (sA : A.size = nA) (sT : T.size = nT) (hd : Dist H n nT nA) (hi : i0 < n) (hp : Pm A (toN H) T i0 n) : Hp.DI A (toN H) T n i0 i0 (toN H) T := by
  have g : ∀ j : Nat, j < n → Hp.sub i0 j = true → _ := fun j hj hsj => hp j (Hp.sub_ge hsj) hj hsj
  refine ⟨rfl, rfl, by rw [toN_size, hs]; exact Nat.le_refl _, hi, Hp.sub_self i0, toN_inj hs hd, fun j hj => by rw [sA, sT]; exact (toN_cast hs hd hj).2, fun j hj h1 => (g j hj h1).1, fun j _ => rfl, fun j hj h1 => ⟨j, hj, h1, rfl⟩, fun j hj h1 => ⟨j, hj, h1, rfl⟩, ?_, ?_, ?_, fun x _ => rfl⟩
  · intro j hj h1 h2 h3; exact ((g j hj h1).2 (by omega)).2 h3
  · intro j hj h1 h2; omega
  · intro j hj h1 h2; exact ((g j hj h1).2 h2).1

theorem replicate_get (n x : Nat) : (Array.replicate n (0 : Int))[x]! = 0 := by
  by_cases h : x < n
  · rw [getElem!_pos _ x (by simpa using h), Array.getElem_replicate]
  · rw [getElem!_neg _ x (by simpa using h)]; rfl

end Go.Proofs.Qxb6602679a
