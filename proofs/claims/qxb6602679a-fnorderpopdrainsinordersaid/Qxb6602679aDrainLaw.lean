import Derived.Test.Qxb6602679aPopLaw0
import Derived.Test.Qxb6602679aDrainPlain
namespace Go.Proofs.Qxb6602679a
open Go.ChangeShapes Go.WideShapes Go.ChangeAt Go.RowKit Go.Sort
set_option linter.unusedVariables false

theorem LS.pop {w wr w' : World} {BA BH BT Bh Ba Bm : Nat} {A N V V2 : Array Nat} {T T' T2 M : Array Int} (h : LS w wr BA BH BT Bh Ba Bm A N V T T' M) (f : Row.Fr (fun b => b = Bh ∨ b = Ba) wr w') (hV : Holds encN w' Bh 0 V2) (hT : Holds (Value.int .i32) w' Ba 0 T2)
    (n1 : BA < Bh) (n2 : BH < Bh) (n3 : BT < Bh) (n4 : Bh < Ba) (n5 : Ba < Bm) (n6 : w.heap.size ≤ Bh) : LS w w' BA BH BT Bh Ba Bm A N V2 T T2 M :=
  ⟨f.holds h.a (by omega), f.holds h.n (by omega), f.holds h.t (by omega), hV, hT, f.holds h.m (by omega), h.bl.trans (f.below h.bl.size (fun k hk e => by omega))⟩

set_option maxHeartbeats 4000000 in
set_option maxRecDepth 1000000 in
/-- 'pop' on an empty heap. -/
theorem law8_none (p pT pA : Option Addr) (c nT cT nA cA : Nat) (A : Array Nat) (T : Array Int) (w : World) (hnT : nT ≤ 65536) (hnA : nA ≤ 65536) (sA : A.size = nA) (sT : T.size = nT) (hp : (p = none ∧ c = 0) ∨ ∃ x, p = some x) (nlA : Nl pA nA cA) (nlT : Nl pT nT cT)
    (hA : Sl (Value.float .f64) w pA nA A) (hT : Sl (Value.int .i32) w pT nT T) :
    Calls Try.prog 8 #[.slice pA nA cA, .slice p 0 c, .slice pT nT cT] w fun e w' => e = .returned (.bool true) ∧ Below w.heap.size w w' := by
  have HA : Hid (Sl (Value.float .f64) w pA nA A ∧ Nl pA nA cA ∧ A.size = nA) := ⟨hA, nlA, sA⟩
  have HT : Hid (Sl (Value.int .i32) w pT nT T ∧ Nl pT nT cT ∧ T.size = nT) := ⟨hT, nlT, sT⟩
  have HP : Hid ((p = none ∧ c = 0) ∨ ∃ x, p = some x) := hp
  have BY := bytes28 pA p pT nA cA 0 c nT cT w
  have VA := valid26_none p pA pT c nA cA nT cT w hnT hnA
  clear hA hT hp sA sT nlA nlT
  go_enter Try.func8, Try.ntmps8
  go_wp2_with fail
  refine BY.mono ?_
  rintro e w0 ⟨he, rfl⟩
  clear BY
  rcases he with rfl | rfl
  · go_wp2_with fail
    refine VA.mono ?_
    rintro e w1 ⟨rfl, f1⟩
    clear VA
    have F1 : Hid (Row.Fr (fun _ => False) w0 w1) := f1
    clear f1
    go_wp2_with fail
    refine (clone19S pA nA cA A _ HA.out.2.2 hnA HA.out.2.1 (HA.out.1.keep F1.out)).mono ?_
    rintro e w2 ⟨p2, rfl, f⟩
    have F2 : Hid (Row.Fr (fun _ => False) w0 w2) := F1.out.trans f.out
    clear f
    go_wp2_with fail
    refine (clone20_none p c _ HP.out).mono ?_
    rintro e w3 ⟨p3, rfl, hp3, f⟩
    have F3 : Hid (Row.Fr (fun _ => False) w0 w3) := F2.out.trans f
    clear f
    go_wp2_with fail
    refine (clone20S pT nT cT T _ HT.out.2.2 hnT HT.out.2.1 (HT.out.1.keep F3.out)).mono ?_
    rintro e w4 ⟨p4, rfl, h4⟩
    go_wp2_with fail
    refine (clone20_none p3 0 _ (by rcases hp3.out with h | h; exact .inl ⟨h.1, rfl⟩; exact .inr h)).mono ?_
    rintro e w5 ⟨p5, rfl, hp5, f⟩
    have H5 : Hid (Sl (Value.int .i32) w5 p4 nT T ∧ Row.Fr (fun _ => False) w0 w5) := ⟨h4.out.2.1.keep f, (F3.out.trans h4.out.2.2).trans f⟩
    clear f
    go_wp2_with fail
    refine (clone20S p4 nT nT T _ HT.out.2.2 hnT h4.out.1 H5.out.1).mono ?_
    rintro e w6 ⟨p6, rfl, h6⟩
    have H6 : Hid (Sl (Value.int .i32) w6 p4 nT T ∧ Sl (Value.int .i32) w6 p6 nT T ∧ Row.Fr (fun _ => False) w0 w6) := ⟨H5.out.1.keep h6.out.2.2, h6.out.2.1, H5.out.2.trans h6.out.2.2⟩
    have HM0 : Hid (Holds (Value.int .i8) (w6.alloc (.cells (Array.replicate nT (.int .i8 0)) 39)) w6.heap.size 0 (Array.replicate nT 0)) := Row.holds_made (enc := Value.int .i8) w6 nT 0 39
    clear h6 H5 h4 F1 F2 F3 HA HT HP hp3 hp5
    generalize hBm : w6.heap.size = Bm at *
    go_wp2_with (at_make; refine Row.wpList_make_row _ rfl _ _ 37 rfl 39 (.int .i8 0) 1 Try.underlying37 Try.info39 rfl _ _ _ _ nT rfl rfl rfl rfl (by omega) (by omega) ?_)
    clear hBm
    have H7 : Hid (Sl (Value.int .i32) (w6.alloc (.cells (Array.replicate nT (.int .i8 0)) 39)) p4 nT T ∧ Sl (Value.int .i32) (w6.alloc (.cells (Array.replicate nT (.int .i8 0)) 39)) p6 nT T ∧ Row.Fr (fun _ => False) w0 (w6.alloc (.cells (Array.replicate nT (.int .i8 0)) 39)) ∧ Holds (Value.int .i8) (w6.alloc (.cells (Array.replicate nT (.int .i8 0)) 39)) Bm 0 (Array.replicate nT 0)) := by
      have f : Row.Fr (fun _ => False) w6 (w6.alloc (.cells (Array.replicate nT (.int .i8 0)) 39)) := (Row.Fr.refl _ _).alloc _
      exact ⟨H6.out.1.keep f, H6.out.2.1.keep f, H6.out.2.2.trans f, HM0.out⟩
    clear H6 HM0
    generalize (w6.alloc (.cells (Array.replicate nT (.int .i8 0)) 39)) = w7 at *
    go_loop [11] (fun v => v = .int .i64 0) (fun _ => 0)
    case atStart => rfl
    case round =>
      obtain rfl := hrel
      go_wp2_with fail
      go_loop [7, 12, 13] (fun s pv v => s = .slice p5 0 0 ∧ pv = .int .i32 (-1) ∧ v = .int .i64 0) (fun _ _ _ => 0)
      case atStart => exact ⟨rfl, rfl, rfl⟩
      case round =>
        obtain ⟨rfl, rfl, rfl⟩ := hrel
        go_wp2_with fail
        refine (zz27_none p5 p2 p6 0 nA nA nT nT _).mono ?_
        rintro e w8 ⟨rfl, f8⟩
        have H8 : Hid (Sl (Value.int .i32) w8 p4 nT T ∧ Sl (Value.int .i32) w8 p6 nT T ∧ Row.Fr (fun _ => False) w0 w8 ∧ Holds (Value.int .i8) w8 Bm 0 (Array.replicate nT 0)) := ⟨H7.out.1.keep f8, H7.out.2.1.keep f8, H7.out.2.2.1.trans f8, f8.holds H7.out.2.2.2 (fun f => f)⟩
        clear f8 H7
        go_wp2_with fail
        go_loopw [18] (fun v wr => ∃ x q : Nat, v = .int .i64 x ∧ x ≤ nT ∧ wr = w8.drewN q) (fun v _ => nT - (intOf v).toNat)
        case atStart => exact ⟨0, 0, rfl, by omega, rfl⟩
        case round =>
          obtain ⟨x, q, rfl, hx, hwq⟩ := hrel
          have HWQ : Hid (wr = w8.drewN q) := hwq
          by_cases hxn : x < nT
          · obtain ⟨b4, o4, rfl, c4⟩ := H8.out.1 (by omega)
            obtain ⟨b6, o6, rfl, c6⟩ := H8.out.2.1 (by omega)
            have e4 : wr.cell? ⟨b4, o4 + x, none⟩ = some (.int .i32 T[x]!) := by rw [hwq]; exact c4 x hxn
            have e6 : wr.cell? ⟨b6, o6 + x, none⟩ = some (.int .i32 T[x]!) := by rw [hwq]; exact c6 x hxn
            have em : wr.cell? ⟨Bm, x, none⟩ = some (.int .i8 0) := by
              have := (holds_at H8.out.2.2.2 (t := x) (by simpa using hxn)).1
              rw [replicate_get] at this
              rw [hwq]; exact this
            clear c4 c6 hwq
            generalize T[x]! = tx at e4 e6
            have i1 : (x : Int) < (nT : Int) := by omega
            go_wp2_with fail
            go_quiet (fail)
            go_wp2
            go_roundw
            case rel => exact ⟨x + 1, _, by go_num, by omega, by rw [HWQ.out, World.drewN_drewN]⟩
            case measure => simp [intOf]; omega
          · clear hwq
            go_wp2
            go_ret
            exact ⟨rfl, by rw [HWQ.out]; exact (H8.out.2.2.1.drewN q).below (Nat.le_refl _) (fun _ _ f => f)⟩
  · clear VA
    go_wp2
    go_ret
    exact ⟨rfl, Below.refl _ _⟩

set_option maxHeartbeats 8000000 in
set_option maxRecDepth 1000000 in
theorem law8 (bh oh n ch : Nat) (pT pA : Option Addr) (nT cT nA cA : Nat) (A : Array Nat) (H T : Array Int) (w : World) (hn : n ≤ 65536) (hnT : nT ≤ 65536) (hnA : nA ≤ 65536) (h0 : 0 < n) (hs : H.size = n) (sA : A.size = nA) (sT : T.size = nT)
    (hc : ∀ j : Nat, j < n → w.cell? ⟨bh, oh + j, none⟩ = some (.int .i32 H[j]!)) (hw : ∀ j : Nat, j < n → -2147483648 ≤ H[j]! ∧ H[j]! ≤ 2147483647) (hA : Sl (Value.float .f64) w pA nA A) (hT : Sl (Value.int .i32) w pT nT T) :
    Calls Try.prog 8 #[.slice pA nA cA, .slice (some ⟨bh, oh, none⟩) n ch, .slice pT nT cT] w fun e w' => e = .returned (.bool true) ∧ Below w.heap.size w w' := by
  have P := valid26 bh oh n ch pT pA nT cT nA cA A H T w hn hnT hnA h0 hs hc hw hA hT
  have HC : Hid (∀ j : Nat, j < n → w.cell? ⟨bh, oh + j, none⟩ = some (.int .i32 H[j]!)) := hc
  have HA : Hid (Sl (Value.float .f64) w pA nA A) := hA
  have HT : Hid (Sl (Value.int .i32) w pT nT T) := hT
  have HS : Hid (H.size = n) := hs
  have SA : Hid (A.size = nA) := sA
  have ST : Hid (T.size = nT) := sT
  have BY := bytes28 pA (some ⟨bh, oh, none⟩) pT nA cA n ch nT cT w
  have hne : ((n : Int) == 0) = false := by rw [beq_eq_false_iff_ne]; omega
  clear hc hw hA hT hs sA sT
  go_enter Try.func8, Try.ntmps8
  go_wp2_with fail
  refine BY.mono ?_
  rintro e w0 ⟨he, rfl⟩
  clear BY
  rcases he with rfl | rfl
  · go_wp2_with fail
    refine P.mono ?_
    rintro e w1 ⟨r, rfl, hr, hfr⟩
    clear P
    cases r with
    | false =>
      clear hr
      go_wp2
      go_ret
      exact ⟨rfl, hfr.below (Nat.le_refl _) (fun _ _ f => f)⟩
    | true =>
      obtain ⟨hd, hpm⟩ := hr rfl
      have HD : Hid (Dist H n nT nA) := hd
      have hpos := toN_cast HS.out hd (show 0 < n by omega)
      obtain ⟨bA, oA, rfl, cA'⟩ := HA.out (by omega)
      obtain ⟨bT, oT, rfl, cT'⟩ := HT.out (by omega)
      have OK0 : Hid (Hp.Ok A (toN H) T n) := Ok_start HS.out SA.out ST.out hd hpm
      have F1 : Hid (Row.Fr (fun _ => False) w0 w1) := hfr
      have KH : Hid (∀ wr, Row.Fr (fun _ => False) w0 wr → ∀ j : Nat, j < n → wr.cell? ⟨bh, oh + j, none⟩ = some (.int .i32 H[j]!)) := fun wr f j hj => by
        have := HC.out j hj
        rw [f.cell (p := ⟨bh, oh + j, none⟩) (World.block_lt_of_cell? _ _ this) (fun f => f), this]
      have KA : Hid (∀ wr, Row.Fr (fun _ => False) w0 wr → ∀ j : Nat, j < nA → wr.cell? ⟨bA, oA + j, none⟩ = some (.float .f64 A[j]!)) := fun wr f j hj => by
        have := cA' j hj
        rw [f.cell (p := ⟨bA, oA + j, none⟩) (World.block_lt_of_cell? _ _ this) (fun f => f), this]
      have KT : Hid (∀ wr, Row.Fr (fun _ => False) w0 wr → ∀ j : Nat, j < nT → wr.cell? ⟨bT, oT + j, none⟩ = some (.int .i32 T[j]!)) := fun wr f j hj => by
        have := cT' j hj
        rw [f.cell (p := ⟨bT, oT + j, none⟩) (World.block_lt_of_cell? _ _ this) (fun f => f), this]
      clear hr hd hpos cA' cT' hfr HC HA HT hpm
      go_wp2_with fail
      refine (clone19A bA oA cA nA A _ SA.out hnA (KA.out _ F1.out)).mono ?_
      rintro e w2 ⟨B1, rfl, s1, s2, hh, f⟩
      have X1 : Hid (w1.heap.size ≤ B1 ∧ B1 < w2.heap.size ∧ Holds (Value.float .f64) w2 B1 0 A ∧ Row.Fr (fun _ => False) w1 w2) := ⟨s1, s2, hh, f⟩
      clear s1 s2 hh f
      have F2 : Hid (Row.Fr (fun _ => False) w0 w2) := F1.out.trans X1.out.2.2.2
      go_wp2_with fail
      refine (clone20A bh oh ch n H _ HS.out hn (KH.out _ F2.out)).mono ?_
      rintro e w3 ⟨B2, rfl, s1, s2, hh, f⟩
      have X2 : Hid (w2.heap.size ≤ B2 ∧ B2 < w3.heap.size ∧ Holds (Value.int .i32) w3 B2 0 H ∧ Row.Fr (fun _ => False) w2 w3) := ⟨s1, s2, hh, f⟩
      clear s1 s2 hh f
      have F3 : Hid (Row.Fr (fun _ => False) w0 w3) := F2.out.trans X2.out.2.2.2
      go_wp2_with fail
      refine (clone20A bT oT cT nT T _ ST.out hnT (KT.out _ F3.out)).mono ?_
      rintro e w4 ⟨B3, rfl, s1, s2, hh, f⟩
      have X3 : Hid (w3.heap.size ≤ B3 ∧ B3 < w4.heap.size ∧ Holds (Value.int .i32) w4 B3 0 T ∧ Row.Fr (fun _ => False) w3 w4) := ⟨s1, s2, hh, f⟩
      clear s1 s2 hh f
      have H24 : Hid (Holds (Value.int .i32) w4 B2 0 H) := X3.out.2.2.2.holds X2.out.2.2.1 (fun f => f)
      go_wp2_with fail
      refine (clone20A B2 0 n n H _ HS.out hn (fun j hj => (H24.out j (by rw [HS.out]; exact hj)).1)).mono ?_
      rintro e w5 ⟨B4, rfl, s1, s2, hh, f⟩
      have X4 : Hid (w4.heap.size ≤ B4 ∧ B4 < w5.heap.size ∧ Holds (Value.int .i32) w5 B4 0 H ∧ Row.Fr (fun _ => False) w4 w5) := ⟨s1, s2, hh, f⟩
      clear s1 s2 hh f
      have H35 : Hid (Holds (Value.int .i32) w5 B3 0 T) := X4.out.2.2.2.holds X3.out.2.2.1 (fun f => f)
      go_wp2_with fail
      refine (clone20A B3 0 nT nT T _ ST.out hnT (fun j hj => (H35.out j (by rw [ST.out]; exact hj)).1)).mono ?_
      rintro e w6 ⟨B5, rfl, s1, s2, hh, f⟩
      have X5 : Hid (w5.heap.size ≤ B5 ∧ B5 < w6.heap.size ∧ Holds (Value.int .i32) w6 B5 0 T ∧ Row.Fr (fun _ => False) w5 w6) := ⟨s1, s2, hh, f⟩
      clear s1 s2 hh f
      have ORD : Hid (w0.heap.size ≤ B1 ∧ B1 < B2 ∧ B2 < B3 ∧ B3 < B4 ∧ B4 < B5 ∧ B5 < w6.heap.size) := by
        have a := X1.out; have b := X2.out; have c := X3.out; have d := X4.out; have e := X5.out; have f := F1.out.size
        exact ⟨by omega, by omega, by omega, by omega, by omega, by omega⟩
      have L6 : Hid (Holds (Value.float .f64) w6 B1 0 A ∧ Holds encN w6 B2 0 (toN H) ∧ Holds (Value.int .i32) w6 B3 0 T ∧ Holds encN w6 B4 0 (toN H) ∧ Holds (Value.int .i32) w6 B5 0 T ∧ Row.Fr (fun _ => False) w0 w6) := by
        have a := X1.out; have b := X2.out; have c := X3.out; have d := X4.out; have e := X5.out
        have f45 := d.2.2.2.trans e.2.2.2
        have f35 := c.2.2.2.trans f45
        have f25 := b.2.2.2.trans f35
        exact ⟨f25.holds a.2.2.1 (fun f => f), holds_toN (f35.holds b.2.2.1 (fun f => f)) HS.out HD.out, f45.holds c.2.2.1 (fun f => f), holds_toN (e.2.2.2.holds d.2.2.1 (fun f => f)) HS.out HD.out, e.2.2.1, F2.out.trans f25⟩
      clear X1 X2 X3 X4 X5 H24 H35 F1 F2 F3 KH KA KT
      have LS0 : Hid (LS w0 (w6.alloc (.cells (Array.replicate nT (.int .i8 0)) 39)) B1 B2 B3 B4 B5 w6.heap.size A (toN H) (toN H) T T (Array.replicate nT 0)) := by
        have o := ORD.out; have l := L6.out
        have f : Row.Fr (fun _ => False) w6 (w6.alloc (.cells (Array.replicate nT (.int .i8 0)) 39)) := (Row.Fr.refl _ _).alloc _
        exact ⟨f.holds l.1 (fun f => f), f.holds l.2.1 (fun f => f), f.holds l.2.2.1 (fun f => f), f.holds l.2.2.2.1 (fun f => f), f.holds l.2.2.2.2.1 (fun f => f), Row.holds_made (enc := Value.int .i8) w6 nT 0 39, (l.2.2.2.2.2.trans f).below (Nat.le_refl _) (fun _ _ f => f)⟩
      clear L6
      have NR : Hid (∀ j : Nat, j < n → (toN H)[j]! < nT ∧ (toN H)[j]! < nA) := fun j hj => (toN_cast HS.out HD.out hj).2
      have SN : Hid ((toN H).size = n) := by rw [toN_size]; exact HS.out
      generalize hN : toN H = N at *
      clear hN
      generalize hBm : w6.heap.size = Bm at *
      go_wp2_with (at_make; refine Row.wpList_make_row _ rfl _ _ 37 rfl 39 (.int .i8 0) 1 Try.underlying37 Try.info39 rfl _ _ _ _ nT rfl rfl rfl rfl (by omega) (by omega) ?_)
      clear hBm
      have mk : Hid (∀ (wr : World) (V : Array Nat) (T' M : Array Int) (x : Nat) (v : Int), LS w0 wr B1 B2 B3 B4 B5 Bm A N V T T' M → M.size = nT → x < nT → LS w0 (wr.setCell ⟨Bm, x, none⟩ (.int .i8 v)) B1 B2 B3 B4 B5 Bm A N V T T' (M.setIfInBounds x v)) := fun wr V T' M x v h hs hx => by
        have o := ORD.out
        exact h.mark (by omega) (by omega) (by omega) (by omega) (by omega) (by omega) (by omega) v
      -- loop 1: the marks
      go_loopw [11] (fun v wr => ∃ (j : Nat) (M : Array Int), v = .int .i64 j ∧ j ≤ n ∧ LS w0 wr B1 B2 B3 B4 B5 Bm A N N T T M ∧ Hid (M.size = nT) ∧ Hid ((∀ k : Nat, k < j → M[N[k]!]! = 1) ∧ (∀ x : Nat, M[x]! = 1 → ∃ k, k < j ∧ N[k]! = x) ∧ (∀ x : Nat, M[x]! = 0 ∨ M[x]! = 1))) (fun v _ => n - (intOf v).toNat)
      case atStart => exact ⟨0, _, rfl, by omega, LS0.out, by simp [Hid], (fun k hk => by omega), (fun x hx => by rw [replicate_get] at hx; cases hx), fun x => .inl (replicate_get nT x)⟩
      case round =>
        clear LS0
        obtain ⟨j, M, rfl, hj, hls, hM, hI⟩ := hrel
        by_cases hjn : j < n
        · have cN := (holds_at hls.n (t := j) (by rw [SN.out]; exact hjn)).1
          have rN := (NR.out j hjn).1
          have WN := mk.out wr N T M N[j]! 1 hls hM.out rN
          have HI : Hid ((∀ k : Nat, k < j + 1 → (M.setIfInBounds N[j]! 1)[N[k]!]! = 1) ∧ (∀ x : Nat, (M.setIfInBounds N[j]! 1)[x]! = 1 → ∃ k, k < j + 1 ∧ N[k]! = x) ∧ (∀ x : Nat, (M.setIfInBounds N[j]! 1)[x]! = 0 ∨ (M.setIfInBounds N[j]! 1)[x]! = 1)) := by
            have same := getElem!_set_same M N[j]! 1 (by rw [hM.out]; exact rN)
            refine ⟨fun k hk => ?_, fun x hx => ?_, fun x => ?_⟩
            · by_cases e : N[k]! = N[j]!
              · rw [e, same]
              · rw [getElem!_set_other M N[j]! N[k]! 1 e]
                refine hI.out.1 k ?_
                by_cases q : k = j
                · rw [q] at e; exact absurd rfl e
                · omega
            · by_cases e : x = N[j]!
              · exact ⟨j, by omega, e.symm⟩
              · rw [getElem!_set_other M N[j]! x 1 e] at hx
                obtain ⟨k, h1, h2⟩ := hI.out.2.1 x hx
                exact ⟨k, by omega, h2⟩
            · by_cases e : x = N[j]!
              · rw [e, same]; exact .inr rfl
              · rw [getElem!_set_other M N[j]! x 1 e]; exact hI.out.2.2 x
          obtain ⟨cm, fm⟩ := holds_at hls.m (t := N[j]!) (by rw [hM.out]; exact rN)
          unfold encN at cN
          generalize M[N[j]!]! = mv at cm
          generalize N[j]! = xj at cN rN WN HI cm fm
          have HWN : Hid _ := WN
          clear WN
          have i1 : (xj : Int) < (nT : Int) := by omega
          go_wp2
          go_roundw
          case rel => exact ⟨j + 1, _, by go_num, by omega, HWN.out, by rw [Array.size_setIfInBounds]; exact hM.out, HI⟩
          case measure => simp [intOf]; omega
        · have DR0 : Hid (Hp.Dr A N T T M n) := by
            obtain ⟨a1, a2, a3⟩ := hI.out
            have e : j = n := by omega
            rw [e] at a1 a2
            exact ⟨OK0.out, by rw [hM.out, ST.out], a1, (fun x hx => by rcases a3 x with h | h <;> rw [h] at hx <;> cases hx), a2, fun x _ => rfl, fun x => by rcases a3 x with h | h; exact .inl h; exact .inr (.inl h)⟩
          have HLS : Hid (LS w0 wr B1 B2 B3 B4 B5 Bm A N N T T M) := hls
          clear hI hls
          go_wp2_with fail
          -- loop 2: the pops
          go_loopg [7, 12, 13] n (fun g s pv v wr => ∃ (t m : Nat) (q : Int) (V : Array Nat) (Tc M : Array Int), s = .slice (some ⟨B4, 0, none⟩) m n ∧ pv = .int .i32 q ∧ v = .int .i64 t ∧ t + m = n ∧ m ≤ g ∧ LS w0 wr B1 B2 B3 B4 B5 Bm A N V T Tc M ∧ Hp.Dr A V T Tc M m ∧ Hid (V.size = n ∧ Tc.size = nT ∧ M.size = nT) ∧ Hid (0 < t → ∃ pr : Nat, q = (pr : Int) ∧ pr < nA ∧ Hp.Pv A V m pr))
          case atStart => exact ⟨0, n, -1, N, T, M, rfl, rfl, rfl, by omega, by omega, HLS.out, DR0.out, ⟨SN.out, ST.out, hM.out⟩, fun h => absurd h (by omega)⟩
          case round =>
            clear HLS DR0 hM hjn hj
            obtain ⟨t, m, q, V, Tc, M, rfl, rfl, rfl, htm, hg, hls, hdr, hsz, hpv⟩ := hrel
            have HTM : Hid (t + m = n) := htm
            have tm1 : t + m ≤ n := by omega
            have tm2 : n ≤ t + m := by omega
            clear htm
            by_cases hm0 : 0 < m
            · have r0 := hdr.ok.rng 0 hm0
              have r0T : V[0]! < nT := by rw [← hsz.out.2.1]; exact r0.1
              have r0A : V[0]! < nA := by rw [← SA.out]; exact r0.2
              have m1 := hdr.one 0 hm0
              have lts : Hid (B1 < wr.heap.size ∧ B4 < wr.heap.size ∧ B5 < wr.heap.size) := ⟨Row.Holds.lt hls.a (by rw [SA.out]; omega), Row.Holds.lt hls.h (by rw [hsz.out.1]; omega), Row.Holds.lt hls.at_ (by rw [hsz.out.2.1]; omega)⟩
              have ZZ := zz27 B1 B4 B5 m n nA nA nT nT A V Tc wr hls.a hls.h hls.at_ SA.out hsz.out.2.1 (by omega) (by omega) (by omega) hn (by have := ORD.out; omega) (by have := ORD.out; omega) (by have := ORD.out; omega) lts.out.1 lts.out.2.1 lts.out.2.2 hdr.ok
              clear r0
              go_wp2_with fail
              refine ZZ.mono ?_
              rintro e w8 ⟨rfl, V2, T2, hpop, hV2, hT2, hf8⟩
              clear ZZ
              have LS2 : LS w0 w8 B1 B2 B3 B4 B5 Bm A N V2 T T2 M := hls.pop hf8 hV2 hT2 (by have := ORD.out; omega) (by have := ORD.out; omega) (by have := ORD.out; omega) (by have := ORD.out; omega) (by have := ORD.out; omega) (by have := ORD.out; omega)
              have DR2 : Hid (Hp.Dr A V2 T T2 (M.setIfInBounds V[0]! 2) (m - 1)) := Hp.Dr_step hdr (by omega) hpop
              have PV2 : Hid (Hp.Pv A V2 (m - 1) V[0]!) := Hp.Pv_step hdr.ok hpop
              have SZ2 : Hid (V2.size = n ∧ T2.size = nT ∧ (M.setIfInBounds V[0]! 2).size = nT) := ⟨by rw [hpop.sz]; exact hsz.out.1, by rw [hpop.tsz]; exact hsz.out.2.1, by rw [Array.size_setIfInBounds]; exact hsz.out.2.2⟩
              have LS3 : Hid (∀ q, LS w0 ((w8.setCell ⟨Bm, V[0]!, none⟩ (.int .i8 2)).drewN q) B1 B2 B3 B4 B5 Bm A N V2 T T2 (M.setIfInBounds V[0]! 2)) := fun q => (mk.out w8 V2 T2 M V[0]! 2 LS2 hsz.out.2.2 r0T).drewN q
              obtain ⟨cm, fm⟩ := holds_at LS2.m (t := V[0]!) (by rw [hsz.out.2.2]; exact r0T)
              rw [m1] at cm
              have ca : ((w8.setCell ⟨Bm, V[0]!, none⟩ (.int .i8 2))).cell? ⟨B1, V[0]!, none⟩ = some (.float .f64 A[V[0]!]!) := (holds_at (mk.out w8 V2 T2 M V[0]! 2 LS2 hsz.out.2.2 r0T).a (t := V[0]!) (by rw [SA.out]; exact r0A)).1
              have KA : Hid (∀ x : Nat, x < nA → ((w8.setCell ⟨Bm, V[0]!, none⟩ (.int .i8 2))).cell? ⟨B1, x, none⟩ = some (.float .f64 A[x]!)) := fun x hx => (holds_at (mk.out w8 V2 T2 M V[0]! 2 LS2 hsz.out.2.2 r0T).a (t := x) (by rw [SA.out]; exact hx)).1
              have TST : Hid (0 < t → ∃ pr : Nat, q = (pr : Int) ∧ pr < nA ∧ (FloatKind.f64.format.order A[V[0]!]! A[pr]! == some .gt) = false) := fun h => by
                obtain ⟨pr, h1, h2, h3⟩ := hpv.out h
                obtain ⟨g1, g2, g3⟩ := h3 0 hm0
                exact ⟨pr, h1, h2, by rw [Hp.gt_nn g2 g1]; exact decide_eq_false (by omega)⟩
              clear hpop hV2 hT2 hf8 LS2 hdr hls hpv m1
              generalize V[0]! = r at *
              obtain ⟨m', rfl⟩ : ∃ m', m = m' + 1 := ⟨m - 1, by omega⟩
              rw [show m' + 1 - 1 = m' by omega] at *
              have i1 : (r : Int) < (nT : Int) := by omega
              have i2 : (r : Int) < (nA : Int) := by omega
              by_cases ht0 : 0 < t
              · obtain ⟨pr, rfl, hpr, tst⟩ := TST.out ht0
                have cp := KA.out pr hpr
                generalize A[r]! = fr at ca tst
                generalize A[pr]! = fp at cp tst
                have i3 : (pr : Int) < (nA : Int) := by omega
                have i4 : (0 : Int) < (t : Int) := by omega
                go_wp2_with fail
                generalize hw9 : w8.setCell ⟨Bm, r, none⟩ (.int .i8 2) = w9 at *
                clear hw9 cm fm
                go_quiet (fail)
                go_wp2
                go_roundg m'
                case measure => omega
                case rel => exact ⟨t + 1, m', (r : Int), V2, T2, _, rfl, rfl, by go_num, by have := HTM.out; omega, Nat.le_refl _, LS3.out _, DR2.out, SZ2, fun _ => ⟨r, rfl, r0A, PV2.out⟩⟩
              · have g1 : decide ((0 : Int) < (t : Int)) = false := decide_eq_false (by omega)
                go_wp2_with fail
                generalize hw9 : w8.setCell ⟨Bm, r, none⟩ (.int .i8 2) = w9 at *
                clear hw9 cm fm
                go_quiet (fail)
                go_wp2
                go_roundg m'
                case measure => omega
                case rel => exact ⟨t + 1, m', (r : Int), V2, T2, _, rfl, rfl, by go_num, by have := HTM.out; omega, Nat.le_refl _, LS3.out _, DR2.out, SZ2, fun _ => ⟨r, rfl, r0A, PV2.out⟩⟩
            · obtain rfl : m = 0 := by omega
              have ZZ := zz27_none (some ⟨B4, 0, none⟩) (some ⟨B1, 0, none⟩) (some ⟨B5, 0, none⟩) n nA nA nT nT wr
              go_wp2_with fail
              refine ZZ.mono ?_
              rintro e w8 ⟨rfl, f8⟩
              clear ZZ
              have HLS : Hid (LS w0 w8 B1 B2 B3 B4 B5 Bm A N V T Tc M) := ⟨f8.holds hls.a (fun f => f), f8.holds hls.n (fun f => f), f8.holds hls.t (fun f => f), f8.holds hls.h (fun f => f), f8.holds hls.at_ (fun f => f), f8.holds hls.m (fun f => f), hls.bl.trans (f8.below hls.bl.size (fun _ _ f => f))⟩
              have HDR : Hid (Hp.Dr A V T Tc M 0) := hdr
              clear f8 hls hdr hpv
              go_wp2_with fail
              go_loopw [18] (fun v wr => ∃ x : Nat, v = .int .i64 x ∧ x ≤ nT ∧ LS w0 wr B1 B2 B3 B4 B5 Bm A N V T Tc M) (fun v _ => nT - (intOf v).toNat)
              case atStart => exact ⟨0, rfl, by omega, HLS.out⟩
              case round =>
                clear HLS
                obtain ⟨x, rfl, hx, hls⟩ := hrel
                by_cases hxn : x < nT
                · have cm := (holds_at hls.m (t := x) (by rw [hsz.out.2.2]; exact hxn)).1
                  have ct := (holds_at hls.t (t := x) (by rw [ST.out]; exact hxn)).1
                  have ct' := (holds_at hls.at_ (t := x) (by rw [hsz.out.2.1]; exact hxn)).1
                  have i1 : (x : Int) < (nT : Int) := by omega
                  by_cases hm2 : M[x]! = 2
                  · rw [HDR.out.two x hm2] at ct'
                    rw [hm2] at cm
                    clear hm2
                    go_wp2
                    go_roundw
                    case rel => exact ⟨x + 1, by go_num, by omega, hls⟩
                    case measure => simp [intOf]; omega
                  · have hz : M[x]! = 0 := by
                      rcases HDR.out.low x with h | h | h
                      · exact h
                      · obtain ⟨j, hj, _⟩ := HDR.out.has x h
                        omega
                      · exact absurd h hm2
                    rw [HDR.out.nil x hz] at ct'
                    rw [hz] at cm
                    clear hz hm2
                    generalize T[x]! = tx at ct ct'
                    go_wp2_with fail
                    go_quiet (fail)
                    go_wp2
                    go_roundw
                    case rel => exact ⟨x + 1, by go_num, by omega, hls.drewN _⟩
                    case measure => simp [intOf]; omega
                · go_wp2
                  go_ret
                  exact ⟨rfl, hls.bl⟩
  · clear P
    go_wp2
    go_ret
    exact ⟨rfl, Below.refl _ _⟩

end Go.Proofs.Qxb6602679a
