import Derived.Test.Qxb6602679aDownLaw
namespace Go.Proofs.Qxb6602679a
open Go.ChangeShapes Go.WideShapes Go.ChangeAt Go.RowKit Go.Sort
set_option linter.unusedVariables false

set_option maxHeartbeats 8000000 in
set_option maxRecDepth 1000000 in
theorem law5 (bh oh n ch : Nat) (pT pA : Option Addr) (nT cT nA cA i0 : Nat) (A : Array Nat) (H T : Array Int) (w : World) (hn : n ≤ 65536) (hnT : nT ≤ 65536) (hnA : nA ≤ 65536) (hi0 : i0 < n) (hs : H.size = n) (sA : A.size = nA) (sT : T.size = nT)
    (hc : ∀ j : Nat, j < n → w.cell? ⟨bh, oh + j, none⟩ = some (.int .i32 H[j]!)) (hw : ∀ j : Nat, j < n → -2147483648 ≤ H[j]! ∧ H[j]! ≤ 2147483647) (hA : Sl (Value.float .f64) w pA nA A) (hT : Sl (Value.int .i32) w pT nT T) :
    Calls Try.prog 5 #[.slice pA nA cA, .slice (some ⟨bh, oh, none⟩) n ch, .slice pT nT cT, .int .i64 i0] w fun e w' => e = .returned (.bool true) ∧ Below w.heap.size w w' := by
  have P := prem18 bh oh n ch pT pA nT cT nA cA i0 A H T w hn hnT hnA hi0 hs hc hw hA hT
  have HC : Hid (∀ j : Nat, j < n → w.cell? ⟨bh, oh + j, none⟩ = some (.int .i32 H[j]!)) := hc
  have HA : Hid (Sl (Value.float .f64) w pA nA A) := hA
  have HT : Hid (Sl (Value.int .i32) w pT nT T) := hT
  have HS : Hid (H.size = n) := hs
  have SA : Hid (A.size = nA) := sA
  have ST : Hid (T.size = nT) := sT
  have BY := bytes17 pA (some ⟨bh, oh, none⟩) pT nA cA n ch nT cT i0 w (by omega) (by omega) (by omega)
  clear hc hw hA hT hs sA sT
  go_enter Try.func5, Try.ntmps5
  go_wp2_with fail
  refine BY.mono ?_
  rintro e w0 ⟨he, rfl⟩
  clear BY
  rcases he with rfl | rfl
  · go_wp2_with fail
    refine P.mono ?_
    rintro e w1 ⟨r, rfl, hr, hfr⟩
    clear P
    cases r with
    | false =>
      clear hr
      go_wp2
      go_ret
      exact ⟨rfl, hfr.below (Nat.le_refl _) (fun _ _ f => f)⟩
    | true =>
      obtain ⟨hd, hpm⟩ := hr rfl
      have HD : Hid (Dist H n nT nA) := hd
      have hpos := toN_cast HS.out hd (show 0 < n by omega)
      obtain ⟨bA, oA, rfl, cA'⟩ := HA.out (by omega)
      obtain ⟨bT, oT, rfl, cT'⟩ := HT.out (by omega)
      have DI0 : Hid (Hp.DI A (toN H) T n i0 i0 (toN H) T) := DI_start HS.out SA.out ST.out hd hi0 hpm
      have F1 : Hid (Row.Fr (fun _ => False) w0 w1) := hfr
      have KH : Hid (∀ wr, Row.Fr (fun _ => False) w0 wr → ∀ j : Nat, j < n → wr.cell? ⟨bh, oh + j, none⟩ = some (.int .i32 H[j]!)) := fun wr f j hj => by
        have := HC.out j hj
        rw [f.cell (p := ⟨bh, oh + j, none⟩) (World.block_lt_of_cell? _ _ this) (fun f => f), this]
      have KA : Hid (∀ wr, Row.Fr (fun _ => False) w0 wr → ∀ j : Nat, j < nA → wr.cell? ⟨bA, oA + j, none⟩ = some (.float .f64 A[j]!)) := fun wr f j hj => by
        have := cA' j hj
        rw [f.cell (p := ⟨bA, oA + j, none⟩) (World.block_lt_of_cell? _ _ this) (fun f => f), this]
      have KT : Hid (∀ wr, Row.Fr (fun _ => False) w0 wr → ∀ j : Nat, j < nT → wr.cell? ⟨bT, oT + j, none⟩ = some (.int .i32 T[j]!)) := fun wr f j hj => by
        have := cT' j hj
        rw [f.cell (p := ⟨bT, oT + j, none⟩) (World.block_lt_of_cell? _ _ this) (fun f => f), this]
      clear hr hd hpos cA' cT' hfr HC HA HT hpm
      go_wp2_with fail
      refine (clone19A bA oA cA nA A _ SA.out hnA (KA.out _ F1.out)).mono ?_
      rintro e w2 ⟨B1, rfl, s1, s2, hh, f⟩
      have X1 : Hid (w1.heap.size ≤ B1 ∧ B1 < w2.heap.size ∧ Holds (Value.float .f64) w2 B1 0 A ∧ Row.Fr (fun _ => False) w1 w2) := ⟨s1, s2, hh, f⟩
      clear s1 s2 hh f
      have F2 : Hid (Row.Fr (fun _ => False) w0 w2) := F1.out.trans X1.out.2.2.2
      go_wp2_with fail
      refine (clone20A bh oh ch n H _ HS.out hn (KH.out _ F2.out)).mono ?_
      rintro e w3 ⟨B2, rfl, s1, s2, hh, f⟩
      have X2 : Hid (w2.heap.size ≤ B2 ∧ B2 < w3.heap.size ∧ Holds (Value.int .i32) w3 B2 0 H ∧ Row.Fr (fun _ => False) w2 w3) := ⟨s1, s2, hh, f⟩
      clear s1 s2 hh f
      have F3 : Hid (Row.Fr (fun _ => False) w0 w3) := F2.out.trans X2.out.2.2.2
      go_wp2_with fail
      refine (clone20A bT oT cT nT T _ ST.out hnT (KT.out _ F3.out)).mono ?_
      rintro e w4 ⟨B3, rfl, s1, s2, hh, f⟩
      have X3 : Hid (w3.heap.size ≤ B3 ∧ B3 < w4.heap.size ∧ Holds (Value.int .i32) w4 B3 0 T ∧ Row.Fr (fun _ => False) w3 w4) := ⟨s1, s2, hh, f⟩
      clear s1 s2 hh f
      have H24 : Hid (Holds (Value.int .i32) w4 B2 0 H) := X3.out.2.2.2.holds X2.out.2.2.1 (fun f => f)
      go_wp2_with fail
      refine (clone20A B2 0 n n H _ HS.out hn (fun j hj => (H24.out j (by rw [HS.out]; exact hj)).1)).mono ?_
      rintro e w5 ⟨B4, rfl, s1, s2, hh, f⟩
      have X4 : Hid (w4.heap.size ≤ B4 ∧ B4 < w5.heap.size ∧ Holds (Value.int .i32) w5 B4 0 H ∧ Row.Fr (fun _ => False) w4 w5) := ⟨s1, s2, hh, f⟩
      clear s1 s2 hh f
      have H35 : Hid (Holds (Value.int .i32) w5 B3 0 T) := X4.out.2.2.2.holds X3.out.2.2.1 (fun f => f)
      go_wp2_with fail
      refine (clone20A B3 0 nT nT T _ ST.out hnT (fun j hj => (H35.out j (by rw [ST.out]; exact hj)).1)).mono ?_
      rintro e w6 ⟨B5, rfl, s1, s2, hh, f⟩
      have X5 : Hid (w5.heap.size ≤ B5 ∧ B5 < w6.heap.size ∧ Holds (Value.int .i32) w6 B5 0 T ∧ Row.Fr (fun _ => False) w5 w6) := ⟨s1, s2, hh, f⟩
      clear s1 s2 hh f
      have ORD : Hid (w0.heap.size ≤ B1 ∧ B1 < B2 ∧ B2 < B3 ∧ B3 < B4 ∧ B4 < B5 ∧ B5 < w6.heap.size) := by
        have a := X1.out; have b := X2.out; have c := X3.out; have d := X4.out; have e := X5.out; have f := F1.out.size
        exact ⟨by omega, by omega, by omega, by omega, by omega, by omega⟩
      have L6 : Hid (Holds (Value.float .f64) w6 B1 0 A ∧ Holds encN w6 B2 0 (toN H) ∧ Holds (Value.int .i32) w6 B3 0 T ∧ Holds encN w6 B4 0 (toN H) ∧ Holds (Value.int .i32) w6 B5 0 T ∧ Row.Fr (fun _ => False) w0 w6) := by
        have a := X1.out; have b := X2.out; have c := X3.out; have d := X4.out; have e := X5.out
        have f45 := d.2.2.2.trans e.2.2.2
        have f35 := c.2.2.2.trans f45
        have f25 := b.2.2.2.trans f35
        exact ⟨f25.holds a.2.2.1 (fun f => f), holds_toN (f35.holds b.2.2.1 (fun f => f)) HS.out HD.out, f45.holds c.2.2.1 (fun f => f), holds_toN (e.2.2.2.holds d.2.2.1 (fun f => f)) HS.out HD.out, e.2.2.1, F2.out.trans f25⟩
      clear X1 X2 X3 X4 X5 H24 H35 F1 F2 F3 KH KA KT
      go_wp2_with fail
      refine (zz21 B1 B4 B5 n n nA nA nT nT i0 A (toN H) T _ L6.out.1 L6.out.2.2.2.1 L6.out.2.2.2.2.1 SA.out ST.out hn (by have := ORD.out; omega) (by have := ORD.out; omega) (by have := ORD.out; omega) (by have := ORD.out; omega) (by have := ORD.out; omega) DI0.out).mono ?_
      rintro e w7 ⟨rfl, V, T', hdone, hV, hT', hf7⟩
      have DN : Hid (Hp.Done A (toN H) T n i0 V T') := hdone
      have S7 : Hid (w6.heap.size ≤ w7.heap.size) := hf7.size
      have LS0 : Hid (LS w0 (w7.alloc (.cells (Array.replicate nT (.int .i8 0)) 39)) B1 B2 B3 B4 B5 w7.heap.size A (toN H) V T T' (Array.replicate nT 0)) := by
        have o := ORD.out; have l := L6.out
        have f : Row.Fr (fun _ => False) w7 (w7.alloc (.cells (Array.replicate nT (.int .i8 0)) 39)) := (Row.Fr.refl _ _).alloc _
        refine ⟨f.holds (hf7.holds l.1 (by omega)) (fun f => f), f.holds (hf7.holds l.2.1 (by omega)) (fun f => f), f.holds (hf7.holds l.2.2.1 (by omega)) (fun f => f), f.holds hV (fun f => f), f.holds hT' (fun f => f), Row.holds_made (enc := Value.int .i8) w7 nT 0 39, ?_⟩
        exact ((l.2.2.2.2.2.mono (fun _ _ f => f.elim)).step hf7 (T := fun b => b = B4 ∨ b = B5) (S := fun _ => False) (fun i hi h => by omega) |>.trans f).below (Nat.le_refl _) (fun _ _ f => f)
      clear hdone hV hT' hf7 L6 DI0
      have NR : Hid (∀ j : Nat, j < n → (toN H)[j]! < nT) := fun j hj => (toN_cast HS.out HD.out hj).2.1
      have SN : Hid ((toN H).size = n) := by rw [toN_size]; exact HS.out
      generalize hN : toN H = N at *
      clear hN
      have BM : Hid (B5 < w7.heap.size ∧ w0.heap.size ≤ w7.heap.size) := ⟨by have := ORD.out; have := S7.out; omega, by have := ORD.out; have := S7.out; omega⟩
      generalize hBm : w7.heap.size = Bm at *
      have SV : Hid (V.size = n) := by rw [DN.out.sz]; exact SN.out
      have ST' : Hid (T'.size = nT) := by rw [DN.out.tsz]; exact ST.out
      go_wp2_with (at_make; refine Row.wpList_make_row _ rfl _ _ 37 rfl 39 (.int .i8 0) 1 Try.underlying37 Try.info39 rfl _ _ _ _ nT rfl rfl rfl rfl (by omega) (by omega) ?_)
      clear hBm
      have mk : Hid (∀ (wr : World) (M : Array Int) (x : Nat) (v : Int), LS w0 wr B1 B2 B3 B4 B5 Bm A N V T T' M → M.size = nT → x < nT → LS w0 (wr.setCell ⟨Bm, x, none⟩ (.int .i8 v)) B1 B2 B3 B4 B5 Bm A N V T T' (M.setIfInBounds x v)) := fun wr M x v h hs hx => by
        have o := ORD.out; have bm := BM.out
        exact h.mark (by omega) (by omega) (by omega) (by omega) (by omega) bm.2 (by omega) v
      clear BM ORD S7
      -- loop 1: the marks
      go_loopw [13] (fun v wr => ∃ (j : Nat) (M : Array Int), v = .int .i64 j ∧ j ≤ n ∧ LS w0 wr B1 B2 B3 B4 B5 Bm A N V T T' M ∧ Hid (M.size = nT) ∧ Hid ((∀ k : Nat, k < j → Hp.sub i0 k = true → M[N[k]!]! = 1) ∧ (∀ x : Nat, (∀ k : Nat, k < j → Hp.sub i0 k = true → N[k]! ≠ x) → M[x]! = 0))) (fun v _ => n - (intOf v).toNat)
      case atStart => exact ⟨0, _, rfl, by omega, LS0.out, by simp [Hid], fun k hk => by omega, fun x _ => replicate_get nT x⟩
      case round =>
        clear LS0
        obtain ⟨j, M, rfl, hj, hls, hM, hI⟩ := hrel
        by_cases hjn : j < n
        · have SB := sub22 i0 j wr (by omega) (by omega)
          have cN := (holds_at hls.n (t := j) (by rw [SN.out]; exact hjn)).1
          have rN := NR.out j hjn
          cases hsb : Hp.sub i0 j with
          | true =>
            rw [hsb] at SB
            have WN := mk.out wr M N[j]! 1 hls hM.out rN
            have HI : Hid ((∀ k : Nat, k < j + 1 → Hp.sub i0 k = true → (M.setIfInBounds N[j]! 1)[N[k]!]! = 1) ∧ (∀ x : Nat, (∀ k : Nat, k < j + 1 → Hp.sub i0 k = true → N[k]! ≠ x) → (M.setIfInBounds N[j]! 1)[x]! = 0)) := by
              refine ⟨fun k hk hsk => ?_, fun x hx => ?_⟩
              · by_cases e : N[k]! = N[j]!
                · rw [e, getElem!_set_same M N[j]! 1 (by rw [hM.out]; exact rN)]
                · rw [getElem!_set_other M N[j]! N[k]! 1 e]
                  refine hI.out.1 k ?_ hsk
                  by_cases q : k = j
                  · rw [q] at e; exact absurd rfl e
                  · omega
              · rw [getElem!_set_other M N[j]! x 1 (fun e => hx j (by omega) hsb e.symm)]
                exact hI.out.2 x (fun k hk hsk => hx k (by omega) hsk)
            obtain ⟨cm, fm⟩ := holds_at hls.m (t := N[j]!) (by rw [hM.out]; exact rN)
            clear hsb
            unfold encN at cN
            generalize M[N[j]!]! = mv at cm
            generalize N[j]! = xj at cN rN WN HI cm fm
            have HWN : Hid _ := WN
            clear WN
            have i1 : (xj : Int) < (nT : Int) := by omega
            go_wp2_with fail
            refine SB.mono ?_
            rintro e w8 ⟨rfl, rfl⟩
            go_wp2
            go_roundw
            case rel => exact ⟨j + 1, _, by go_num, by omega, HWN.out, by rw [Array.size_setIfInBounds]; exact hM.out, HI⟩
            case measure => simp [intOf]; omega
          | false =>
            rw [hsb] at SB
            have cV := (holds_at hls.h (t := j) (by rw [SV.out]; exact hjn)).1
            have e0 := DN.out.out j (by rintro ⟨_, h⟩; rw [hsb] at h; cases h)
            rw [e0] at cV
            have HI : Hid ((∀ k : Nat, k < j + 1 → Hp.sub i0 k = true → M[N[k]!]! = 1) ∧ (∀ x : Nat, (∀ k : Nat, k < j + 1 → Hp.sub i0 k = true → N[k]! ≠ x) → M[x]! = 0)) := by
              refine ⟨fun k hk hsk => ?_, fun x hx => hI.out.2 x (fun k hk hsk => hx k (by omega) hsk)⟩
              refine hI.out.1 k ?_ hsk
              by_cases q : k = j
              · rw [q, hsb] at hsk; cases hsk
              · omega
            clear hsb e0
            unfold encN at cN cV
            generalize N[j]! = xj at cN rN cV
            have i1 : (j : Int) < (n : Int) := by omega
            go_wp2_with fail
            refine SB.mono ?_
            rintro e w8 ⟨rfl, rfl⟩
            go_wp2_with fail
            go_quiet (fail)
            go_wp2
            go_roundw
            case rel => exact ⟨j + 1, M, by go_num, by omega, hls.drewN _, hM, HI⟩
            case measure => simp [intOf]; omega
        · have ALL : Hid ((∀ k : Nat, k < n → Hp.sub i0 k = true → M[N[k]!]! = 1) ∧ (∀ x : Nat, (∀ k : Nat, k < n → Hp.sub i0 k = true → N[k]! ≠ x) → M[x]! = 0)) := by
            have e : j = n := by omega
            rw [e] at hI
            exact hI.out
          have HLS : Hid (LS w0 wr B1 B2 B3 B4 B5 Bm A N V T T' M) := hls
          clear hI hls
          go_wp2_with fail
          -- loop 2: each variable of the subtree once
          go_loopw [14] (fun v wr => ∃ (j : Nat) (M : Array Int), v = .int .i64 j ∧ i0 ≤ j ∧ j ≤ n ∧ LS w0 wr B1 B2 B3 B4 B5 Bm A N V T T' M ∧ Hid (M.size = nT) ∧ Hid ((∀ k : Nat, j ≤ k → k < n → Hp.sub i0 k = true → M[V[k]!]! = 1) ∧ (∀ k : Nat, k < n → Hp.sub i0 k = true → M[N[k]!]! ≠ 0))) (fun v _ => n - (intOf v).toNat)
          case atStart =>
            refine ⟨i0, M, rfl, by omega, by omega, HLS.out, hM, fun k _ hk hsk => ?_, fun k hk hsk => ?_⟩
            · obtain ⟨k', h1, h2, h3⟩ := DN.out.mem k hk hsk
              rw [h3]; exact ALL.out.1 k' h1 h2
            · rw [ALL.out.1 k hk hsk]; decide
          case round =>
            clear HLS ALL hM hjn hj
            clear M
            obtain ⟨j, M, rfl, j0, hj, hls, hM, hI⟩ := hrel
            by_cases hjn : j < n
            · have SB := sub22 i0 j wr (by omega) (by omega)
              cases hsb : Hp.sub i0 j with
              | false =>
                rw [hsb] at SB
                have HI : Hid ((∀ k : Nat, j + 1 ≤ k → k < n → Hp.sub i0 k = true → M[V[k]!]! = 1) ∧ (∀ k : Nat, k < n → Hp.sub i0 k = true → M[N[k]!]! ≠ 0)) := ⟨fun k h1 h2 h3 => hI.out.1 k (by omega) h2 h3, hI.out.2⟩
                clear hsb
                go_wp2_with fail
                refine SB.mono ?_
                rintro e w8 ⟨rfl, rfl⟩
                go_wp2
                go_roundw
                case rel => exact ⟨j + 1, M, by go_num, by omega, by omega, hls, hM, HI⟩
                case measure => simp [intOf]; omega
              | true =>
                rw [hsb] at SB
                have cV := (holds_at hls.h (t := j) (by rw [SV.out]; exact hjn)).1
                have rV : V[j]! < nT := by have := (DN.out.rng j hjn).1; rw [ST'.out] at this; exact this
                have m1 := hI.out.1 j (Nat.le_refl _) hjn hsb
                have WN := mk.out wr M V[j]! 2 hls hM.out rV
                have HI : Hid ((∀ k : Nat, j + 1 ≤ k → k < n → Hp.sub i0 k = true → (M.setIfInBounds V[j]! 2)[V[k]!]! = 1) ∧ (∀ k : Nat, k < n → Hp.sub i0 k = true → (M.setIfInBounds V[j]! 2)[N[k]!]! ≠ 0)) := by
                  refine ⟨fun k h1 h2 h3 => ?_, fun k h1 h2 => ?_⟩
                  · rw [getElem!_set_other M V[j]! V[k]! 2 (fun e => by have := DN.out.inj k j h2 hjn e; omega)]
                    exact hI.out.1 k (by omega) h2 h3
                  · by_cases e : N[k]! = V[j]!
                    · rw [e, getElem!_set_same M V[j]! 2 (by rw [hM.out]; exact rV)]; decide
                    · rw [getElem!_set_other M V[j]! N[k]! 2 e]; exact hI.out.2 k h1 h2
                obtain ⟨cm, fm⟩ := holds_at hls.m (t := V[j]!) (by rw [hM.out]; exact rV)
                rw [m1] at cm
                clear m1 hsb
                unfold encN at cV
                generalize V[j]! = xj at cV rV WN HI cm fm
                have HWN : Hid _ := WN
                clear WN
                have i1 : (xj : Int) < (nT : Int) := by omega
                go_wp2_with fail
                refine SB.mono ?_
                rintro e w8 ⟨rfl, rfl⟩
                go_wp2
                go_roundw
                case rel => exact ⟨j + 1, _, by go_num, by omega, by omega, HWN.out, by rw [Array.size_setIfInBounds]; exact hM.out, HI⟩
                case measure => simp [intOf]; omega
            · have NZ : Hid (∀ k : Nat, k < n → Hp.sub i0 k = true → M[N[k]!]! ≠ 0) := hI.out.2
              have HLS : Hid (LS w0 wr B1 B2 B3 B4 B5 Bm A N V T T' M) := hls
              clear hI hls
              go_wp2_with fail
              -- loop 3: the order
              go_loopw [16] (fun v wr => ∃ j : Nat, v = .int .i64 ((j : Int) + 1) ∧ i0 ≤ j ∧ j < n ∧ LS w0 wr B1 B2 B3 B4 B5 Bm A N V T T' M) (fun v _ => n - (intOf v).toNat)
              case atStart => exact ⟨i0, rfl, by omega, by omega, HLS.out⟩
              case round =>
                clear HLS hjn hj j0
                obtain ⟨j, rfl, j0, hj, hls⟩ := hrel
                by_cases hjn : j + 1 < n
                · have SB := sub22 i0 (j + 1) wr (by omega) (by omega)
                  rw [show ((j + 1 : Nat) : Int) = (j : Int) + 1 by omega] at SB
                  cases hsb : Hp.sub i0 (j + 1) with
                  | false =>
                    rw [hsb] at SB
                    clear hsb
                    go_wp2_with fail
                    refine SB.mono ?_
                    rintro e w8 ⟨rfl, rfl⟩
                    go_wp2
                    go_roundw
                    case rel => exact ⟨j + 1, by go_num, by omega, by omega, hls⟩
                    case measure => simp [intOf]; omega
                  | true =>
                    rw [hsb] at SB
                    obtain ⟨p, hp⟩ : ∃ p, j / 2 = p := ⟨_, rfl⟩
                    have hpi : (j : Int) / 2 = (p : Int) := by omega
                    have hp1 : (j + 1 - 1) / 2 = p := by omega
                    have hpn : p < n := by omega
                    have cj := (holds_at hls.h (t := j + 1) (by rw [SV.out]; exact hjn)).1
                    have cp := (holds_at hls.h (t := p) (by rw [SV.out]; exact hpn)).1
                    have rj := (DN.out.rng (j + 1) hjn).2
                    have rp := (DN.out.rng p hpn).2
                    rw [SA.out] at rj rp
                    have aj := (holds_at hls.a (t := V[j + 1]!) (by rw [SA.out]; exact rj)).1
                    have ap := (holds_at hls.a (t := V[p]!) (by rw [SA.out]; exact rp)).1
                    have psub : Hp.sub i0 p = true := by rw [← hp1, ← Hp.sub_gt (by omega)]; exact hsb
                    have od := DN.out.ord (j + 1) hjn hsb (by omega)
                    rw [hp1] at od
                    have ge := Hp.ge_nn (DN.out.nan p hpn psub) (DN.out.nan (j + 1) hjn hsb)
                    rw [decide_eq_true od] at ge
                    clear od psub hsb hp1 hp
                    unfold encN at cj cp
                    generalize V[j + 1]! = xj at cj rj aj ge
                    generalize V[p]! = xp at cp rp ap ge
                    generalize A[xj]! = fj at aj ge
                    generalize A[xp]! = fp at ap ge
                    have i1 : (j : Int) + 1 < (n : Int) := by omega
                    have i2 : (p : Int) < (n : Int) := by omega
                    have i3 : (xj : Int) < (nA : Int) := by omega
                    have i4 : (xp : Int) < (nA : Int) := by omega
                    go_wp2_with fail
                    refine SB.mono ?_
                    rintro e w8 ⟨rfl, rfl⟩
                    go_wp2_with fail
                    go_quiet (fail)
                    go_wp2
                    go_roundw
                    case rel => exact ⟨j + 1, by go_num, by omega, by omega, hls.drewN _⟩
                    case measure => simp [intOf]; omega
                · have HLS : Hid (LS w0 wr B1 B2 B3 B4 B5 Bm A N V T T' M) := hls
                  clear hls
                  go_wp2_with fail
                  -- loop 4: the places
                  go_loop [18] (fun v => ∃ j : Nat, v = .int .i64 j ∧ i0 ≤ j ∧ j ≤ n) (fun v => n - (intOf v).toNat)
                  case atStart => exact ⟨i0, rfl, by omega, by omega⟩
                  case round =>
                    clear hjn hj j0
                    obtain ⟨j, rfl, j0, hj⟩ := hrel
                    by_cases hjn : j < n
                    · have SB := sub22 i0 j wr (by omega) (by omega)
                      cases hsb : Hp.sub i0 j with
                      | false =>
                        rw [hsb] at SB
                        clear hsb
                        go_wp2_with fail
                        refine SB.mono ?_
                        rintro e w8 ⟨rfl, rfl⟩
                        go_wp2
                        go_round
                        case rel => exact ⟨j + 1, by go_num, by omega, by omega⟩
                        case measure => simp [intOf]; omega
                      | true =>
                        rw [hsb] at SB
                        have cj := (holds_at HLS.out.h (t := j) (by rw [SV.out]; exact hjn)).1
                        have rj := (DN.out.rng j hjn).1
                        rw [ST'.out] at rj
                        have tj := (holds_at HLS.out.at_ (t := V[j]!) (by rw [ST'.out]; exact rj)).1
                        rw [DN.out.at_ j hjn hsb] at tj
                        clear hsb
                        unfold encN at cj
                        generalize V[j]! = xj at cj rj tj
                        have i1 : (j : Int) < (n : Int) := by omega
                        have i3 : (xj : Int) < (nT : Int) := by omega
                        go_wp2_with fail
                        refine SB.mono ?_
                        rintro e w8 ⟨rfl, rfl⟩
                        go_wp2
                        go_round
                        case rel => exact ⟨j + 1, by go_num, by omega, by omega⟩
                        case measure => simp [intOf]; omega
                    · go_wp2_with fail
                      -- loop 5: the others' places
                      go_loopw [19] (fun v wr => ∃ x : Nat, v = .int .i64 x ∧ x ≤ nT ∧ LS w0 wr B1 B2 B3 B4 B5 Bm A N V T T' M) (fun v _ => nT - (intOf v).toNat)
                      case atStart => exact ⟨0, rfl, by omega, HLS.out⟩
                      case round =>
                        clear HLS hjn hj j0
                        obtain ⟨x, rfl, hx, hls⟩ := hrel
                        by_cases hxn : x < nT
                        · have cm := (holds_at hls.m (t := x) (by rw [hM.out]; exact hxn)).1
                          have ct := (holds_at hls.t (t := x) (by rw [ST.out]; exact hxn)).1
                          have ct' := (holds_at hls.at_ (t := x) (by rw [ST'.out]; exact hxn)).1
                          have i1 : (x : Int) < (nT : Int) := by omega
                          by_cases hm0 : M[x]! = 0
                          · have eq := DN.out.oth x (fun k h1 h2 h3 => NZ.out k h1 h2 (by rw [h3]; exact hm0))
                            rw [eq] at ct'
                            rw [hm0] at cm
                            clear eq hm0
                            generalize T[x]! = tx at ct ct'
                            go_wp2_with fail
                            go_quiet (fail)
                            go_wp2
                            go_roundw
                            case rel => exact ⟨x + 1, by go_num, by omega, hls.drewN _⟩
                            case measure => simp [intOf]; omega
                          · have g1 : (M[x]! == 0) = false := by rw [beq_eq_false_iff_ne]; exact hm0
                            clear hm0
                            generalize M[x]! = mx at cm g1
                            go_wp2_with fail
                            go_quiet (fail)
                            go_wp2
                            go_roundw
                            case rel => exact ⟨x + 1, by go_num, by omega, hls.drewN _⟩
                            case measure => simp [intOf]; omega
                        · go_wp2
                          go_ret
                          exact ⟨rfl, hls.bl⟩
  · clear P
    go_wp2
    go_ret
    exact ⟨rfl, Below.refl _ _⟩
end Go.Proofs.Qxb6602679a
