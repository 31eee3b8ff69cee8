import Derived.Test.Qxb6602679aPopLaw0
namespace Go.Proofs.Qxb6602679a
open Go.ChangeShapes Go.WideShapes Go.ChangeAt Go.RowKit Go.Sort
set_option linter.unusedVariables false

theorem gt_self64 (x : Nat) : (FloatKind.f64.format.order x x == some .gt) = false := by
  show (Ieee.double.order x x == some .gt) = false
  rw [Fl.order_eq]
  cases Fl.key Ieee.double x with
  | none => rfl
  | some a => simp [Fl.compare_int]
theorem top_test {A V : Array Nat} {T : Array Int} {n : Nat} (h : Hp.Ok A V T n) (j : Nat) (hj : j < n) : (FloatKind.f64.format.order A[V[j]!]! A[V[0]!]! == some .gt) = false := by
  by_cases h2 : 2 ≤ n
  · rw [Hp.gt_nn (h.nan h2 j hj) (h.nan h2 0 (by omega))]
    have := Hp.root_max h j hj
    exact decide_eq_false (by omega)
  · have e : j = 0 := by omega
    rw [e]; exact gt_self64 _

set_option maxHeartbeats 8000000 in
set_option maxRecDepth 1000000 in
theorem law7 (bh oh n ch : Nat) (pT pA : Option Addr) (nT cT nA cA : Nat) (A : Array Nat) (H T : Array Int) (w : World) (hn : n ≤ 65536) (hnT : nT ≤ 65536) (hnA : nA ≤ 65536) (h0 : 0 < n) (hs : H.size = n) (sA : A.size = nA) (sT : T.size = nT)
    (hc : ∀ j : Nat, j < n → w.cell? ⟨bh, oh + j, none⟩ = some (.int .i32 H[j]!)) (hw : ∀ j : Nat, j < n → -2147483648 ≤ H[j]! ∧ H[j]! ≤ 2147483647) (hA : Sl (Value.float .f64) w pA nA A) (hT : Sl (Value.int .i32) w pT nT T) :
    Calls Try.prog 7 #[.slice pA nA cA, .slice (some ⟨bh, oh, none⟩) n ch, .slice pT nT cT] w fun e w' => e = .returned (.bool true) ∧ Below w.heap.size w w' := by
  have P := valid26 bh oh n ch pT pA nT cT nA cA A H T w hn hnT hnA h0 hs hc hw hA hT
  have HC : Hid (∀ j : Nat, j < n → w.cell? ⟨bh, oh + j, none⟩ = some (.int .i32 H[j]!)) := hc
  have HA : Hid (Sl (Value.float .f64) w pA nA A) := hA
  have HT : Hid (Sl (Value.int .i32) w pT nT T) := hT
  have HS : Hid (H.size = n) := hs
  have SA : Hid (A.size = nA) := sA
  have ST : Hid (T.size = nT) := sT
  have BY := bytes25 pA (some ⟨bh, oh, none⟩) pT nA cA n ch nT cT w
  have hne : ((n : Int) == 0) = false := by rw [beq_eq_false_iff_ne]; omega
  clear hc hw hA hT hs sA sT
  go_enter Try.func7, Try.ntmps7
  go_wp2_with fail
  refine BY.mono ?_
  rintro e w0 ⟨he, rfl⟩
  clear BY
  rcases he with rfl | rfl
  · go_wp2_with fail
    refine P.mono ?_
    rintro e w1 ⟨r, rfl, hr, hfr⟩
    clear P
    cases r with
    | false =>
      clear hr
      go_wp2
      go_ret
      exact ⟨rfl, hfr.below (Nat.le_refl _) (fun _ _ f => f)⟩
    | true =>
      obtain ⟨hd, hpm⟩ := hr rfl
      have HD : Hid (Dist H n nT nA) := hd
      have hpos := toN_cast HS.out hd (show 0 < n by omega)
      obtain ⟨bA, oA, rfl, cA'⟩ := HA.out (by omega)
      obtain ⟨bT, oT, rfl, cT'⟩ := HT.out (by omega)
      have OK0 : Hid (Hp.Ok A (toN H) T n) := Ok_start HS.out SA.out ST.out hd hpm
      have F1 : Hid (Row.Fr (fun _ => False) w0 w1) := hfr
      have KH : Hid (∀ wr, Row.Fr (fun _ => False) w0 wr → ∀ j : Nat, j < n → wr.cell? ⟨bh, oh + j, none⟩ = some (.int .i32 H[j]!)) := fun wr f j hj => by
        have := HC.out j hj
        rw [f.cell (p := ⟨bh, oh + j, none⟩) (World.block_lt_of_cell? _ _ this) (fun f => f), this]
      have KA : Hid (∀ wr, Row.Fr (fun _ => False) w0 wr → ∀ j : Nat, j < nA → wr.cell? ⟨bA, oA + j, none⟩ = some (.float .f64 A[j]!)) := fun wr f j hj => by
        have := cA' j hj
        rw [f.cell (p := ⟨bA, oA + j, none⟩) (World.block_lt_of_cell? _ _ this) (fun f => f), this]
      have KT : Hid (∀ wr, Row.Fr (fun _ => False) w0 wr → ∀ j : Nat, j < nT → wr.cell? ⟨bT, oT + j, none⟩ = some (.int .i32 T[j]!)) := fun wr f j hj => by
        have := cT' j hj
        rw [f.cell (p := ⟨bT, oT + j, none⟩) (World.block_lt_of_cell? _ _ this) (fun f => f), this]
      clear hr hd hpos cA' cT' hfr HC HA HT hpm
      go_wp2_with fail
      refine (clone19A bA oA cA nA A _ SA.out hnA (KA.out _ F1.out)).mono ?_
      rintro e w2 ⟨B1, rfl, s1, s2, hh, f⟩
      have X1 : Hid (w1.heap.size ≤ B1 ∧ B1 < w2.heap.size ∧ Holds (Value.float .f64) w2 B1 0 A ∧ Row.Fr (fun _ => False) w1 w2) := ⟨s1, s2, hh, f⟩
      clear s1 s2 hh f
      have F2 : Hid (Row.Fr (fun _ => False) w0 w2) := F1.out.trans X1.out.2.2.2
      go_wp2_with fail
      refine (clone20A bh oh ch n H _ HS.out hn (KH.out _ F2.out)).mono ?_
      rintro e w3 ⟨B2, rfl, s1, s2, hh, f⟩
      have X2 : Hid (w2.heap.size ≤ B2 ∧ B2 < w3.heap.size ∧ Holds (Value.int .i32) w3 B2 0 H ∧ Row.Fr (fun _ => False) w2 w3) := ⟨s1, s2, hh, f⟩
      clear s1 s2 hh f
      have F3 : Hid (Row.Fr (fun _ => False) w0 w3) := F2.out.trans X2.out.2.2.2
      go_wp2_with fail
      refine (clone20A bT oT cT nT T _ ST.out hnT (KT.out _ F3.out)).mono ?_
      rintro e w4 ⟨B3, rfl, s1, s2, hh, f⟩
      have X3 : Hid (w3.heap.size ≤ B3 ∧ B3 < w4.heap.size ∧ Holds (Value.int .i32) w4 B3 0 T ∧ Row.Fr (fun _ => False) w3 w4) := ⟨s1, s2, hh, f⟩
      clear s1 s2 hh f
      have H24 : Hid (Holds (Value.int .i32) w4 B2 0 H) := X3.out.2.2.2.holds X2.out.2.2.1 (fun f => f)
      go_wp2_with fail
      refine (clone20A B2 0 n n H _ HS.out hn (fun j hj => (H24.out j (by rw [HS.out]; exact hj)).1)).mono ?_
      rintro e w5 ⟨B4, rfl, s1, s2, hh, f⟩
      have X4 : Hid (w4.heap.size ≤ B4 ∧ B4 < w5.heap.size ∧ Holds (Value.int .i32) w5 B4 0 H ∧ Row.Fr (fun _ => False) w4 w5) := ⟨s1, s2, hh, f⟩
      clear s1 s2 hh f
      have H35 : Hid (Holds (Value.int .i32) w5 B3 0 T) := X4.out.2.2.2.holds X3.out.2.2.1 (fun f => f)
      go_wp2_with fail
      refine (clone20A B3 0 nT nT T _ ST.out hnT (fun j hj => (H35.out j (by rw [ST.out]; exact hj)).1)).mono ?_
      rintro e w6 ⟨B5, rfl, s1, s2, hh, f⟩
      have X5 : Hid (w5.heap.size ≤ B5 ∧ B5 < w6.heap.size ∧ Holds (Value.int .i32) w6 B5 0 T ∧ Row.Fr (fun _ => False) w5 w6) := ⟨s1, s2, hh, f⟩
      clear s1 s2 hh f
      have ORD : Hid (w0.heap.size ≤ B1 ∧ B1 < B2 ∧ B2 < B3 ∧ B3 < B4 ∧ B4 < B5 ∧ B5 < w6.heap.size) := by
        have a := X1.out; have b := X2.out; have c := X3.out; have d := X4.out; have e := X5.out; have f := F1.out.size
        exact ⟨by omega, by omega, by omega, by omega, by omega, by omega⟩
      have L6 : Hid (Holds (Value.float .f64) w6 B1 0 A ∧ Holds encN w6 B2 0 (toN H) ∧ Holds (Value.int .i32) w6 B3 0 T ∧ Holds encN w6 B4 0 (toN H) ∧ Holds (Value.int .i32) w6 B5 0 T ∧ Row.Fr (fun _ => False) w0 w6) := by
        have a := X1.out; have b := X2.out; have c := X3.out; have d := X4.out; have e := X5.out
        have f45 := d.2.2.2.trans e.2.2.2
        have f35 := c.2.2.2.trans f45
        have f25 := b.2.2.2.trans f35
        exact ⟨f25.holds a.2.2.1 (fun f => f), holds_toN (f35.holds b.2.2.1 (fun f => f)) HS.out HD.out, f45.holds c.2.2.1 (fun f => f), holds_toN (e.2.2.2.holds d.2.2.1 (fun f => f)) HS.out HD.out, e.2.2.1, F2.out.trans f25⟩
      clear X1 X2 X3 X4 X5 H24 H35 F1 F2 F3 KH KA KT
      go_wp2_with fail
      refine (zz27 B1 B4 B5 n n nA nA nT nT A (toN H) T _ L6.out.1 L6.out.2.2.2.1 L6.out.2.2.2.2.1 SA.out ST.out (by omega) hn (Nat.le_refl _) hn (by have := ORD.out; omega) (by have := ORD.out; omega) (by have := ORD.out; omega) (by have := ORD.out; omega) (by have := ORD.out; omega) (by have := ORD.out; omega) OK0.out).mono ?_
      rintro e w7 ⟨rfl, V, T', hpop, hV, hT', hf7⟩
      have PP : Hid (Hp.Popped A (toN H) T n V T') := hpop
      have S7 : Hid (w6.heap.size ≤ w7.heap.size) := hf7.size
      have LS0 : Hid (LS w0 (w7.alloc (.cells (Array.replicate nT (.int .i8 0)) 39)) B1 B2 B3 B4 B5 w7.heap.size A (toN H) V T T' (Array.replicate nT 0)) := by
        have o := ORD.out; have l := L6.out
        have f : Row.Fr (fun _ => False) w7 (w7.alloc (.cells (Array.replicate nT (.int .i8 0)) 39)) := (Row.Fr.refl _ _).alloc _
        refine ⟨f.holds (hf7.holds l.1 (by omega)) (fun f => f), f.holds (hf7.holds l.2.1 (by omega)) (fun f => f), f.holds (hf7.holds l.2.2.1 (by omega)) (fun f => f), f.holds hV (fun f => f), f.holds hT' (fun f => f), Row.holds_made (enc := Value.int .i8) w7 nT 0 39, ?_⟩
        exact ((l.2.2.2.2.2.mono (fun _ _ f => f.elim)).step hf7 (T := fun b => b = B4 ∨ b = B5) (S := fun _ => False) (fun i hi h => by omega) |>.trans f).below (Nat.le_refl _) (fun _ _ f => f)
      clear hpop hV hT' hf7 L6
      have NR : Hid (∀ j : Nat, j < n → (toN H)[j]! < nT ∧ (toN H)[j]! < nA) := fun j hj => (toN_cast HS.out HD.out hj).2
      have SN : Hid ((toN H).size = n) := by rw [toN_size]; exact HS.out
      generalize hN : toN H = N at *
      clear hN
      have BM : Hid (B5 < w7.heap.size ∧ w0.heap.size ≤ w7.heap.size) := ⟨by have := ORD.out; have := S7.out; omega, by have := ORD.out; have := S7.out; omega⟩
      generalize hBm : w7.heap.size = Bm at *
      have SV : Hid (V.size = n) := by rw [PP.out.sz]; exact SN.out
      have ST' : Hid (T'.size = nT) := by rw [PP.out.tsz]; exact ST.out
      obtain ⟨r0T, r0A⟩ := NR.out 0 h0
      obtain ⟨r, hr0⟩ : ∃ r, N[0]! = r := ⟨_, rfl⟩
      have HR : Hid (N[0]! = r) := hr0
      rw [hr0] at r0T r0A ⊢
      clear hr0
      have i0 : (r : Int) < (nT : Int) := by omega
      obtain ⟨m, hm⟩ : ∃ m, n - 1 = m := ⟨_, rfl⟩
      have hm1 : (n : Int) - 1 = (m : Int) := by omega
      have HM : Hid (n - 1 = m) := hm
      rw [hm]
      have mn : m < n := by omega
      clear hm
      go_wp2_with (at_make; refine Row.wpList_make_row _ rfl _ _ 37 rfl 39 (.int .i8 0) 1 Try.underlying37 Try.info39 rfl _ _ _ _ nT rfl rfl rfl rfl (by omega) (by omega) ?_)
      clear hBm
      have mk : Hid (∀ (wr : World) (M : Array Int) (x : Nat) (v : Int), LS w0 wr B1 B2 B3 B4 B5 Bm A N V T T' M → M.size = nT → x < nT → LS w0 (wr.setCell ⟨Bm, x, none⟩ (.int .i8 v)) B1 B2 B3 B4 B5 Bm A N V T T' (M.setIfInBounds x v)) := fun wr M x v h hs hx => by
        have o := ORD.out; have bm := BM.out
        exact h.mark (by omega) (by omega) (by omega) (by omega) (by omega) bm.2 (by omega) v
      have OKV : Hid (Hp.Ok A V T' m) := by have := PP.out.ok; rw [HM.out] at this; exact this
      have MEM : Hid (∀ j : Nat, j < m → ∃ k, 1 ≤ k ∧ k < n ∧ V[j]! = N[k]!) := by have := PP.out.mem; rw [HM.out] at this; exact this
      clear BM ORD S7
      -- loop 1: the marks
      go_loopw [14] (fun v wr => ∃ (j : Nat) (M : Array Int), v = .int .i64 j ∧ j ≤ n ∧ LS w0 wr B1 B2 B3 B4 B5 Bm A N V T T' M ∧ Hid (M.size = nT) ∧ Hid (∀ k : Nat, k < j → M[N[k]!]! = 1)) (fun v _ => n - (intOf v).toNat)
      case atStart => exact ⟨0, _, rfl, by omega, LS0.out, by simp [Hid], fun k hk => by omega⟩
      case round =>
        clear LS0
        obtain ⟨j, M, rfl, hj, hls, hM, hI⟩ := hrel
        by_cases hjn : j < n
        · have cN := (holds_at hls.n (t := j) (by rw [SN.out]; exact hjn)).1
          have rN := (NR.out j hjn).1
          have WN := mk.out wr M N[j]! 1 hls hM.out rN
          have HI : Hid (∀ k : Nat, k < j + 1 → (M.setIfInBounds N[j]! 1)[N[k]!]! = 1) := fun k hk => by
            by_cases e : N[k]! = N[j]!
            · rw [e, getElem!_set_same M N[j]! 1 (by rw [hM.out]; exact rN)]
            · rw [getElem!_set_other M N[j]! N[k]! 1 e]
              refine hI.out k ?_
              by_cases q : k = j
              · rw [q] at e; exact absurd rfl e
              · omega
          obtain ⟨cm, fm⟩ := holds_at hls.m (t := N[j]!) (by rw [hM.out]; exact rN)
          unfold encN at cN
          generalize M[N[j]!]! = mv at cm
          generalize N[j]! = xj at cN rN WN HI cm fm
          have HWN : Hid _ := WN
          clear WN
          have i1 : (xj : Int) < (nT : Int) := by omega
          go_wp2
          go_roundw
          case rel => exact ⟨j + 1, _, by go_num, by omega, HWN.out, by rw [Array.size_setIfInBounds]; exact hM.out, HI⟩
          case measure => simp [intOf]; omega
        · have ALL : Hid (∀ k : Nat, k < n → M[N[k]!]! = 1) := fun k hk => hI.out k (by omega)
          have HLS : Hid (LS w0 wr B1 B2 B3 B4 B5 Bm A N V T T' M) := hls
          have cr := (holds_at hls.m (t := r) (by rw [hM.out]; exact r0T)).1
          have cr1 := ALL.out 0 h0
          rw [HR.out] at cr1
          rw [cr1] at cr
          clear hI hls cr1
          go_wp2_with fail
          clear cr
          -- loop 2: none is more active
          go_loopw [15] (fun v wr => ∃ j : Nat, v = .int .i64 j ∧ j ≤ n ∧ LS w0 wr B1 B2 B3 B4 B5 Bm A N V T T' M) (fun v _ => n - (intOf v).toNat)
          case atStart => exact ⟨0, rfl, by omega, HLS.out⟩
          case round =>
            clear HLS hjn hj
            obtain ⟨j, rfl, hj, hls⟩ := hrel
            by_cases hjn : j < n
            · have cN := (holds_at hls.n (t := j) (by rw [SN.out]; exact hjn)).1
              have rA := (NR.out j hjn).2
              have aj := (holds_at hls.a (t := N[j]!) (by rw [SA.out]; exact rA)).1
              have ar := (holds_at hls.a (t := r) (by rw [SA.out]; exact r0A)).1
              have tst := top_test OK0.out j hjn
              rw [HR.out] at tst
              unfold encN at cN
              generalize N[j]! = xj at cN rA aj tst
              generalize A[xj]! = fj at aj tst
              generalize A[r]! = fr at ar tst
              have i1 : (xj : Int) < (nA : Int) := by omega
              have i2 : (r : Int) < (nA : Int) := by omega
              have i3 : (j : Int) < (n : Int) := by omega
              go_wp2_with fail
              go_quiet (fail)
              go_wp2
              go_roundw
              case rel => exact ⟨j + 1, by go_num, by omega, hls.drewN _⟩
              case measure => simp [intOf]; omega
            · have WN := mk.out wr M r 2 hls hM.out r0T
              obtain ⟨cr, fr⟩ := holds_at hls.m (t := r) (by rw [hM.out]; exact r0T)
              generalize M[r]! = mr at cr
              have HLS : Hid (LS w0 (wr.setCell ⟨Bm, r, none⟩ (.int .i8 2)) B1 B2 B3 B4 B5 Bm A N V T T' (M.setIfInBounds r 2)) := WN
              have M2 : Hid ((∀ k : Nat, k < m → (M.setIfInBounds r 2)[V[k]!]! = 1) ∧ (∀ k : Nat, k < n → (M.setIfInBounds r 2)[N[k]!]! ≠ 0)) := by
                refine ⟨fun k hk => ?_, fun k hk => ?_⟩
                · obtain ⟨k', h1, h2, h3⟩ := MEM.out k hk
                  rw [h3, getElem!_set_other M r N[k']! 2 (fun e => by rw [← HR.out] at e; have := OK0.out.inj k' 0 h2 h0 e; omega)]
                  exact ALL.out k' h2
                · by_cases e : N[k]! = r
                  · rw [e, getElem!_set_same M r 2 (by rw [hM.out]; exact r0T)]; decide
                  · rw [getElem!_set_other M r N[k]! 2 e, ALL.out k hk]; decide
              have hM2 : Hid ((M.setIfInBounds r 2).size = nT) := by rw [Array.size_setIfInBounds]; exact hM.out
              clear WN hls
              go_wp2_with fail
              clear cr fr
              -- loop 3: the other variables, each once
              go_loopw [16] (fun v wr => ∃ (j : Nat) (M : Array Int), v = .int .i64 j ∧ j ≤ m ∧ LS w0 wr B1 B2 B3 B4 B5 Bm A N V T T' M ∧ Hid (M.size = nT) ∧ Hid ((∀ k : Nat, j ≤ k → k < m → M[V[k]!]! = 1) ∧ (∀ k : Nat, k < n → M[N[k]!]! ≠ 0))) (fun v _ => m - (intOf v).toNat)
              case atStart => exact ⟨0, _, rfl, by omega, HLS.out, hM2, fun k _ hk => M2.out.1 k hk, M2.out.2⟩
              case round =>
                clear HLS M2 hM2 hjn hj hM ALL
                obtain ⟨j, M, rfl, hj, hls, hM, hI⟩ := hrel
                by_cases hjn : j < m
                · have cV := (holds_at hls.h (t := j) (by rw [SV.out]; omega)).1
                  have rV : V[j]! < nT := by have := (OKV.out.rng j hjn).1; rw [ST'.out] at this; exact this
                  have m1 := hI.out.1 j (Nat.le_refl _) hjn
                  have WN := mk.out wr M V[j]! 2 hls hM.out rV
                  have HI : Hid ((∀ k : Nat, j + 1 ≤ k → k < m → (M.setIfInBounds V[j]! 2)[V[k]!]! = 1) ∧ (∀ k : Nat, k < n → (M.setIfInBounds V[j]! 2)[N[k]!]! ≠ 0)) := by
                    refine ⟨fun k h1 h2 => ?_, fun k h1 => ?_⟩
                    · rw [getElem!_set_other M V[j]! V[k]! 2 (fun e => by have := OKV.out.inj k j h2 hjn e; omega)]
                      exact hI.out.1 k (by omega) h2
                    · by_cases e : N[k]! = V[j]!
                      · rw [e, getElem!_set_same M V[j]! 2 (by rw [hM.out]; exact rV)]; decide
                      · rw [getElem!_set_other M V[j]! N[k]! 2 e]; exact hI.out.2 k h1
                  obtain ⟨cm, fm⟩ := holds_at hls.m (t := V[j]!) (by rw [hM.out]; exact rV)
                  rw [m1] at cm
                  clear m1
                  unfold encN at cV
                  generalize V[j]! = xj at cV rV WN HI cm fm
                  have HWN : Hid _ := WN
                  clear WN
                  have i1 : (xj : Int) < (nT : Int) := by omega
                  have i2 : (j : Int) < (m : Int) := by omega
                  go_wp2
                  go_roundw
                  case rel => exact ⟨j + 1, _, by go_num, by omega, HWN.out, by rw [Array.size_setIfInBounds]; exact hM.out, HI⟩
                  case measure => simp [intOf]; omega
                · have NZ : Hid (∀ k : Nat, k < n → M[N[k]!]! ≠ 0) := hI.out.2
                  have HLS : Hid (LS w0 wr B1 B2 B3 B4 B5 Bm A N V T T' M) := hls
                  clear hI hls
                  go_wp2_with fail
                  -- loop 4: the order
                  go_loopw [18] (fun v wr => ∃ j : Nat, v = .int .i64 ((j : Int) + 1) ∧ j ≤ m ∧ LS w0 wr B1 B2 B3 B4 B5 Bm A N V T T' M) (fun v _ => m - (intOf v).toNat)
                  case atStart => exact ⟨0, rfl, by omega, HLS.out⟩
                  case round =>
                    clear HLS hjn hj
                    obtain ⟨j, rfl, hj, hls⟩ := hrel
                    by_cases hjn : j + 1 < m
                    · obtain ⟨p, hp⟩ : ∃ p, j / 2 = p := ⟨_, rfl⟩
                      have hpi : (j : Int) / 2 = (p : Int) := by omega
                      have hp1 : (j + 1 - 1) / 2 = p := by omega
                      have hpn : p < m := by omega
                      have cj := (holds_at hls.h (t := j + 1) (by rw [SV.out]; omega)).1
                      have cp := (holds_at hls.h (t := p) (by rw [SV.out]; omega)).1
                      have rj := (OKV.out.rng (j + 1) hjn).2
                      have rp := (OKV.out.rng p hpn).2
                      rw [SA.out] at rj rp
                      have aj := (holds_at hls.a (t := V[j + 1]!) (by rw [SA.out]; exact rj)).1
                      have ap := (holds_at hls.a (t := V[p]!) (by rw [SA.out]; exact rp)).1
                      have od := OKV.out.ord (j + 1) hjn (by omega)
                      rw [hp1] at od
                      have ge := Hp.ge_nn (OKV.out.nan (by omega) p hpn) (OKV.out.nan (by omega) (j + 1) hjn)
                      rw [decide_eq_true od] at ge
                      clear od hp1 hp
                      unfold encN at cj cp
                      generalize V[j + 1]! = xj at cj rj aj ge
                      generalize V[p]! = xp at cp rp ap ge
                      generalize A[xj]! = fj at aj ge
                      generalize A[xp]! = fp at ap ge
                      have i1 : (j : Int) + 1 < (m : Int) := by omega
                      have i2 : (p : Int) < (m : Int) := by omega
                      have i3 : (xj : Int) < (nA : Int) := by omega
                      have i4 : (xp : Int) < (nA : Int) := by omega
                      go_wp2_with fail
                      go_quiet (fail)
                      go_wp2
                      go_roundw
                      case rel => exact ⟨j + 1, by go_num, by omega, hls.drewN _⟩
                      case measure => simp [intOf]; omega
                    · have HLS : Hid (LS w0 wr B1 B2 B3 B4 B5 Bm A N V T T' M) := hls
                      have ct := (holds_at hls.at_ (t := r) (by rw [ST'.out]; exact r0T)).1
                      have tp := PP.out.top
                      rw [HR.out] at tp
                      rw [tp] at ct
                      clear hls tp
                      go_wp2_with fail
                      clear ct
                      -- loop 5: the places
                      go_loop [20] (fun v => ∃ j : Nat, v = .int .i64 j ∧ j ≤ m) (fun v => m - (intOf v).toNat)
                      case atStart => exact ⟨0, rfl, by omega⟩
                      case round =>
                        clear hjn hj
                        obtain ⟨j, rfl, hj⟩ := hrel
                        by_cases hjn : j < m
                        · have cj := (holds_at HLS.out.h (t := j) (by rw [SV.out]; omega)).1
                          have rj := (OKV.out.rng j hjn).1
                          rw [ST'.out] at rj
                          have tj := (holds_at HLS.out.at_ (t := V[j]!) (by rw [ST'.out]; exact rj)).1
                          rw [OKV.out.at_ j hjn] at tj
                          unfold encN at cj
                          generalize V[j]! = xj at cj rj tj
                          have i1 : (j : Int) < (m : Int) := by omega
                          have i3 : (xj : Int) < (nT : Int) := by omega
                          go_wp2
                          go_round
                          case rel => exact ⟨j + 1, by go_num, by omega⟩
                          case measure => simp [intOf]; omega
                        · go_wp2_with fail
                          -- loop 6: the others' places
                          go_loopw [21] (fun v wr => ∃ x : Nat, v = .int .i64 x ∧ x ≤ nT ∧ LS w0 wr B1 B2 B3 B4 B5 Bm A N V T T' M) (fun v _ => nT - (intOf v).toNat)
                          case atStart => exact ⟨0, rfl, by omega, HLS.out⟩
                          case round =>
                            clear HLS hjn hj
                            obtain ⟨x, rfl, hx, hls⟩ := hrel
                            by_cases hxn : x < nT
                            · have cm := (holds_at hls.m (t := x) (by rw [hM.out]; exact hxn)).1
                              have ct := (holds_at hls.t (t := x) (by rw [ST.out]; exact hxn)).1
                              have ct' := (holds_at hls.at_ (t := x) (by rw [ST'.out]; exact hxn)).1
                              have i1 : (x : Int) < (nT : Int) := by omega
                              by_cases hm0 : M[x]! = 0
                              · have eq := PP.out.oth x (fun k h1 h3 => NZ.out k h1 (by rw [h3]; exact hm0))
                                rw [eq] at ct'
                                rw [hm0] at cm
                                clear eq hm0
                                generalize T[x]! = tx at ct ct'
                                go_wp2_with fail
                                go_quiet (fail)
                                go_wp2
                                go_roundw
                                case rel => exact ⟨x + 1, by go_num, by omega, hls.drewN _⟩
                                case measure => simp [intOf]; omega
                              · have g1 : (M[x]! == 0) = false := by rw [beq_eq_false_iff_ne]; exact hm0
                                clear hm0
                                generalize M[x]! = mx at cm g1
                                go_wp2_with fail
                                go_quiet (fail)
                                go_wp2
                                go_roundw
                                case rel => exact ⟨x + 1, by go_num, by omega, hls.drewN _⟩
                                case measure => simp [intOf]; omega
                            · go_wp2
                              go_ret
                              exact ⟨rfl, hls.bl⟩
  · clear P
    go_wp2
    go_ret
    exact ⟨rfl, Below.refl _ _⟩

end Go.Proofs.Qxb6602679a
