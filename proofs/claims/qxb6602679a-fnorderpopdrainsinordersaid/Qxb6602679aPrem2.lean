import Derived.Test.Qxb6602679aPrem
namespace Go.Proofs.Qxb6602679a
open Go.ChangeShapes Go.WideShapes Go.ChangeAt Go.RowKit Go.Sort
set_option linter.unusedVariables false

/-- The entries as numbers of variables. -/
def toN (H : Array Int) : Array Nat := H.map Int.toNat
theorem toN_size (H : Array Int) : (toN H).size = H.size := by simp [toN]
theorem toN_get {H : Array Int} {j : Nat} (hj : j < H.size) : (toN H)[j]! = (H[j]!).toNat := by
  rw [getElem!_pos _ j (by simpa [toN] using hj), getElem!_pos H j hj]; simp [toN]
theorem toN_cast {H : Array Int} {n nT nA j : Nat} (hs : H.size = n) (h : Dist H n nT nA) (hj : j < n) : H[j]! = (((toN H)[j]! : Nat) : Int) ∧ (toN H)[j]! < nT ∧ (toN H)[j]! < nA := by
  have := h.1 j hj
  rw [toN_get (by omega)]
  omega
theorem toN_inj {H : Array Int} {n nT nA : Nat} (hs : H.size = n) (h : Dist H n nT nA) : ∀ j k : Nat, j < n → k < n → (toN H)[j]! = (toN H)[k]! → j = k := fun j k hj hk e => by
  have h1 := (toN_cast hs h hj).1
  have h2 := (toN_cast hs h hk).1
  rcases Nat.lt_trichotomy j k with l | l | l
  · exact absurd (by rw [h1, h2, e]) (h.2 j k l hk)
  · exact l
  · exact absurd (by rw [h1, h2, e]) (h.2 k j l hj)

/-- A slice that came in, by its cells, where it has any. -/
def Sl {α : Type} [Inhabited α] (enc : α → Value) (w : World) (p : Option Addr) (n : Nat) (d : Array α) : Prop := 0 < n → ∃ b off, p = some ⟨b, off, none⟩ ∧ ∀ j : Nat, j < n → w.cell? ⟨b, off + j, none⟩ = some (enc d[j]!)

/-- What 'satb1DownPremise' finds of the places from i0 up to k. -/
def Pm (A H : Array Nat) (T : Array Int) (i0 k : Nat) : Prop := ∀ j : Nat, i0 ≤ j → j < k → Hp.sub i0 j = true → Hp.nn A[H[j]!]! ∧ (j ≠ i0 → T[H[j]!]! = (j : Int) ∧ ((j - 1) / 2 ≠ i0 → Hp.kv A[H[j]!]! ≤ Hp.kv A[H[(j - 1) / 2]!]!))

theorem Pm_skip {A H : Array Nat} {T : Array Int} {i0 k : Nat} (h : Pm A H T i0 k) (hs : Hp.sub i0 k = false) : Pm A H T i0 (k + 1) := fun j h1 h2 h3 => by
  by_cases e : j = k
  · rw [e, hs] at h3; cases h3
  · exact h j h1 (by omega) h3
theorem Pm_step {A H : Array Nat} {T : Array Int} {i0 k : Nat} (h : Pm A H T i0 k) (hn : Hp.nn A[H[k]!]!) (hq : k ≠ i0 → T[H[k]!]! = (k : Int) ∧ ((k - 1) / 2 ≠ i0 → Hp.kv A[H[k]!]! ≤ Hp.kv A[H[(k - 1) / 2]!]!)) : Pm A H T i0 (k + 1) := fun j h1 h2 h3 => by
  by_cases e : j = k
  · rw [e]; exact ⟨hn, hq⟩
  · exact h j h1 (by omega) h3

set_option maxHeartbeats 2000000 in
theorem prem18 (bh oh n ch : Nat) (pT pA : Option Addr) (nT cT nA cA i0 : Nat) (A : Array Nat) (H T : Array Int) (w : World) (hn : n ≤ 65536) (hnT : nT ≤ 65536) (hnA : nA ≤ 65536) (hi0 : i0 < n) (hs : H.size = n)
    (hc : ∀ j : Nat, j < n → w.cell? ⟨bh, oh + j, none⟩ = some (.int .i32 H[j]!)) (hw : ∀ j : Nat, j < n → -2147483648 ≤ H[j]! ∧ H[j]! ≤ 2147483647) (hA : Sl (Value.float .f64) w pA nA A) (hT : Sl (Value.int .i32) w pT nT T) :
    Calls Try.prog 18 #[.slice pA nA cA, .slice (some ⟨bh, oh, none⟩) n ch, .slice pT nT cT, .int .i64 i0] w fun e w' => ∃ r : Bool, e = .returned (.bool r) ∧ (r = true → Dist H n nT nA ∧ Pm A (toN H) T i0 n) ∧ Row.Fr (fun _ => False) w w' := by
  have D := dist31 bh oh n ch pT pA nT cT nA cA H w hn hnT hnA hc hw
  have HC : Hid (∀ j : Nat, j < n → w.cell? ⟨bh, oh + j, none⟩ = some (.int .i32 H[j]!)) := hc
  have HA : Hid (Sl (Value.float .f64) w pA nA A) := hA
  have HT : Hid (Sl (Value.int .i32) w pT nT T) := hT
  have HS : Hid (H.size = n) := hs
  clear hc hw hA hT hs
  go_enter Try.func18, Try.ntmps18
  go_wp2_with fail
  refine D.mono ?_
  rintro e w1 ⟨r, rfl, hr, hfr⟩
  clear D
  cases r with
  | false =>
    clear hr
    go_wp2
    go_ret
    exact ⟨false, rfl, (fun h => by cases h), hfr⟩
  | true =>
    have hd := hr rfl
    have HD : Hid (Dist H n nT nA) := hd
    have hpos := toN_cast HS.out hd (show 0 < n by omega)
    obtain ⟨bA, oA, rfl, cA'⟩ := HA.out (by omega)
    obtain ⟨bT, oT, rfl, cT'⟩ := HT.out (by omega)
    have HFR : Hid (Row.Fr (fun _ => False) w w1) := hfr
    have KH : Hid (∀ j : Nat, j < n → w1.cell? ⟨bh, oh + j, none⟩ = some (.int .i32 (((toN H)[j]! : Nat) : Int))) := fun j hj => by
      have := HC.out j hj
      rw [hfr.cell (p := ⟨bh, oh + j, none⟩) (World.block_lt_of_cell? _ _ this) (fun f => f), this, (toN_cast HS.out hd hj).1]
    have KA : Hid (∀ j : Nat, j < nA → w1.cell? ⟨bA, oA + j, none⟩ = some (.float .f64 A[j]!)) := fun j hj => by
      have := cA' j hj
      rw [hfr.cell (p := ⟨bA, oA + j, none⟩) (World.block_lt_of_cell? _ _ this) (fun f => f), this]
    have KT : Hid (∀ j : Nat, j < nT → w1.cell? ⟨bT, oT + j, none⟩ = some (.int .i32 T[j]!)) := fun j hj => by
      have := cT' j hj
      rw [hfr.cell (p := ⟨bT, oT + j, none⟩) (World.block_lt_of_cell? _ _ this) (fun f => f), this]
    have KR : Hid (∀ j : Nat, j < n → (toN H)[j]! < nT ∧ (toN H)[j]! < nA) := fun j hj => (toN_cast HS.out hd hj).2
    clear hr hd hpos cA' cT' hfr HC HA HT
    generalize hN : toN H = N at *
    have HN : Hid (toN H = N) := hN
    clear hN
    go_wp2_with fail
    go_loop [9] (fun v => ∃ k : Nat, v = .int .i64 k ∧ i0 ≤ k ∧ k ≤ n ∧ Hid (Pm A N T i0 k)) (fun v => n - (intOf v).toNat)
    case atStart => exact ⟨i0, rfl, by omega, by omega, fun j h1 h2 => by omega⟩
    case round =>
      obtain ⟨k, rfl, k1, k2, hpm⟩ := hrel
      by_cases hkn : k < n
      · have SB := sub22 i0 k w1 (by omega) (by omega)
        cases hsb : Hp.sub i0 k with
        | false =>
          rw [hsb] at SB
          have PM : Hid (Pm A N T i0 (k + 1)) := Pm_skip hpm.out hsb
          clear hsb
          go_wp2_with fail
          refine SB.mono ?_
          rintro e w2 ⟨rfl, rfl⟩
          go_wp2
          go_round
          case rel => exact ⟨k + 1, by go_num, by omega, by omega, PM⟩
          case measure => simp [intOf]; omega
        | true =>
          rw [hsb] at SB
          clear hsb
          have ck := KH.out k hkn
          obtain ⟨rT, rA⟩ := KR.out k hkn
          have ca := KA.out N[k]! rA
          have ct := KT.out N[k]! rT
          have STEP : Hid (Hp.nn A[N[k]!]! → (k ≠ i0 → T[N[k]!]! = (k : Int) ∧ ((k - 1) / 2 ≠ i0 → Hp.kv A[N[k]!]! ≤ Hp.kv A[N[(k - 1) / 2]!]!)) → Pm A N T i0 (k + 1)) := fun h1 h2 => Pm_step hpm.out h1 h2
          obtain ⟨xk, hxk⟩ : ∃ x, N[k]! = x := ⟨_, rfl⟩
          rw [hxk] at ck rT rA ca ct
          rw [hxk] at STEP
          clear hxk
          generalize hfx : A[xk]! = fx at ca
          rw [hfx] at STEP
          have HFX : Hid (A[xk]! = fx) := hfx
          clear hfx
          generalize T[xk]! = tk at ct STEP
          have i1 : (xk : Int) < (nA : Int) := by omega
          have i2 : (xk : Int) < (nT : Int) := by omega
          cases hnan : (FloatKind.f64.format.order fx fx != some .eq) with
          | true =>
            go_wp2_with fail
            refine SB.mono ?_
            rintro e w2 ⟨rfl, rfl⟩
            go_wp2
            go_ret
            exact ⟨false, rfl, (fun h => by cases h), HFR.out⟩
          | false =>
            have NN : Hid (Hp.nn fx) := Hp.nn_of_test hnan
            by_cases hki : k = i0
            · have tki : ((k : Int) == (i0 : Int)) = true := by rw [beq_cast]; simp [hki]
              have PM : Hid (Pm A N T i0 (k + 1)) := STEP.out NN.out (fun h => absurd hki h)
              clear hki
              go_wp2_with fail
              refine SB.mono ?_
              rintro e w2 ⟨rfl, rfl⟩
              go_wp2
              go_round
              case rel => exact ⟨k + 1, by go_num, by omega, by omega, PM⟩
              case measure => simp [intOf]; omega
            · have tki : ((k : Int) == (i0 : Int)) = false := by rw [beq_cast]; simp [hki]
              have hk0 : i0 < k := by omega
              by_cases htk : tk = (k : Int)
              · have ttk : (tk != (k : Int)) = false := by simp [htk]
                obtain ⟨p, hp⟩ : ∃ p, (k - 1) / 2 = p := ⟨_, rfl⟩
                have hpi : ((k : Int) - 1) / 2 = (p : Int) := by omega
                have HTK : Hid (tk = (k : Int)) := htk
                clear htk
                rw [hp] at STEP
                by_cases hpp : p = i0
                · have tpi : ((p : Int) != (i0 : Int)) = false := by simp [hpp]
                  have PM : Hid (Pm A N T i0 (k + 1)) := STEP.out NN.out (fun _ => ⟨HTK.out, fun h => absurd hpp h⟩)
                  clear hpp hp hki
                  go_wp2_with fail
                  refine SB.mono ?_
                  rintro e w2 ⟨rfl, rfl⟩
                  go_wp2
                  go_round
                  case rel => exact ⟨k + 1, by go_num, by omega, by omega, PM⟩
                  case measure => simp [intOf]; omega
                · have tpi : ((p : Int) != (i0 : Int)) = true := by rw [bne_iff_ne]; omega
                  have hpn : p < n := by omega
                  have cp := KH.out p hpn
                  obtain ⟨_, rpA⟩ := KR.out p hpn
                  have cpa := KA.out N[p]! rpA
                  generalize N[p]! = xp at cp rpA cpa STEP
                  generalize A[xp]! = fp at cpa STEP
                  have i3 : (xp : Int) < (nA : Int) := by omega
                  have i4 : (p : Int) < (n : Int) := by omega
                  cases hge : (FloatKind.f64.format.order fp fx == some .gt || FloatKind.f64.format.order fp fx == some .eq) with
                  | false =>
                    clear hpp hp hki
                    go_wp2_with fail
                    refine SB.mono ?_
                    rintro e w2 ⟨rfl, rfl⟩
                    go_wp2
                    go_ret
                    exact ⟨false, rfl, (fun h => by cases h), HFR.out⟩
                  | true =>
                    have PM : Hid (Pm A N T i0 (k + 1)) := STEP.out NN.out (fun _ => ⟨HTK.out, fun _ => (Hp.of_ge hge).2.2⟩)
                    clear hpp hp hki
                    go_wp2_with fail
                    refine SB.mono ?_
                    rintro e w2 ⟨rfl, rfl⟩
                    go_wp2
                    go_round
                    case rel => exact ⟨k + 1, by go_num, by omega, by omega, PM⟩
                    case measure => simp [intOf]; omega
              · have ttk : (tk != (k : Int)) = true := by rw [bne_iff_ne]; exact htk
                clear htk hki
                go_wp2_with fail
                refine SB.mono ?_
                rintro e w2 ⟨rfl, rfl⟩
                go_wp2
                go_ret
                exact ⟨false, rfl, (fun h => by cases h), HFR.out⟩
      · go_wp2
        go_ret
        refine .inr ⟨rfl, ⟨HD.out, ?_⟩, HFR.out⟩
        have e : k = n := by omega
        rw [e] at hpm
        rw [HN.out]
        exact hpm.out

end Go.Proofs.Qxb6602679a
