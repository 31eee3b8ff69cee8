import Derived.Test.Qxb6602679aPop
import Derived.Test.Qxb6602679aPrem2
import Derived.Test.Qxb6602679aDownLaw
namespace Go.Proofs.Qxb6602679a
open Go.ChangeShapes Go.WideShapes Go.ChangeAt Go.RowKit Go.Sort
set_option linter.unusedVariables false

theorem zz27_none (p pA pT : Option Addr) (c nA cA nT cT : Nat) (w : World) :
    Calls Try.prog 27 #[.slice pA nA cA, .slice p 0 c, .slice pT nT cT] w fun e w' => e = .returned (.tuple #[.int .i32 (-1), .slice p 0 c]) ∧ Row.Fr (fun _ => False) w w' := by
  have P : Calls Try.prog 34 #[.pointer (some ⟨w.heap.size, 0, none⟩)] (w.alloc (.cells #[.slice pA nA cA, .slice p 0 c, .slice pT nT cT] 47)) fun e w' => e = .returned (.int .i32 (-1)) ∧ w' = w.alloc (.cells #[.slice pA nA cA, .slice p 0 c, .slice pT nT cT] 47) := by
    go_enter Try.func34, Try.ntmps34
    go_wp2
    go_ret
    exact ⟨rfl, rfl⟩
  go_enter Try.func27, Try.ntmps27
  go_wp2_with fail
  refine P.mono ?_
  rintro e w1 ⟨rfl, rfl⟩
  clear P
  go_wp2_with fail
  go_quiet (fail)
  go_wp2
  go_ret2
  exact ⟨rfl, ((Row.Fr.refl _ _).alloc _).drewN _⟩

theorem zz27 (bA bh bt n ch nA cA nT cT : Nat) (A V : Array Nat) (T : Array Int) (w : World) (hA : Holds (Value.float .f64) w bA 0 A) (hV : Holds encN w bh 0 V) (hT : Holds (Value.int .i32) w bt 0 T) (sA : A.size = nA) (sT : T.size = nT)
    (hn1 : 1 ≤ n) (hn : n ≤ 65536) (hch : n ≤ ch) (hch2 : ch ≤ 65536) (d3 : bA ≠ bh) (d4 : bA ≠ bt) (d5 : bh ≠ bt) (lA : bA < w.heap.size) (lh : bh < w.heap.size) (lt : bt < w.heap.size) (hok : Hp.Ok A V T n) :
    Calls Try.prog 27 #[.slice (some ⟨bA, 0, none⟩) nA cA, .slice (some ⟨bh, 0, none⟩) n ch, .slice (some ⟨bt, 0, none⟩) nT cT] w fun e w' => e = .returned (.tuple #[.int .i32 (V[0]! : Nat), .slice (some ⟨bh, 0, none⟩) (n - 1) ch]) ∧
      ∃ (V' : Array Nat) (T' : Array Int), Hp.Popped A V T n V' T' ∧ Holds encN w' bh 0 V' ∧ Holds (Value.int .i32) w' bt 0 T' ∧ Row.Fr (fun b => b = bh ∨ b = bt) w w' := by
  have F : Row.Fr (fun _ => False) w (w.alloc (.cells #[.slice (some ⟨bA, 0, none⟩) nA cA, .slice (some ⟨bh, 0, none⟩) n ch, .slice (some ⟨bt, 0, none⟩) nT cT] 47)) := (Row.Fr.refl _ _).alloc _
  have P := pop34 w.heap.size bA bh bt n ch nA cA nT cT A V T (w.alloc (.cells #[.slice (some ⟨bA, 0, none⟩) nA cA, .slice (some ⟨bh, 0, none⟩) n ch, .slice (some ⟨bt, 0, none⟩) nT cT] 47))
    (by rw [World.cell?_alloc_at _ _ _ _ rfl]; rfl) (by rw [World.cell?_alloc_at _ _ _ _ rfl]; rfl) (by rw [World.cell?_alloc_at _ _ _ _ rfl]; rfl) (World.frozen?_alloc_at _ _ _ _ rfl)
    (F.holds hA (fun f => f)) (F.holds hV (fun f => f)) (F.holds hT (fun f => f)) sA sT hn1 hn hch hch2 (by omega) (by omega) d3 d4 d5 (by omega) hok
  have HF : Hid (Row.Fr (fun _ => False) w (w.alloc (.cells #[.slice (some ⟨bA, 0, none⟩) nA cA, .slice (some ⟨bh, 0, none⟩) n ch, .slice (some ⟨bt, 0, none⟩) nT cT] 47))) := F
  clear hA hV hT hok F
  generalize hv : V[0]! = v at *
  clear hv
  go_enter Try.func27, Try.ntmps27
  go_wp2_with fail
  refine P.mono ?_
  rintro e w1 ⟨rfl, V', T', h1, h2, h3, h4, h5⟩
  clear P
  have HH : Hid (Hp.Popped A V T n V' T' ∧ Holds encN w1 bh 0 V' ∧ Holds (Value.int .i32) w1 bt 0 T' ∧ Row.Fr (fun b => b = w.heap.size ∨ b = bh ∨ b = bt) (w.alloc (.cells #[.slice (some ⟨bA, 0, none⟩) nA cA, .slice (some ⟨bh, 0, none⟩) n ch, .slice (some ⟨bt, 0, none⟩) nT cT] 47)) w1) := ⟨h1, h2, h3, h5⟩
  clear h1 h2 h3 h5
  go_wp2_with fail
  go_quiet (fail)
  go_wp2
  go_ret2
  refine ⟨rfl, V', T', HH.out.1, HH.out.2.1, HH.out.2.2.1, ?_⟩
  exact ((HF.out.mono (fun _ _ f => f.elim)).step HH.out.2.2.2 (fun i hi h => by rcases h with h | h; omega; exact h)).drewN _

/-- What 'satb1HeapValid' finds of the first k places. -/
def Hv (A H : Array Nat) (T : Array Int) (k : Nat) : Prop := ∀ j : Nat, j < k → T[H[j]!]! = (j : Int) ∧ (0 < j → Hp.nn A[H[j]!]! ∧ Hp.nn A[H[(j - 1) / 2]!]! ∧ Hp.kv A[H[j]!]! ≤ Hp.kv A[H[(j - 1) / 2]!]!)

theorem valid26_none (p pA pT : Option Addr) (c nA cA nT cT : Nat) (w : World) (hnT : nT ≤ 65536) (hnA : nA ≤ 65536) :
    Calls Try.prog 26 #[.slice pA nA cA, .slice p 0 c, .slice pT nT cT] w fun e w' => e = .returned (.bool true) ∧ Row.Fr (fun _ => False) w w' := by
  have D : Calls Try.prog 31 #[.slice p 0 c, .slice pT nT cT, .slice pA nA cA] w fun e w' => e = .returned (.bool true) ∧ Row.Fr (fun _ => False) w w' := by
    go_enter Try.func31, Try.ntmps31
    go_wp2_with (at_make; refine Row.wpList_make_row _ rfl _ _ 51 rfl 4 (.bool false) 1 Try.underlying51 Try.info4 rfl _ _ _ _ nT rfl rfl rfl rfl (by omega) (by omega) ?_)
    go_loop [8] (fun v => v = .int .i64 0) (fun _ => 0)
    case atStart => rfl
    case round =>
      obtain rfl := hrel
      go_wp2
      go_ret
      exact ⟨rfl, (Row.Fr.refl _ _).alloc _⟩
  go_enter Try.func26, Try.ntmps26
  go_wp2_with fail
  refine D.mono ?_
  rintro e w1 ⟨rfl, hfr⟩
  clear D
  go_wp2_with fail
  go_loop [7] (fun v => v = .int .i64 0) (fun _ => 0)
  case atStart => rfl
  case round =>
    obtain rfl := hrel
    go_wp2
    go_ret
    exact ⟨rfl, hfr⟩

set_option maxHeartbeats 2000000 in
theorem valid26 (bh oh n ch : Nat) (pT pA : Option Addr) (nT cT nA cA : Nat) (A : Array Nat) (H T : Array Int) (w : World) (hn : n ≤ 65536) (hnT : nT ≤ 65536) (hnA : nA ≤ 65536) (h0 : 0 < n) (hs : H.size = n)
    (hc : ∀ j : Nat, j < n → w.cell? ⟨bh, oh + j, none⟩ = some (.int .i32 H[j]!)) (hw : ∀ j : Nat, j < n → -2147483648 ≤ H[j]! ∧ H[j]! ≤ 2147483647) (hA : Sl (Value.float .f64) w pA nA A) (hT : Sl (Value.int .i32) w pT nT T) :
    Calls Try.prog 26 #[.slice pA nA cA, .slice (some ⟨bh, oh, none⟩) n ch, .slice pT nT cT] w fun e w' => ∃ r : Bool, e = .returned (.bool r) ∧ (r = true → Dist H n nT nA ∧ Hv A (toN H) T n) ∧ Row.Fr (fun _ => False) w w' := by
  have D := dist31 bh oh n ch pT pA nT cT nA cA H w hn hnT hnA hc hw
  have HC : Hid (∀ j : Nat, j < n → w.cell? ⟨bh, oh + j, none⟩ = some (.int .i32 H[j]!)) := hc
  have HA : Hid (Sl (Value.float .f64) w pA nA A) := hA
  have HT : Hid (Sl (Value.int .i32) w pT nT T) := hT
  have HS : Hid (H.size = n) := hs
  clear hc hw hA hT hs
  go_enter Try.func26, Try.ntmps26
  go_wp2_with fail
  refine D.mono ?_
  rintro e w1 ⟨r, rfl, hr, hfr⟩
  clear D
  cases r with
  | false =>
    clear hr
    go_wp2
    go_ret
    exact ⟨false, rfl, (fun h => by cases h), hfr⟩
  | true =>
    have hd := hr rfl
    have HD : Hid (Dist H n nT nA) := hd
    have hpos := toN_cast HS.out hd (show 0 < n by omega)
    obtain ⟨bA, oA, rfl, cA'⟩ := HA.out (by omega)
    obtain ⟨bT, oT, rfl, cT'⟩ := HT.out (by omega)
    have HFR : Hid (Row.Fr (fun _ => False) w w1) := hfr
    have KH : Hid (∀ j : Nat, j < n → w1.cell? ⟨bh, oh + j, none⟩ = some (.int .i32 (((toN H)[j]! : Nat) : Int))) := fun j hj => by
      have := HC.out j hj
      rw [hfr.cell (p := ⟨bh, oh + j, none⟩) (World.block_lt_of_cell? _ _ this) (fun f => f), this, (toN_cast HS.out hd hj).1]
    have KA : Hid (∀ j : Nat, j < nA → w1.cell? ⟨bA, oA + j, none⟩ = some (.float .f64 A[j]!)) := fun j hj => by
      have := cA' j hj
      rw [hfr.cell (p := ⟨bA, oA + j, none⟩) (World.block_lt_of_cell? _ _ this) (fun f => f), this]
    have KT : Hid (∀ j : Nat, j < nT → w1.cell? ⟨bT, oT + j, none⟩ = some (.int .i32 T[j]!)) := fun j hj => by
      have := cT' j hj
      rw [hfr.cell (p := ⟨bT, oT + j, none⟩) (World.block_lt_of_cell? _ _ this) (fun f => f), this]
    have KR : Hid (∀ j : Nat, j < n → (toN H)[j]! < nT ∧ (toN H)[j]! < nA) := fun j hj => (toN_cast HS.out hd hj).2
    clear hr hd hpos cA' cT' hfr HC HA HT
    generalize hN : toN H = N at *
    have HN : Hid (toN H = N) := hN
    clear hN
    go_wp2_with fail
    go_loopw [7] (fun v wr => ∃ k q : Nat, v = .int .i64 k ∧ k ≤ n ∧ wr = w1.drewN q ∧ Hid (Hv A N T k)) (fun v _ => n - (intOf v).toNat)
    case atStart => exact ⟨0, 0, rfl, by omega, rfl, fun j hj => by omega⟩
    case round =>
      obtain ⟨k, q, rfl, k2, hwq, hpm⟩ := hrel
      have FW : Hid (Row.Fr (fun _ => False) w wr) := by rw [hwq]; exact HFR.out.drewN q
      have HWQ : Hid (wr = w1.drewN q) := hwq
      by_cases hkn : k < n
      · have ck := KH.out k hkn
        obtain ⟨rT, rA⟩ := KR.out k hkn
        have ca := KA.out N[k]! rA
        have ct := KT.out N[k]! rT
        have ck' : wr.cell? ⟨bh, oh + k, none⟩ = some (.int .i32 ((N[k]! : Nat) : Int)) := by rw [hwq]; exact ck
        have ca' : wr.cell? ⟨bA, oA + N[k]!, none⟩ = some (.float .f64 A[N[k]!]!) := by rw [hwq]; exact ca
        have ct' : wr.cell? ⟨bT, oT + N[k]!, none⟩ = some (.int .i32 T[N[k]!]!) := by rw [hwq]; exact ct
        clear ck ca ct
        have STEP : Hid (T[N[k]!]! = (k : Int) → (0 < k → Hp.nn A[N[k]!]! ∧ Hp.nn A[N[(k - 1) / 2]!]! ∧ Hp.kv A[N[k]!]! ≤ Hp.kv A[N[(k - 1) / 2]!]!) → Hv A N T (k + 1)) := fun h1 h2 j hj => by
          by_cases e : j = k
          · rw [e]; exact ⟨h1, h2⟩
          · exact hpm.out j (by omega)
        obtain ⟨xk, hxk⟩ : ∃ x, N[k]! = x := ⟨_, rfl⟩
        rw [hxk] at ck' rT rA ca' ct' STEP
        clear hxk
        generalize A[xk]! = fx at ca' STEP
        generalize T[xk]! = tk at ct' STEP
        have i1 : (xk : Int) < (nA : Int) := by omega
        have i2 : (xk : Int) < (nT : Int) := by omega
        have i5 : (k : Int) < (n : Int) := by omega
        by_cases htk : tk = (k : Int)
        · have ttk : (tk != (k : Int)) = false := by simp [htk]
          have HTK : Hid (tk = (k : Int)) := htk
          clear htk
          by_cases hk0 : 0 < k
          · obtain ⟨p, hp⟩ : ∃ p, (k - 1) / 2 = p := ⟨_, rfl⟩
            have hpi : ((k : Int) - 1) / 2 = (p : Int) := by omega
            rw [hp] at STEP
            have hpn : p < n := by omega
            have cp : wr.cell? ⟨bh, oh + p, none⟩ = some (.int .i32 ((N[p]! : Nat) : Int)) := by rw [hwq]; exact KH.out p hpn
            obtain ⟨_, rpA⟩ := KR.out p hpn
            have cpa : wr.cell? ⟨bA, oA + N[p]!, none⟩ = some (.float .f64 A[N[p]!]!) := by rw [hwq]; exact KA.out N[p]! rpA
            generalize N[p]! = xp at cp rpA cpa STEP
            generalize A[xp]! = fp at cpa STEP
            have i3 : (xp : Int) < (nA : Int) := by omega
            have i4 : (p : Int) < (n : Int) := by omega
            clear hp hwq
            cases hge : (FloatKind.f64.format.order fp fx == some .gt || FloatKind.f64.format.order fp fx == some .eq) with
            | false =>
              go_wp2_with fail
              go_quiet (fail)
              go_wp2
              go_ret
              exact ⟨false, rfl, (fun h => by cases h), FW.out.drewN _⟩
            | true =>
              have PM : Hid (Hv A N T (k + 1)) := STEP.out HTK.out (fun _ => ⟨(Hp.of_ge hge).2.1, (Hp.of_ge hge).1, (Hp.of_ge hge).2.2⟩)
              go_wp2_with fail
              go_quiet (fail)
              go_wp2
              go_roundw
              case rel => exact ⟨k + 1, _, by go_num, by omega, by rw [HWQ.out, World.drewN_drewN], PM⟩
              case measure => simp [intOf]; omega
          · have PM : Hid (Hv A N T (k + 1)) := STEP.out HTK.out (fun h => absurd h hk0)
            have hk00 : ¬ (0 : Int) < (k : Int) := by omega
            clear hwq
            go_wp2
            go_roundw
            case rel => exact ⟨k + 1, q, by go_num, by omega, HWQ.out, PM⟩
            case measure => simp [intOf]; omega
        · have ttk : (tk != (k : Int)) = true := by rw [bne_iff_ne]; exact htk
          clear htk hwq
          go_wp2
          go_ret
          exact ⟨false, rfl, (fun h => by cases h), FW.out⟩
      · clear hwq
        go_wp2
        go_ret
        refine ⟨true, rfl, (fun _ => ⟨HD.out, ?_⟩), FW.out⟩
        have e : k = n := by omega
        rw [e] at hpm
        rw [HN.out]
        exact hpm.out

theorem Ok_start {A : Array Nat} {H T : Array Int} {n nT nA : Nat} (hs : H.size = n) (sA : A.size = nA) (sT : T.size = nT) (hd : Dist H n nT nA) (hp : Hv A (toN H) T n) : Hp.Ok A (toN H) T n := by
  refine ⟨by rw [toN_size, hs]; exact Nat.le_refl _, toN_inj hs hd, fun j hj => by rw [sA, sT]; exact (toN_cast hs hd hj).2, fun h2 j hj => ?_, fun j hj h1 => ((hp j hj).2 h1).2.2, fun j hj => (hp j hj).1⟩
  by_cases e : j = 0
  · have := ((hp 1 (by omega)).2 (by omega)).2.1
    rw [e]; exact this
  · exact ((hp j hj).2 (by omega)).1
end Go.Proofs.Qxb6602679a
