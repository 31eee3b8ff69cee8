import Derived.Test.Qxb6602679aClone
import Derived.Test.Qxb6602679aHeap
import Derived.RegionTactic
import Derived.Deep.QuietTactic
import Derived.BigQuiet
import Derived.BigRegion
import Derived.Deep.LoopGhost
import Derived.Deep.DeepCutAuto
namespace Go.Proofs.Qxb6602679a
open Go.ChangeShapes Go.WideShapes Go.ChangeAt Go.RowKit Go.Sort
attribute [local go_sem] Row.run_store_float

/-- A variable's number, as an int32. -/
def encN (x : Nat) : Value := .int .i32 (x : Int)

theorem holds_at {α : Type} [Inhabited α] {enc : α → Value} {w : World} {B : Nat} {d : Array α} (h : Holds enc w B 0 d) {t : Nat} (ht : t < d.size) : w.cell? ⟨B, t, none⟩ = some (enc d[t]!) ∧ w.frozen? ⟨B, t, none⟩ = false := by
  have := h t ht
  rwa [Nat.zero_add] at this
theorem holds_put {α : Type} [Inhabited α] {enc : α → Value} {w : World} {B : Nat} {d : Array α} (h : Holds enc w B 0 d) {t : Nat} (ht : t < d.size) (x : α) : Holds enc (w.setCell ⟨B, t, none⟩ (enc x)) B 0 (d.setIfInBounds t x) := by
  have := Row.holds_set h ht x
  rwa [Nat.zero_add] at this

/-- The hole at place i: the row holds V but there. -/
structure DW (w wr : World) (bh bt i : Nat) (V : Array Nat) (T : Array Int) : Prop where
  row : ∃ Hc : Array Nat, Hc.size = V.size ∧ (∀ j : Nat, j ≠ i → Hc[j]! = V[j]!) ∧ Holds encN wr bh 0 Hc
  at_ : Holds (Value.int .i32) wr bt 0 T
  fr : Row.Fr (fun b => b = bh ∨ b = bt) w wr

theorem DW.drewN {w wr : World} {bh bt i : Nat} {V : Array Nat} {T : Array Int} (h : DW w wr bh bt i V T) (q : Nat) : DW w (wr.drewN q) bh bt i V T := ⟨h.row, h.at_, h.fr.drewN q⟩
theorem DW.cell {w wr : World} {bh bt i : Nat} {V : Array Nat} {T : Array Int} (h : DW w wr bh bt i V T) {j : Nat} (hj : j < V.size) (hne : j ≠ i) : wr.cell? ⟨bh, j, none⟩ = some (.int .i32 (V[j]! : Nat)) := by
  obtain ⟨Hc, hs, he, hh⟩ := h.row
  have := (holds_at hh (t := j) (by omega)).1
  rw [he j hne] at this
  exact this
theorem DW.open_ {w wr : World} {bh bt i : Nat} {V : Array Nat} {T : Array Int} (h : DW w wr bh bt i V T) (hi : i < V.size) : (∃ x : Nat, wr.cell? ⟨bh, i, none⟩ = some (.int .i32 (x : Nat))) ∧ wr.frozen? ⟨bh, i, none⟩ = false := by
  obtain ⟨Hc, hs, he, hh⟩ := h.row
  have := holds_at hh (t := i) (by omega)
  exact ⟨⟨_, this.1⟩, this.2⟩
/-- A child moves up into the hole, and the hole goes down to where it was. -/
theorem DW.step {w wr : World} {bh bt i c : Nat} {V : Array Nat} {T : Array Int} (h : DW w wr bh bt i V T) (hbt : bh ≠ bt) (hi : i < V.size) (hc : c < V.size) (hic : i ≠ c) (hT : V[c]! < T.size) :
    DW w ((wr.setCell ⟨bh, i, none⟩ (.int .i32 (V[c]! : Nat))).setCell ⟨bt, V[c]!, none⟩ (.int .i32 (i : Int))) bh bt c (swp V i c) (T.setIfInBounds V[c]! (i : Int)) := by
  obtain ⟨Hc, hs, he, hh⟩ := h.row
  refine ⟨⟨Hc.setIfInBounds i V[c]!, by rw [Array.size_setIfInBounds, size_swp]; exact hs, fun j hj => ?_, ?_⟩, ?_, ?_⟩
  · by_cases e : j = i
    · rw [e, getElem!_set_same Hc i _ (by omega), Hp.swp_i V i c hi hc]
    · rw [getElem!_set_other Hc i j _ e, swp_other V i c j e hj]; exact he j e
  · exact Row.holds_set_other (holds_put hh (by omega) V[c]!) (by show bt ≠ bh; omega) _
  · exact holds_put (enc := Value.int .i32) (Row.holds_set_other h.at_ (by show bh ≠ bt; omega) _) hT (i : Int)
  · exact (h.fr.setCell (.inl (.inl rfl)) _).setCell (.inl (.inr rfl)) _
/-- The hole is filled by what was taken out. -/
theorem DW.fill {w wr : World} {bh bt i : Nat} {V : Array Nat} {T : Array Int} (h : DW w wr bh bt i V T) (hbt : bh ≠ bt) (hi : i < V.size) (hT : V[i]! < T.size) :
    Holds encN ((wr.setCell ⟨bh, i, none⟩ (.int .i32 (V[i]! : Nat))).setCell ⟨bt, V[i]!, none⟩ (.int .i32 (i : Int))) bh 0 V ∧
    Holds (Value.int .i32) ((wr.setCell ⟨bh, i, none⟩ (.int .i32 (V[i]! : Nat))).setCell ⟨bt, V[i]!, none⟩ (.int .i32 (i : Int))) bt 0 (T.setIfInBounds V[i]! (i : Int)) ∧
    Row.Fr (fun b => b = bh ∨ b = bt) w ((wr.setCell ⟨bh, i, none⟩ (.int .i32 (V[i]! : Nat))).setCell ⟨bt, V[i]!, none⟩ (.int .i32 (i : Int))) := by
  obtain ⟨Hc, hs, he, hh⟩ := h.row
  refine ⟨?_, holds_put (enc := Value.int .i32) (Row.holds_set_other h.at_ (by show bh ≠ bt; omega) _) hT (i : Int), (h.fr.setCell (.inl (.inl rfl)) _).setCell (.inl (.inr rfl)) _⟩
  have e : Hc.setIfInBounds i V[i]! = V := by
    apply Array.ext (by rw [Array.size_setIfInBounds]; exact hs)
    intro j h1 h2
    have : (Hc.setIfInBounds i V[i]!)[j]! = V[j]! := by
      by_cases e : j = i
      · rw [e, getElem!_set_same Hc i _ (by omega)]
      · rw [getElem!_set_other Hc i j _ e]; exact he j e
    rwa [getElem!_pos _ j h1, getElem!_pos _ j h2] at this
  have := Row.holds_set_other (enc := encN) (holds_put hh (t := i) (by omega) V[i]!) (p := ⟨bt, V[i]!, none⟩) (by show bt ≠ bh; omega) (.int .i32 (i : Int))
  rw [e] at this
  exact this

set_option maxHeartbeats 4000000 in
set_option maxRecDepth 1000000 in
theorem down32 (bo bA bh bt n ch nA cA nT cT i0 : Nat) (A H : Array Nat) (T : Array Int) (w : World)
    (o0 : w.cell? ⟨bo, 0, none⟩ = some (.slice (some ⟨bA, 0, none⟩) nA cA)) (o1 : w.cell? ⟨bo, 1, none⟩ = some (.slice (some ⟨bh, 0, none⟩) n ch)) (o2 : w.cell? ⟨bo, 2, none⟩ = some (.slice (some ⟨bt, 0, none⟩) nT cT))
    (hA : Holds (Value.float .f64) w bA 0 A) (hH : Holds encN w bh 0 H) (hT : Holds (Value.int .i32) w bt 0 T) (sA : A.size = nA) (sT : T.size = nT) (hn : n ≤ 65536)
    (d1 : bo ≠ bh) (d2 : bo ≠ bt) (d3 : bA ≠ bh) (d4 : bA ≠ bt) (d5 : bh ≠ bt) (hD : Hp.DI A H T n i0 i0 H T) :
    Calls Try.prog 32 #[.pointer (some ⟨bo, 0, none⟩), .int .i64 i0] w fun e w' => e = .returned (.tuple #[]) ∧ ∃ (V : Array Nat) (T' : Array Int), Hp.Done A H T n i0 V T' ∧ Holds encN w' bh 0 V ∧ Holds (Value.int .i32) w' bt 0 T' ∧ Row.Fr (fun b => b = bh ∨ b = bt) w w' := by
  have hi0 := hD.ilt
  have hns := hD.ns
  have c0 : w.cell? ⟨bh, i0, none⟩ = some (.int .i32 (H[i0]! : Nat)) := (holds_at hH (t := i0) (by omega)).1
  have b0 : Hid (bo < w.heap.size) := World.block_lt_of_cell? _ _ o0
  have bAl : Hid (∀ x : Nat, x < nA → ∀ wr, Row.Fr (fun b => b = bh ∨ b = bt) w wr → wr.cell? ⟨bA, x, none⟩ = some (.float .f64 A[x]!)) := fun x hx wr fr => by
    have := (holds_at hA (t := x) (by omega)).1
    have ns : ¬ (bA = bh ∨ bA = bt) := by rintro (e | e) <;> omega
    rw [fr.cell (p := ⟨bA, x, none⟩) (World.block_lt_of_cell? _ _ this) ns]; exact this
  have O : Hid (∀ wr, Row.Fr (fun b => b = bh ∨ b = bt) w wr → wr.cell? ⟨bo, 0, none⟩ = some (.slice (some ⟨bA, 0, none⟩) nA cA) ∧ wr.cell? ⟨bo, 1, none⟩ = some (.slice (some ⟨bh, 0, none⟩) n ch) ∧ wr.cell? ⟨bo, 2, none⟩ = some (.slice (some ⟨bt, 0, none⟩) nT cT)) := fun wr fr => by
    have ns : ¬ (bo = bh ∨ bo = bt) := by rintro (e | e) <;> omega
    exact ⟨(fr.cell (p := ⟨bo, 0, none⟩) b0.out ns).trans o0, (fr.cell (p := ⟨bo, 1, none⟩) b0.out ns).trans o1, (fr.cell (p := ⟨bo, 2, none⟩) b0.out ns).trans o2⟩
  have W0 : DW w w bh bt i0 H T := ⟨⟨H, rfl, fun _ _ => rfl, hH⟩, hT, Row.Fr.refl _ _⟩
  generalize hv : H[i0]! = v at c0
  have HV : Hid (H[i0]! = v) := hv
  have vT : v < nT := by rw [← hv, ← sT]; exact (hD.rng i0 hi0).1
  have vA : v < nA := by rw [← hv, ← sA]; exact (hD.rng i0 hi0).2
  clear hA hH hT hv
  go_enter Try.func32, Try.ntmps32
  go_wp2_with fail
  clear o0 o2 c0 o1
  go_loopg [1] n (fun g vi wr => ∃ (i : Nat) (V : Array Nat) (Tc : Array Int), vi = .int .i64 i ∧ i < n ∧ n - i ≤ g ∧ Hp.DI A H T n i0 i V Tc ∧ DW w wr bh bt i V Tc ∧ Hid (V[i]! = v))
  case atStart => exact ⟨i0, H, T, rfl, hi0, by omega, hD, W0, HV⟩
  case round =>
    clear W0 hD HV
    obtain ⟨i, V, Tc, rfl, hi, hg, hDI, hDW, hV⟩ := hrel
    have hns := hDI.ns
    obtain ⟨c, hc⟩ : ∃ c, 2 * i + 1 = c := ⟨_, rfl⟩
    have hci : 2 * (i : Int) + 1 = (c : Int) := by omega
    have HC : Hid (2 * i + 1 = c) := hc
    have tsz : Tc.size = nT := by rw [hDI.tsz, sT]
    by_cases hch : c < n
    · -- the left child is there: which child is the greater?
      obtain ⟨q0, q1, q2⟩ := O.out wr hDW.fr
      have sub1 : Hp.sub i0 c = true := by rw [← hc]; exact Hp.sub_left hDI.isub
      have i0i := Hp.sub_ge hDI.isub
      obtain ⟨b, hb⟩ : ∃ b : Bool, b = decide (c + 1 < n ∧ Hp.kv A[V[c]!]! < Hp.kv A[V[c + 1]!]!) := ⟨_, rfl⟩
      have HB : Hid (b = decide (c + 1 < n ∧ Hp.kv A[V[c]!]! < Hp.kv A[V[c + 1]!]!)) := hb
      have cl := hDW.cell (j := c) (by omega) (by omega)
      have rl := hDI.rng c hch
      have al := bAl.out V[c]! (by omega) wr hDW.fr
      have nl := hDI.nan c hch sub1
      clear hb
      go_upto_region 3 with fail
      go_cut [60] (fun v w' => v = .bool b ∧ ∃ q, w' = wr.drewN q)
      case first =>
        by_cases hr : c + 1 < n
        · have cr := hDW.cell (j := c + 1) (by omega) (by omega)
          have rr := hDI.rng (c + 1) hr
          have ar := bAl.out V[c + 1]! (by omega) wr hDW.fr
          have sub2 : Hp.sub i0 (c + 1) = true := by rw [← hc]; exact Hp.sub_right hDI.isub
          have nr := hDI.nan (c + 1) hr sub2
          have tst := Hp.gt_nn nr nl
          rw [show decide (Hp.kv A[V[c]!]! < Hp.kv A[V[c + 1]!]!) = b by rw [HB.out]; simp [hr]] at tst
          have i1 : (c : Int) + 1 < (n : Int) := by omega
          generalize V[c + 1]! = xr at cr rr ar tst
          generalize V[c]! = xl at cl rl al tst
          generalize A[xr]! = fr at ar tst
          generalize A[xl]! = fl at al tst
          have j1 : (xr : Int) < (nA : Int) := by omega
          have j2 : (xl : Int) < (nA : Int) := by omega
          clear nr nl sub1 sub2 hc
          go_quiet (fail)
          go_wp2_with fail
          go_meet
          case rel => exact ⟨rfl, _, rfl⟩
        · have hb0 : b = false := by rw [HB.out]; simp [hr]
          have g1 : decide ((c : Int) + 1 < (n : Int)) = false := decide_eq_false (by omega)
          subst hb0
          clear nl hc
          go_quiet (fail)
          go_wp2_with fail
          go_meet
          case rel => exact ⟨rfl, _, rfl⟩
      case rest =>
        obtain ⟨rfl, q, hq⟩ := hcut
        have HQ : Hid (wc = wr.drewN q) := hq
        have DWc : DW w wc bh bt i V Tc := by rw [hq]; exact hDW.drewN q
        clear hq cl rl al nl q0 q1 q2 hDW
        obtain ⟨e, he⟩ : ∃ e, e = (if b then c + 1 else c) := ⟨_, rfl⟩
        have HE : Hid (e = if b then c + 1 else c) := he
        clear he
        go_upto_if 60 with fail
        go_cut [5] (fun v w' => v = .int .i64 e ∧ w' = wc)
        case first =>
          cases b
          · go_wp2_with fail
            go_meet
            case rel => exact ⟨by rw [HE.out]; rfl, rfl⟩
          · go_wp2_with fail
            go_meet
            case rel => exact ⟨by rw [HE.out]; go_num, rfl⟩
        case rest =>
          obtain ⟨rfl, rfl⟩ := hcut
          have en : e < n := by
            have h1 := HE.out; have h2 := HB.out
            cases b
            · simp at h1; omega
            · simp at h1; have h3 := of_decide_eq_true h2.symm; omega
          have ei : i < e ∧ (e - 1) / 2 = i := by
            have h1 := HE.out
            cases b <;> simp at h1 <;> omega
          obtain ⟨ei1, ei2⟩ := ei
          have esub : Hp.sub i0 e = true := by rw [Hp.sub_gt (by omega), ei2]; exact hDI.isub
          have hsib : Hid (∀ c' : Nat, c' < n → i < c' → (c' - 1) / 2 = i → Hp.kv A[V[c']!]! ≤ Hp.kv A[V[e]!]!) := fun c' h1 h2 h3 => by
            have h4 := HE.out; have h5 := HB.out
            have h6 : c' = c ∨ c' = c + 1 := by omega
            cases b
            · simp at h4
              have h7 := of_decide_eq_false h5.symm
              rw [h4]
              rcases h6 with rfl | rfl
              · exact Int.le_refl _
              · have : ¬ Hp.kv A[V[c]!]! < Hp.kv A[V[c + 1]!]! := fun q => h7 ⟨h1, q⟩
                omega
            · simp at h4
              have h7 := of_decide_eq_true h5.symm
              rw [h4]
              rcases h6 with rfl | rfl
              · omega
              · exact Int.le_refl _
          have HEI : Hid ((e - 1) / 2 = i) := ei2
          clear ei2 HB HE
          obtain ⟨q0, q1, q2⟩ := O.out wc DWc.fr
          have ce := DWc.cell (j := e) (by omega) (by omega)
          have re := hDI.rng e en
          have ae := bAl.out V[e]! (by omega) wc DWc.fr
          have av := bAl.out v vA wc DWc.fr
          have tst := Hp.le_nn (hDI.nan e en esub) (show Hp.nn A[v]! by rw [← hV.out]; exact hDI.nan i hi hDI.isub)
          have i1 : (e : Int) < (n : Int) := by omega
          have i2 : (v : Int) < (nA : Int) := by omega
          by_cases hle : Hp.kv A[V[e]!]! ≤ Hp.kv A[v]!
          · rw [decide_eq_true hle] at tst
            have hdone := Hp.DI_stop hDI (fun k h1 h2 h3 => by have := hsib.out k h1 h2 h3; rw [hV.out]; omega)
            rw [hV.out] at hdone
            have HDN : Hid (Hp.Done A H T n i0 V (Tc.setIfInBounds v (i : Int))) := hdone
            have FILL : Hid (∀ nq, Holds encN (((wc.drewN nq).setCell ⟨bh, i, none⟩ (.int .i32 (v : Nat))).setCell ⟨bt, v, none⟩ (.int .i32 (i : Int))) bh 0 V ∧
    Holds (Value.int .i32) (((wc.drewN nq).setCell ⟨bh, i, none⟩ (.int .i32 (v : Nat))).setCell ⟨bt, v, none⟩ (.int .i32 (i : Int))) bt 0 (Tc.setIfInBounds v (i : Int)) ∧
    Row.Fr (fun b => b = bh ∨ b = bt) w (((wc.drewN nq).setCell ⟨bh, i, none⟩ (.int .i32 (v : Nat))).setCell ⟨bt, v, none⟩ (.int .i32 (i : Int)))) := fun nq => by
              have hfill := (DWc.drewN nq).fill d5 (by omega) (by rw [hV.out, tsz]; exact vT)
              rw [hV.out] at hfill
              exact hfill
            obtain ⟨⟨x, ci⟩, fi⟩ := DWc.open_ (by omega)
            obtain ⟨ct, ft⟩ := holds_at DWc.at_ (t := v) (by omega)
            generalize Tc[v]! = tv at ct
            generalize V[e]! = xe at *
            clear hle hdone hDI
            generalize A[xe]! = fe at ae tst
            generalize A[v]! = fv at av tst
            have i3 : (xe : Int) < (nA : Int) := by omega
            go_wp2_with fail
            go_quiet (fail)
            clear tst ae av ce
            have FL := FILL.out nq
            generalize hwq : wc.drewN nq = wq at FL
            have q0' : wq.cell? ⟨bo, 0, none⟩ = some (.slice (some ⟨bA, 0, none⟩) nA cA) := by rw [← hwq]; exact q0
            have q1' : wq.cell? ⟨bo, 1, none⟩ = some (.slice (some ⟨bh, 0, none⟩) n ch) := by rw [← hwq]; exact q1
            have q2' : wq.cell? ⟨bo, 2, none⟩ = some (.slice (some ⟨bt, 0, none⟩) nT cT) := by rw [← hwq]; exact q2
            have ci' : wq.cell? ⟨bh, i, none⟩ = some (.int .i32 (x : Nat)) := by rw [← hwq]; exact ci
            have fi' : wq.frozen? ⟨bh, i, none⟩ = false := by rw [← hwq]; exact fi
            have ct' : wq.cell? ⟨bt, v, none⟩ = some (.int .i32 tv) := by rw [← hwq]; exact ct
            have ft' : wq.frozen? ⟨bt, v, none⟩ = false := by rw [← hwq]; exact ft
            have HFL : Hid _ := FL
            clear FL FILL hwq q0 q1 q2 ci fi ct ft DWc hsib
            go_wp2_with fail
            go_region
            all_goals
              go_wp2
              go_end0
              exact ⟨rfl, V, _, HDN.out, HFL.out.1, HFL.out.2.1, HFL.out.2.2.drew⟩
          · rw [decide_eq_false hle] at tst
            have STEP := Hp.DI_step hDI e en HEI.out ei1 (by rw [hV.out]; omega) hsib.out
            have HWS : Hid (∀ nq, DW w (((wc.drewN nq).setCell ⟨bh, i, none⟩ (.int .i32 (V[e]! : Nat))).setCell ⟨bt, V[e]!, none⟩ (.int .i32 (i : Int))) bh bt e (swp V i e) (Tc.setIfInBounds V[e]! (i : Int))) :=
              fun nq => (DWc.drewN nq).step d5 (by omega) (by omega) (by omega) (by omega : V[e]! < Tc.size)
            have HVE : Hid ((swp V i e)[e]! = v) := by rw [swp_right V i e (by omega)]; exact hV.out
            obtain ⟨⟨x, ci⟩, fi⟩ := DWc.open_ (by omega)
            obtain ⟨ct, ft⟩ := holds_at DWc.at_ (t := V[e]!) (by omega)
            generalize Tc[V[e]!]! = tv at ct
            have HST : Hid (Hp.DI A H T n i0 e (swp V i e) (Tc.setIfInBounds V[e]! (i : Int))) := STEP
            clear STEP hle hDI hsib
            generalize V[e]! = xe at *
            generalize A[xe]! = fe at ae tst
            generalize A[v]! = fv at av tst
            have i3 : (xe : Int) < (nA : Int) := by omega
            have i4 : (xe : Int) < (nT : Int) := by omega
            have i5 : (i : Int) < (n : Int) := by omega
            go_wp2_with fail
            go_quiet (fail)
            clear tst ae av
            have WS1 := HWS.out nq
            generalize hwq : wc.drewN nq = wq at WS1
            have q0' : wq.cell? ⟨bo, 0, none⟩ = some (.slice (some ⟨bA, 0, none⟩) nA cA) := by rw [← hwq]; exact q0
            have q1' : wq.cell? ⟨bo, 1, none⟩ = some (.slice (some ⟨bh, 0, none⟩) n ch) := by rw [← hwq]; exact q1
            have q2' : wq.cell? ⟨bo, 2, none⟩ = some (.slice (some ⟨bt, 0, none⟩) nT cT) := by rw [← hwq]; exact q2
            have ci' : wq.cell? ⟨bh, i, none⟩ = some (.int .i32 (x : Nat)) := by rw [← hwq]; exact ci
            have fi' : wq.frozen? ⟨bh, i, none⟩ = false := by rw [← hwq]; exact fi
            have ce' : wq.cell? ⟨bh, e, none⟩ = some (.int .i32 (xe : Nat)) := by rw [← hwq]; exact ce
            have ct' : wq.cell? ⟨bt, xe, none⟩ = some (.int .i32 tv) := by rw [← hwq]; exact ct
            have ft' : wq.frozen? ⟨bt, xe, none⟩ = false := by rw [← hwq]; exact ft
            have HWS1 : Hid _ := WS1
            clear WS1 HWS hwq q0 q1 q2 ci fi ct ft ce DWc
            go_wp2_with fail
            go_region
            all_goals
              go_wp2
              go_roundg (n - e)
              case measure => omega
              case rel => exact ⟨e, swp V i e, _, rfl, en, Nat.le_refl _, HST.out, HWS1.out.drewN 1, HVE⟩
    · have hdone := Hp.DI_stop hDI (fun k h1 h2 h3 => by omega)
      rw [hV.out] at hdone
      have hfill := hDW.fill d5 (by omega) (by rw [hV.out, tsz]; exact vT)
      rw [hV.out] at hfill
      have HF : Hid (Holds encN ((wr.setCell ⟨bh, i, none⟩ (.int .i32 (v : Nat))).setCell ⟨bt, v, none⟩ (.int .i32 (i : Int))) bh 0 V ∧
    Holds (Value.int .i32) ((wr.setCell ⟨bh, i, none⟩ (.int .i32 (v : Nat))).setCell ⟨bt, v, none⟩ (.int .i32 (i : Int))) bt 0 (Tc.setIfInBounds v (i : Int)) ∧
    Row.Fr (fun b => b = bh ∨ b = bt) w ((wr.setCell ⟨bh, i, none⟩ (.int .i32 (v : Nat))).setCell ⟨bt, v, none⟩ (.int .i32 (i : Int)))) := hfill
      obtain ⟨p0, p1, p2⟩ := O.out wr hDW.fr
      obtain ⟨⟨x, ci⟩, fi⟩ := hDW.open_ (by omega)
      obtain ⟨ct, ft⟩ := holds_at hDW.at_ (t := v) (by omega)
      generalize Tc[v]! = tv at ct
      clear hfill hc
      go_wp2_with fail
      go_region
      all_goals
        go_wp2
        go_end0
        exact ⟨rfl, V, _, hdone, HF.out.1, HF.out.2.1, HF.out.2.2.drew⟩
end Go.Proofs.Qxb6602679a
