import Derived.Test.Qxb6600854aIns
namespace Go.Proofs.Qxb6600854a.Sr
open Go.ChangeShapes Go.WideShapes Go.ChangeAt Go.RowKit Go.Sort

/-- Ahead of i not above the pivot at a, behind j above it. -/
def Peq (d : Array Int) (a b i j : Nat) (p : Int) : Prop := d[a]! = p ∧ (∀ t : Nat, a < t → t < i → ¬ p < d[t]!) ∧ (∀ t : Nat, j < t → t < b → p < d[t]!)
theorem Peq_left {d : Array Int} {a b i j : Nat} {p : Int} (h : Peq d a b i j p) (hl : ¬ p < d[i]!) : Peq d a b (i + 1) j p := ⟨h.1, fun t h1 h2 => by
  by_cases e : t = i
  · rw [e]; exact hl
  · exact h.2.1 t h1 (by omega), h.2.2⟩
theorem Peq_right {d : Array Int} {a b i j : Nat} {p : Int} (h : Peq d a b i j p) (hl : p < d[j]!) : Peq d a b i (j - 1) p := ⟨h.1, h.2.1, fun t h1 h2 => by
  by_cases e : t = j
  · rw [e]; exact hl
  · exact h.2.2 t (by omega) h2⟩
theorem Peq_swap {d : Array Int} {a b i j : Nat} {p : Int} (h : Peq d a b i j p) (hs : b ≤ d.size) (h1 : a < i) (h2 : i < j) (h3 : j < b) (hi : p < d[i]!) (hj : ¬ p < d[j]!) : Peq (swp d i j) a b (i + 1) (j - 1) p := by
  have e1 : (swp d i j)[i]! = d[j]! := swp_i d _ _ (by omega) (by omega)
  have e2 : (swp d i j)[j]! = d[i]! := swp_right d _ _ (by omega)
  have e3 : ∀ t : Nat, t ≠ i → t ≠ j → (swp d i j)[t]! = d[t]! := fun t => swp_other d i j t
  refine ⟨by rw [e3 a (by omega) (by omega)]; exact h.1, fun t t1 t2 => ?_, fun t t1 t2 => ?_⟩
  · by_cases e : t = i
    · rw [e, e1]; exact hj
    · rw [e3 t e (by omega)]; exact h.2.1 t t1 (by omega)
  · by_cases e : t = j
    · rw [e, e2]; exact hi
    · rw [e3 t (by omega) e]; exact h.2.2 t (by omega) t2

set_option maxHeartbeats 8000000 in
set_option maxRecDepth 100000 in
theorem parteq38 (blk off n c a b pv : Nat) (p : Int) (d : Array Int) (w : World) (hn : n ≤ 131072) (hb : b ≤ n) (hp1 : a ≤ pv) (hp2 : pv < b) (hH : Holds (Value.int .u64) w blk off d) (hs : d.size = n) (hpv : d[pv]! = p) :
    Calls Try.prog 38 #[.slice (some ⟨blk, off, none⟩) n c, .int .i64 a, .int .i64 b, .int .i64 pv] w fun e w' => ∃ m : Nat, e = .returned (.int .i64 m) ∧ a < m ∧ m ≤ b ∧ ∃ d' : Array Int, PermIn a b d d' ∧ (∀ t : Nat, a ≤ t → t < m → d'[t]! ≤ p) ∧ (∀ t : Nat, m ≤ t → t < b → p < d'[t]!) ∧ SW w w' blk off n d' := by
  have W0 : Hid (SW w w blk off n d) := SW.start hH hs
  have bA : a < n := by omega
  have bP : pv < n := by omega
  have c1 := W0.out.cell bA
  have c2 := W0.out.cell bP
  have f1 := W0.out.open_ bA
  have f2 := W0.out.open_ bP
  generalize hx : d[a]! = x at c1
  rw [hpv] at c2
  have hy := hpv
  obtain ⟨v', hy'⟩ := cell?_setCell_some (w := w) (p := ⟨blk, off + a, none⟩) (x := .int .u64 p) (q := ⟨blk, off + pv, none⟩) c2
  have W2 : Hid (SW w ((w.setCell ⟨blk, off + a, none⟩ (.int .u64 p)).setCell ⟨blk, off + pv, none⟩ (.int .u64 x)) blk off n (swp d a pv)) := W0.out.swap bA bP hy hx
  have PI : Hid (Peq (swp d a pv) a b (a + 1) (b - 1) p) := ⟨by rw [swp_i d _ _ (by omega) (by omega)]; exact hy, fun t h1 h2 => by omega, fun t h1 h2 => by omega⟩
  have PP : Hid (PermIn a b d (swp d a pv)) := swp_permIn d a b a pv (Nat.le_refl _) (by omega) hp1 hp2 (by omega)
  obtain ⟨bm, hbm⟩ : ∃ bm, bm + 1 = b := ⟨b - 1, by omega⟩
  have ibm : (b : Int) - 1 = (bm : Int) := by omega
  have HBM : Hid (b - 1 = bm) := by show b - 1 = bm; omega
  clear hH hx W0 hy hpv
  generalize swp d a pv = d0 at PI PP W2
  go_enter Try.func38, Try.ntmps38
  go_wp2_with fail
  go_region
  all_goals
    have W4 : Hid _ := W2.out.drew
    clear W2 c1 c2 f1 f2 hy'
    generalize World.drew _ = w5 at W4
    go_wp2_with fail
    go_loopg [9, 10] n (fun g vi vj wr => ∃ (i j : Nat) (dk : Array Int), vi = .int .i64 i ∧ vj = .int .i64 j ∧ a < i ∧ j ≤ bm ∧ i ≤ j + 1 ∧ n - i ≤ g ∧ Hid (Peq dk a b i j p) ∧ Hid (PermIn a b d dk) ∧ Hid (SW w wr blk off n dk))
    case atStart => exact ⟨a + 1, bm, d0, by go_num, rfl, by omega, by omega, by omega, by omega, by rw [← HBM.out]; exact PI, PP, W4⟩
    case round =>
      clear W4 PI PP
      obtain ⟨i3, j3, dk, rfl, rfl, ai3, jb3, ij3, hg3, hpin3, PP, hW3⟩ := hrel
      go_wp2_with fail
      go_loopg [9] n (fun g vi wr => ∃ i : Nat, vi = .int .i64 i ∧ i3 ≤ i ∧ i ≤ j3 + 1 ∧ n - i ≤ g ∧ Hid (Peq dk a b i j3 p) ∧ Hid (SW w wr blk off n dk))
      case atStart => exact ⟨i3, rfl, by omega, by omega, by omega, hpin3, hW3⟩
      case round =>
        clear hpin3 hW3
        obtain ⟨i, rfl, i3i, ib, hg4, hpin, hW⟩ := hrel
        obtain ⟨β, hβ⟩ : ∃ β : Bool, β = decide (i ≤ j3 ∧ ¬ p < dk[i]!) := ⟨_, rfl⟩
        have HB : Hid (β = decide (i ≤ j3 ∧ ¬ p < dk[i]!)) := hβ
        clear hβ
        go_upto_region 3 with fail
        go_cut [43] (fun v w' => v = .bool β ∧ ∃ q, w' = wr.drewN q)
        case first =>
          by_cases hij : i ≤ j3
          · have g1 : decide ((i : Int) ≤ (j3 : Int)) = true := decide_eq_true (by omega)
            have bI : i < n := by omega
            have ca := hW.out.cell bA
            have ci := hW.out.cell bI
            rw [hpin.out.1] at ca
            generalize hy : dk[i]! = y at ci
            have tst : decide (p < y) = !β := by rw [HB.out, hy]; by_cases q : p < y <;> simp [hij, q] <;> omega
            clear hy
            have j1 : (i : Int) ≤ (j3 : Int) := by omega
            go_quiet ((go_at_call 27; exact Calls.quiet_of_same (Cell.less27 _ _ _)))
            go_wp2_with fail
            go_meet
            case rel => exact ⟨by simp, _, rfl⟩
          · have hb0 : β = false := by rw [HB.out]; simp [hij]
            have g1 : decide ((i : Int) ≤ (j3 : Int)) = false := decide_eq_false (by omega)
            subst hb0
            go_quiet (fail)
            go_wp2_with fail
            go_meet
            case rel => exact ⟨rfl, _, rfl⟩
        case rest =>
          obtain ⟨rfl, q, hq⟩ := hcut
          have Wc : Hid (SW w wc blk off n dk) := by rw [hq]; exact hW.out.drewN q
          clear hq hW
          by_cases hl : i ≤ j3 ∧ ¬ p < dk[i]!
          · obtain rfl : β = true := by rw [HB.out]; exact decide_eq_true hl
            have PN : Hid (Peq dk a b (i + 1) j3 p) := Peq_left hpin.out hl.2
            have i2 := hl.1
            clear hl HB
            go_wp2_with fail
            go_roundg (n - (i + 1))
            case measure => omega
            case rel => exact ⟨i + 1, by go_num, by omega, by omega, by omega, PN, Wc⟩
          have HL : Hid (¬ (i ≤ j3 ∧ ¬ p < dk[i]!)) := hl
          obtain rfl : β = false := by rw [HB.out]; exact decide_eq_false hl
          clear hl HB
          go_wp2_with fail
          go_loopg [10] n (fun g vj wr => ∃ j : Nat, vj = .int .i64 j ∧ j ≤ j3 ∧ i ≤ j + 1 ∧ j ≤ g ∧ Hid (Peq dk a b i j p) ∧ Hid (SW w wr blk off n dk))
          case atStart => exact ⟨j3, rfl, by omega, by omega, by omega, hpin, Wc⟩
          case round =>
            clear Wc hpin
            obtain ⟨j, rfl, jj, ij, hg5, hpin, hW⟩ := hrel
            have HL2 : Hid (i ≤ j3 → p < dk[i]!) := fun q1 => by
              rcases Int.lt_or_le p dk[i]! with q | q
              · exact q
              · exact absurd ⟨q1, by omega⟩ HL.out
            clear HL
            obtain ⟨β, hβ⟩ : ∃ β : Bool, β = decide (i ≤ j ∧ p < dk[j]!) := ⟨_, rfl⟩
            have HB : Hid (β = decide (i ≤ j ∧ p < dk[j]!)) := hβ
            clear hβ
            go_upto_region 5 with fail
            go_cut [59] (fun v w' => v = .bool β ∧ ∃ q, w' = wr.drewN q)
            case first =>
              by_cases hij : i ≤ j
              · have g1 : decide ((i : Int) ≤ (j : Int)) = true := decide_eq_true (by omega)
                have bI : j < n := by omega
                have ca := hW.out.cell bA
                have ci := hW.out.cell bI
                rw [hpin.out.1] at ca
                generalize hy : dk[j]! = y at ci
                have tst : decide (p < y) = β := by rw [HB.out, hy]; by_cases q : p < y <;> simp [hij, q] <;> omega
                clear hy
                have j1 : (i : Int) ≤ (j : Int) := by omega
                go_quiet ((go_at_call 27; exact Calls.quiet_of_same (Cell.less27 _ _ _)))
                go_wp2_with fail
                go_meet
                case rel => exact ⟨rfl, _, rfl⟩
              · have hb0 : β = false := by rw [HB.out]; simp [hij]
                have g1 : decide ((i : Int) ≤ (j : Int)) = false := decide_eq_false (by omega)
                subst hb0
                go_quiet (fail)
                go_wp2_with fail
                go_meet
                case rel => exact ⟨rfl, _, rfl⟩
            case rest =>
              obtain ⟨rfl, q, hq⟩ := hcut
              have Wc : Hid (SW w wc blk off n dk) := by rw [hq]; exact hW.out.drewN q
              clear hq hW
              by_cases hl : i ≤ j ∧ p < dk[j]!
              · obtain rfl : β = true := by rw [HB.out]; exact decide_eq_true hl
                have PN : Hid (Peq dk a b i (j - 1) p) := Peq_right hpin.out hl.2
                have i2 := hl.1
                clear hl HB
                go_wp2_with fail
                go_roundg (j - 1)
                case measure => omega
                case rel => exact ⟨j - 1, by go_num, by omega, by omega, by omega, PN, Wc⟩
              have HR : Hid (¬ (i ≤ j ∧ p < dk[j]!)) := hl
              obtain rfl : β = false := by rw [HB.out]; exact decide_eq_false hl
              clear hl HB
              have HL : Hid (¬ (i ≤ j ∧ ¬ p < dk[i]!)) := fun q => q.2 (HL2.out (by omega))
              clear HL2
              have ai : a < i := by omega
              by_cases hij : i ≤ j
              · have h1 : p < dk[i]! := by
                  rcases Int.lt_or_le p dk[i]! with q | q
                  · exact q
                  · exact absurd ⟨by omega, by omega⟩ HL.out
                have h2 : ¬ p < dk[j]! := fun q => HR.out ⟨by omega, q⟩
                have hne : i ≠ j := by rintro rfl; exact h2 h1
                have PN : Hid (Peq (swp dk i j) a b (i + 1) (j - 1) p) := Peq_swap hpin.out (by rw [Wc.out.size]; exact hb) ai (by omega) (by omega) h1 h2
                have PQ : Hid (PermIn a b d (swp dk i j)) := perm_swp PP.out i j (by omega) (by omega) (by omega) (by omega) (by omega)
                have bI : i < n := by omega
                have bJ : j < n := by omega
                clear h1 h2 HL HR hpin PP
                have c1 := Wc.out.cell bI
                have c2 := Wc.out.cell bJ
                have f1 := Wc.out.open_ bI
                have f2 := Wc.out.open_ bJ
                generalize hx : dk[i]! = x at c1
                generalize hy : dk[j]! = y at c2
                obtain ⟨v', hy'⟩ := cell?_setCell_some (w := wc) (p := ⟨blk, off + i, none⟩) (x := .int .u64 y) (q := ⟨blk, off + j, none⟩) c2
                have W2 : Hid (SW w ((wc.setCell ⟨blk, off + i, none⟩ (.int .u64 y)).setCell ⟨blk, off + j, none⟩ (.int .u64 x)) blk off n (swp dk i j)) := Wc.out.swap bI bJ hy hx
                clear hx hy Wc
                generalize swp dk i j = d2 at *
                go_wp2_with fail
                go_region
                all_goals
                  have W4 : Hid _ := W2.out.drew
                  clear W2 c1 c2 f1 f2 hy'
                  generalize World.drew _ = w5 at W4
                  go_wp2_with fail
                  go_roundg (n - (i + 1))
                  case measure => omega
                  case rel => exact ⟨i + 1, j - 1, d2, by go_num, by go_num, by omega, by omega, by omega, by omega, PN, PQ, W4⟩
              · go_wp2_with fail
                go_ret
                refine ⟨i, rfl, ai, by omega, dk, PP.out, fun t h1 h2 => ?_, fun t h1 h2 => hpin.out.2.2 t (by omega) h2, Wc.out⟩
                by_cases e : t = a
                · rw [e, hpin.out.1]; exact Int.le_refl _
                · have := hpin.out.2.1 t (by omega) h2; omega
end Go.Proofs.Qxb6600854a.Sr
