import Derived.Test.Qxb6600854aHeap
import Derived.Test.Qxb6600854aPart
import Derived.Test.Qxb6600854aPartEq
import Derived.Test.Qxb6600854aRev
import Derived.Test.Qxb6600854aPis
import Derived.Test.Qxb6600854aBrk
import Derived.Test.Qxb6600854aPiv
namespace Go.Proofs.Qxb6600854a.Sr
open Go.ChangeShapes Go.WideShapes Go.ChangeAt Go.RowKit Go.Sort
set_option linter.unusedVariables false

def Pdq (blk off n c a b lim : Nat) (d : Array Int) (w : World) : Prop :=
  Calls Try.prog 29 #[.slice (some ⟨blk, off, none⟩) n c, .int .i64 a, .int .i64 b, .int .i64 lim] w fun e w' => e = .returned (.tuple #[]) ∧ ∃ d' : Array Int, PermIn a b d d' ∧ Asc d' a b ∧ SW w w' blk off n d'

set_option maxHeartbeats 16000000 in
set_option maxRecDepth 100000 in
theorem pdq29 (blk off n c : Nat) (hn : n < 65536) : ∀ (M a b lim : Nat) (d : Array Int) (w : World), b - a = M → a ≤ b → b ≤ n → lim ≤ 64 → Holds (Value.int .u64) w blk off d → d.size = n → Bl d a b → Pdq blk off n c a b lim d w := by
  intro M
  induction M using Nat.strongRecOn with
  | ind M ih =>
    intro a b lim d w hM hab hb hlim hH hs hbl
    have IH : Hid (∀ m, m < M → ∀ (a b lim : Nat) (d : Array Int) (w : World), b - a = m → a ≤ b → b ≤ n → lim ≤ 64 → Holds (Value.int .u64) w blk off d → d.size = n → Bl d a b → Pdq blk off n c a b lim d w) := ih
    have W0 : Hid (SW w w blk off n d) := SW.start hH hs
    have BL0 : Hid (Bl d a b) := hbl
    clear ih hH hbl
    unfold Pdq
    go_enter Try.func29, Try.ntmps29
    go_wp2_with fail
    go_loopg [1, 2, 3, 8, 9] n (fun g va vb vl v8 v9 wr => ∃ (a' b' l : Nat) (wb wp : Bool) (dk : Array Int), va = .int .i64 a' ∧ vb = .int .i64 b' ∧ vl = .int .i64 l ∧ v8 = .bool wb ∧ v9 = .bool wp ∧ a ≤ a' ∧ a' ≤ b' ∧ b' ≤ b ∧ l ≤ 64 ∧ b' - a' ≤ g ∧ Hid (PermIn a b d dk) ∧ Hid (Left dk a b a' b') ∧ Hid (Bl dk a' b') ∧ Hid (SW w wr blk off n dk))
    case atStart => exact ⟨a, b, lim, true, true, d, rfl, rfl, rfl, rfl, rfl, by omega, hab, by omega, hlim, by omega, permIn_refl _ _ _, Left_start _ _ _, BL0, W0⟩
    case round =>
      clear W0 BL0 hlim
      obtain ⟨a', b', l, wb, wp, dk, rfl, rfl, rfl, rfl, rfl, aa, ab, bb, hl, hg, hp, hleft, hbl, hW⟩ := hrel
      obtain ⟨L, hL⟩ : ∃ L, a' + L = b' := ⟨b' - a', by omega⟩
      have iL : (b' : Int) - (a' : Int) = (L : Int) := by omega
      have dsz : Hid (b ≤ d.size) := by show b ≤ d.size; omega
      by_cases h12 : L ≤ 12
      · go_wp2_with fail
        go_at_call 32
        refine (ins32 blk off n c a' b' dk _ (by omega) (by omega) (by omega) hW.out.row hW.out.size).mono ?_
        rintro e w' ⟨rfl, d2, hp2, ha2, hW2⟩
        have F : Hid (PermIn a b d d2 ∧ Asc d2 a b ∧ SW w w' blk off n d2) :=
          ⟨permIn_trans _ _ _ _ _ hp.out (permIn_mono _ _ _ _ _ _ aa bb (by rw [hW.out.size]; omega) hp2), Left_done (Left_perm hleft.out hp2 aa bb ab (by rw [hW.out.size]; omega)) ha2, hW.out.trans hW2⟩
        clear hp2 ha2 hW2
        go_wp2_with fail
        exact bodyPost_ret (results_none rfl _ _ _) rfl ⟨rfl, d2, F.out⟩
      by_cases hl0 : l = 0
      · have t0 : ((l : Int) == 0) = true := by simp [hl0]
        clear hl0
        go_wp2_with fail
        go_at_call 33
        refine (heap33 blk off n c a' b' dk _ (by omega) (by omega) (by omega) hW.out.row hW.out.size).mono ?_
        rintro e w' ⟨rfl, d2, hp2, ha2, hW2⟩
        have F : Hid (PermIn a b d d2 ∧ Asc d2 a b ∧ SW w w' blk off n d2) :=
          ⟨permIn_trans _ _ _ _ _ hp.out (permIn_mono _ _ _ _ _ _ aa bb (by rw [hW.out.size]; omega) hp2), Left_done (Left_perm hleft.out hp2 aa bb ab (by rw [hW.out.size]; omega)) ha2, hW.out.trans hW2⟩
        clear hp2 ha2 hW2
        go_wp2_with fail
        exact bodyPost_ret (results_none rfl _ _ _) rfl ⟨rfl, d2, F.out⟩
      have t0 : ((l : Int) == 0) = false := by rw [beq_eq_false_iff_ne]; omega
      go_upto_if 35 with fail
      go_cut [3] (fun v w' => ∃ (l2 : Nat) (d2 : Array Int), v = .int .i64 l2 ∧ l2 ≤ 64 ∧ Hid (PermIn a' b' dk d2) ∧ Hid (SW w w' blk off n d2))
      case first =>
        cases wb
        · go_wp2_with fail
          go_at_call 34
          refine (break34 blk off n c a' b' dk _ hn (by omega) (by omega) hW.out.row hW.out.size).mono ?_
          rintro e w' ⟨rfl, d2, hp2, hW2⟩
          have W2 : Hid (SW w w' blk off n d2) := hW.out.trans hW2
          have P2 : Hid (PermIn a' b' dk d2) := hp2
          clear hp2 hW2
          go_wp2_with fail
          go_meet
          case rel => exact ⟨l - 1, d2, by go_num, by omega, P2, W2⟩
        · go_wp2_with fail
          go_meet
          case rel => exact ⟨l, dk, rfl, hl, permIn_refl _ _ _, hW⟩
      case rest =>
        obtain ⟨l2, d2, rfl, hl2, hp2, hW2⟩ := hcut
        clear hW t0
        go_wp2_with fail
        go_at_call 35
        refine (pivot35 blk off n c a' b' d2 _ (by omega) (by omega) (by omega) hW2.out.row hW2.out.size).mono ?_
        rintro e w3 ⟨pv, h, rfl, pv1, pv2, h2, hW3⟩
        have W3 : Hid (SW w w3 blk off n d2) := hW2.out.trans hW3
        clear hW3 hW2
        go_upto_if 50 with fail
        go_cut [11, 12] (fun v11 v12 w' => ∃ (p h' : Nat) (d4 : Array Int), v11 = .int .i64 p ∧ v12 = .int .i64 h' ∧ h' ≤ 2 ∧ a' ≤ p ∧ p < b' ∧ Hid (PermIn a' b' dk d4) ∧ Hid (SW w w' blk off n d4))
        case first =>
          by_cases h22 : h = 2
          · have t2 : ((h : Int) == 2) = true := by simp [h22]
            clear h22
            go_wp2_with fail
            go_at_call 36
            refine (rev36 blk off n c a' b' d2 _ (by omega) (by omega) (by omega) W3.out.row W3.out.size).mono ?_
            rintro e w4 ⟨rfl, d4, hp4, hW4⟩
            have W4 : Hid (SW w w4 blk off n d4) := W3.out.trans hW4
            have P4 : Hid (PermIn a' b' dk d4) := permIn_trans _ _ _ _ _ hp2.out hp4
            clear hp4 hW4 t2
            go_wp2_with fail
            go_meet
            case rel => exact ⟨b' - 1 - (pv - a'), 1, d4, by go_num, rfl, by omega, by omega, by omega, P4, W4⟩
          · have t2 : ((h : Int) == 2) = false := by rw [beq_eq_false_iff_ne]; omega
            go_wp2_with fail
            go_meet
            case rel => exact ⟨pv, h, d2, rfl, rfl, h2, pv1, pv2, hp2, W3⟩
        case rest =>
          obtain ⟨p, h', d4, rfl, rfl, h2', p1, p2, hp4, W4⟩ := hcut
          clear W3 hp2 pv1 pv2 h2
          go_upto_region 15 with fail
          go_cut [68] (fun v w' => (∃ β : Bool, v = .bool β) ∧ w' = wc)
          case first =>
            by_cases h1 : h' = 1
            · have t1 : ((h' : Int) == 1) = true := by simp [h1]
              clear h1
              cases wb <;> cases wp
              all_goals
                go_wp2_with fail
                go_meet
                case rel => exact ⟨⟨_, rfl⟩, rfl⟩
            · have t1 : ((h' : Int) == 1) = false := by rw [beq_eq_false_iff_ne]; omega
              cases wb <;> cases wp
              all_goals
                go_wp2_with fail
                go_meet
                case rel => exact ⟨⟨_, rfl⟩, rfl⟩
          case rest =>
            obtain ⟨⟨β, rfl⟩, rfl⟩ := hcut
            go_upto_if 68 with fail
            go_cut [72] (fun _ w' => ∃ d5 : Array Int, Hid (PermIn a' b' dk d5) ∧ Hid (SW w w' blk off n d5))
            case first =>
              cases β
              · go_wp2_with fail
                go_meet
                case rel => exact ⟨d4, hp4, W4⟩
              · go_wp2_with fail
                go_at_call 37
                refine (pis37 blk off n c a' b' d4 _ (by omega) (by omega) (by omega) W4.out.row W4.out.size (Bl_perm hbl.out hp4.out (by rw [← hp4.out.1, W4.out.size]; omega))).mono ?_
                rintro e w5 (⟨rfl, d5, hp5, ha5, hW5⟩ | ⟨rfl, d5, hp5, hW5⟩)
                · have P5 : PermIn a' b' dk d5 := permIn_trans _ _ _ _ _ hp4.out hp5
                  have F : Hid (PermIn a b d d5 ∧ Asc d5 a b ∧ SW w w5 blk off n d5) :=
                    ⟨permIn_trans _ _ _ _ _ hp.out (permIn_mono _ _ _ _ _ _ aa bb (by rw [← hp4.out.1, W4.out.size]; omega) P5), Left_done (Left_perm hleft.out P5 aa bb ab (by rw [← hp4.out.1, W4.out.size]; omega)) ha5, W4.out.trans hW5⟩
                  clear hp5 ha5 hW5 P5
                  go_wp2_with fail
                  exact bodyPost_ret (results_none rfl _ _ _) rfl ⟨rfl, d5, F.out⟩
                · have W5 : Hid (SW w w5 blk off n d5) := W4.out.trans hW5
                  have P5 : Hid (PermIn a' b' dk d5) := permIn_trans _ _ _ _ _ hp4.out hp5
                  clear hp5 hW5
                  go_wp2_with fail
                  go_meet
                  case rel => exact ⟨d5, P5, W5⟩
            case rest =>
              clear W4 hp4
              obtain ⟨d5, hp5, W5⟩ := hcut
              have d5s : Hid (b ≤ d5.size) := by show b ≤ d5.size; rw [W5.out.size]; omega
              have dks : Hid (b ≤ dk.size) := by show b ≤ dk.size; rw [← hp5.out.1]; exact d5s.out
              have L5 : Hid (Left d5 a b a' b') := Left_perm hleft.out hp5.out aa bb ab dks.out
              have B5 : Hid (Bl d5 a' b') := Bl_perm hbl.out hp5.out (by have := dks.out; omega)
              have P5 : Hid (PermIn a b d d5) := permIn_trans _ _ _ _ _ hp.out (permIn_mono _ _ _ _ _ _ aa bb dks.out hp5.out)
              clear hp hleft hbl hp5 dks
              obtain ⟨β2, hβ⟩ : ∃ β2 : Bool, β2 = decide (0 < a' ∧ ¬ d5[a' - 1]! < d5[p]!) := ⟨_, rfl⟩
              have HB : Hid (β2 = decide (0 < a' ∧ ¬ d5[a' - 1]! < d5[p]!)) := hβ
              clear hβ
              go_upto_region 17 with fail
              go_cut [87] (fun v w' => v = .bool β2 ∧ ∃ q, w' = wc.drewN q)
              case first =>
                by_cases ha0 : 0 < a'
                · obtain ⟨k, hk⟩ : ∃ k, k + 1 = a' := ⟨a' - 1, by omega⟩
                  have ek : (a' : Int) - 1 = (k : Int) := by omega
                  have g1 : decide ((0 : Int) < (a' : Int)) = true := decide_eq_true (by omega)
                  have g2 : (0 : Int) < (a' : Int) := by omega
                  have bK : k < n := by omega
                  have bP : p < n := by omega
                  have ck := W5.out.cell bK
                  have cp := W5.out.cell bP
                  generalize hx : d5[k]! = x at ck
                  generalize hy : d5[p]! = y at cp
                  have tst : decide (x < y) = !β2 := by
                    rw [HB.out, show a' - 1 = k by omega, hx, hy]; by_cases q : x < y <;> simp [ha0, q] <;> omega
                  clear hx hy
                  go_quiet ((go_at_call 27; exact Calls.quiet_of_same (Cell.less27 _ _ _)))
                  go_wp2_with fail
                  go_meet
                  case rel => exact ⟨by simp, _, rfl⟩
                · have hb0 : β2 = false := by rw [HB.out]; simp [ha0]
                  have g1 : decide ((0 : Int) < (a' : Int)) = false := decide_eq_false (by omega)
                  subst hb0
                  go_quiet (fail)
                  go_wp2_with fail
                  go_meet
                  case rel => exact ⟨rfl, _, rfl⟩
              case rest =>
                obtain ⟨rfl, q, hq⟩ := hcut
                have W6 : Hid (SW w wc blk off n d5) := by rw [hq]; exact W5.out.drewN q
                clear hq W5
                by_cases hl : 0 < a' ∧ ¬ d5[a' - 1]! < d5[p]!
                · obtain rfl : β2 = true := by rw [HB.out]; exact decide_eq_true hl
                  have HL : Hid (0 < a' ∧ ¬ d5[a' - 1]! < d5[p]!) := hl
                  clear hl HB
                  go_wp2_with fail
                  go_at_call 38
                  refine (parteq38 blk off n c a' b' p d5[p]! d5 _ (by omega) (by omega) p1 p2 W6.out.row W6.out.size rfl).mono ?_
                  rintro e w7 ⟨m, rfl, m1, m2, d7, hp7, lo7, hi7, hW7⟩
                  have W7 : Hid (SW w w7 blk off n d7) := W6.out.trans hW7
                  have B7 : Bl d7 a' b' := Bl_perm B5.out hp7 (by have := d5s.out; omega)
                  have L7 : Hid (Left d7 a b m b' ∧ Bl d7 m b') := Left_eq (Left_perm L5.out hp7 aa bb ab d5s.out) d5[p]! m1 m2
                    (fun t t1 t2 => by
                      have e1 := lo7 t t1 t2
                      have e2 := B7 t HL.out.1 t1 (by omega)
                      have e0 := HL.out.1
                      rw [hp7.2.1 (a' - 1) (by omega)] at e2
                      have e3 := HL.out.2
                      omega) hi7
                  have P7 : Hid (PermIn a b d d7) := permIn_trans _ _ _ _ _ P5.out (permIn_mono _ _ _ _ _ _ aa bb d5s.out hp7)
                  clear hp7 lo7 hi7 hW7 B7 W6
                  go_wp2_with fail
                  go_roundg (b' - m)
                  case measure => omega
                  case rel => exact ⟨m, b', l2, wb, wp, d7, rfl, rfl, rfl, rfl, rfl, by omega, m2, bb, hl2, Nat.le_refl _, P7, L7.out.1, L7.out.2, W7⟩
                · obtain rfl : β2 = false := by rw [HB.out]; exact decide_eq_false hl
                  clear hl HB
                  go_wp2_with fail
                  go_at_call 39
                  refine (part39 blk off n c a' b' p d5 _ (by omega) (by omega) p1 p2 W6.out.row W6.out.size).mono ?_
                  rintro e w7 ⟨m, v, d7, rfl, m1, m2, hp7, hcu, hW7⟩
                  have W7 : Hid (SW w w7 blk off n d7) := W6.out.trans hW7
                  have B7 : Hid (Bl d7 a' b') := Bl_perm B5.out hp7 (by have := d5s.out; omega)
                  have L7 : Hid (Left d7 a b a' b') := Left_perm L5.out hp7 aa bb ab d5s.out
                  have P7 : Hid (PermIn a b d d7) := permIn_trans _ _ _ _ _ P5.out (permIn_mono _ _ _ _ _ _ aa bb d5s.out hp7)
                  have CU : Hid (Cut d7 a' b' m) := hcu
                  have d7s : Hid (b ≤ d7.size) := by show b ≤ d7.size; rw [W7.out.size]; omega
                  clear hp7 hcu hW7 W6 B5 L5 P5 d5s
                  obtain ⟨lL, hlL⟩ : ∃ lL, a' + lL = m := ⟨m - a', by omega⟩
                  have ilL : (m : Int) - (a' : Int) = (lL : Int) := by omega
                  obtain ⟨rL, hrL⟩ : ∃ rL, m + rL = b' := ⟨b' - m, by omega⟩
                  have irL : (b' : Int) - (m : Int) = (rL : Int) := by omega
                  obtain ⟨m3, hm3⟩ : ∃ m3, m + 1 = m3 := ⟨_, rfl⟩
                  have im3 : (m : Int) + 1 = (m3 : Int) := by omega
                  by_cases hlr : lL < rL
                  · go_wp2_with fail
                    go_at_call 29
                    refine (IH.out (m - a') (by omega) a' m l2 d7 _ rfl m1 (by omega) hl2 W7.out.row W7.out.size (fun t h0 h1 h2 => B7.out t h0 h1 (by omega))).mono ?_
                    rintro e w8 ⟨rfl, d8, hp8, ha8, hW8⟩
                    have W8 : Hid (SW w w8 blk off n d8) := W7.out.trans hW8
                    have hp8' : PermIn a' b' d7 d8 := permIn_mono _ _ _ _ _ _ (Nat.le_refl _) (by omega) (by have := d7s.out; omega) hp8
                    have em : d8[m]! = d7[m]! := hp8.2.1 m (by omega)
                    have L8 : Hid (Left d8 a b (m + 1) b' ∧ Bl d8 (m + 1) b') := Left_left (Left_perm L7.out hp8' aa bb ab d7s.out) m1 m2 ha8
                      (fun t t1 t2 => by
                        rw [em]
                        exact permIn_all d7 d8 a' m (fun x => x < d7[m]!) (by have := d7s.out; omega) hp8 (fun i i1 i2 => CU.out.1 i i1 i2) t t1 t2)
                      (fun t t1 t2 => by
                        rw [em, hp8.2.1 t (by omega)]
                        exact CU.out.2 t t1 t2)
                    have P8 : Hid (PermIn a b d d8) := permIn_trans _ _ _ _ _ P7.out (permIn_mono _ _ _ _ _ _ aa bb d7s.out hp8')
                    clear hp8 hp8' ha8 hW8 em W7 L7 B7 P7
                    go_wp2_with fail
                    go_roundg (b' - (m + 1))
                    case measure => omega
                    case rel => exact ⟨m + 1, b', l2, _, v, d8, by go_num, rfl, rfl, rfl, rfl, by omega, by omega, bb, hl2, Nat.le_refl _, P8, L8.out.1, L8.out.2, W8⟩
                  · go_wp2_with fail
                    go_at_call 29
                    refine (IH.out (b' - m3) (by omega) m3 b' l2 d7 _ rfl (by omega) (by omega) hl2 W7.out.row W7.out.size (fun t h0 h1 h2 => by
                      have := CU.out.2 t (by omega) h2
                      rw [show m3 - 1 = m by omega]; omega)).mono ?_
                    rintro e w8 ⟨rfl, d8, hp8, ha8, hW8⟩
                    have W8 : Hid (SW w w8 blk off n d8) := W7.out.trans hW8
                    have hp8' : PermIn a' b' d7 d8 := permIn_mono _ _ _ _ _ _ (by omega) (Nat.le_refl _) (by have := d7s.out; omega) hp8
                    have em : d8[m]! = d7[m]! := hp8.2.1 m (by omega)
                    have L8 : Hid (Left d8 a b a' m) := Left_right (Left_perm L7.out hp8' aa bb ab d7s.out) m1 m2 (by rw [hm3]; exact ha8)
                      (fun t t1 t2 => by
                        rw [em, hp8.2.1 t (by omega)]
                        exact CU.out.1 t t1 t2)
                      (fun t t1 t2 => by
                        rw [em]
                        exact permIn_all d7 d8 m3 b' (fun x => ¬ x < d7[m]!) (by have := d7s.out; omega) hp8 (fun i i1 i2 => CU.out.2 i (by omega) i2) t (by omega) t2)
                    have B8 : Hid (Bl d8 a' m) := fun t h0 h1 h2 => Bl_perm B7.out hp8' (by have := d7s.out; omega) t h0 h1 (by omega)
                    have P8 : Hid (PermIn a b d d8) := permIn_trans _ _ _ _ _ P7.out (permIn_mono _ _ _ _ _ _ aa bb d7s.out hp8')
                    clear hp8 hp8' ha8 hW8 em W7 L7 B7 P7
                    go_wp2_with fail
                    go_roundg (m - a')
                    case measure => omega
                    case rel => exact ⟨a', m, l2, _, v, d8, rfl, rfl, rfl, rfl, rfl, by omega, by omega, by omega, hl2, Nat.le_refl _, P8, L8, B8, W8⟩

set_option maxHeartbeats 1000000 in
/-- slices.Sort at uint64: the same keys, ascending. -/
theorem sort26 (blk off n c : Nat) (d : Array Int) (w : World) (hn : n < 65536) (hH : Holds (Value.int .u64) w blk off d) (hs : d.size = n) :
    Calls Try.prog 26 #[.slice (some ⟨blk, off, none⟩) n c] w fun e w' => e = .returned (.tuple #[]) ∧ ∃ d' : Array Int, PermIn 0 n d d' ∧ Asc d' 0 n ∧ SW w w' blk off n d' := by
  have hl := fun w => len30 (n : Int) w (by omega) (by omega)
  have b16 : Lib.bitLen n ≤ 16 := Lib.bitLen_le n 16 (by omega) (by simpa using hn)
  simp only [Int.toNat_natCast] at hl
  generalize Lib.bitLen n = k at b16 hl
  have HL : Hid (∀ w, Calls Try.prog 30 #[.int .u64 (n : Int)] w fun e w' => e = .returned (.int .i64 k) ∧ w' = w) := hl
  have HP : Hid (Pdq blk off n c 0 n k d w) := pdq29 blk off n c hn n 0 n k d w (by omega) (by omega) (by omega) (by omega) hH hs (fun t h0 => absurd h0 (Nat.lt_irrefl _))
  clear hl hH
  go_enter Try.func26, Try.ntmps26
  go_wp2_with fail
  go_at_call 30
  refine (HL.out _).mono ?_
  rintro e w' ⟨rfl, rfl⟩
  go_wp2_with fail
  go_at_call 29
  refine HP.out.mono ?_
  rintro e w2 ⟨rfl, d2, hp2, ha2, hW2⟩
  have F : Hid (PermIn 0 n d d2 ∧ Asc d2 0 n ∧ SW w' w2 blk off n d2) := ⟨hp2, ha2, hW2⟩
  clear hp2 ha2 hW2
  go_wp2_with fail
  go_end0
  exact ⟨rfl, d2, F.out⟩
end Go.Proofs.Qxb6600854a.Sr
