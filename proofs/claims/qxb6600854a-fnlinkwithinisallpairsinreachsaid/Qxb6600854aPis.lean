import Derived.Test.Qxb6600854aIns
namespace Go.Proofs.Qxb6600854a.Sr
open Go.ChangeShapes Go.WideShapes Go.ChangeAt Go.RowKit Go.Sort

theorem Asc_same {d d' : Array Int} {a i : Nat} (h : Asc d a i) (he : ∀ t : Nat, a ≤ t → t < i → d'[t]! = d[t]!) : Asc d' a i := fun s t h1 h2 h3 => by
  rw [he s h1 (by omega), he t (by omega) h3]; exact h s t h1 h2 h3

set_option maxHeartbeats 8000000 in
set_option maxRecDepth 100000 in
theorem pis37 (blk off n c a b : Nat) (d : Array Int) (w : World) (hn : n ≤ 131072) (hab : a < b) (hb : b ≤ n) (hH : Holds (Value.int .u64) w blk off d) (hs : d.size = n) (hbl : Bl d a b) :
    Calls Try.prog 37 #[.slice (some ⟨blk, off, none⟩) n c, .int .i64 a, .int .i64 b] w fun e w' => (e = .returned (.bool true) ∧ ∃ d' : Array Int, PermIn a b d d' ∧ Asc d' a b ∧ SW w w' blk off n d') ∨ (e = .returned (.bool false) ∧ ∃ d' : Array Int, PermIn a b d d' ∧ SW w w' blk off n d') := by
  have W0 : Hid (SW w w blk off n d) := SW.start hH hs
  have BL : Hid (Bl d a b) := hbl
  clear hH hbl
  obtain ⟨L, hL⟩ : ∃ L, a + L = b := ⟨b - a, by omega⟩
  have iL : (b : Int) - (a : Int) = (L : Int) := by omega
  go_enter Try.func37, Try.ntmps37
  go_wp2_with fail
  go_loopg [7, 8] 5 (fun g vi vj wr => ∃ (i s : Nat) (dk : Array Int), vi = .int .i64 i ∧ vj = .int .i64 s ∧ a < i ∧ i ≤ b ∧ s ≤ 5 ∧ 5 - s ≤ g ∧ Hid (PermIn a b d dk) ∧ Hid (Asc dk a i) ∧ Hid (SW w wr blk off n dk))
  case atStart => exact ⟨a + 1, 0, d, by go_num, rfl, by omega, by omega, by omega, by omega, permIn_refl _ _ _, Asc_one _ _, W0⟩
  case round =>
    clear W0
    obtain ⟨i0, s, dk, rfl, rfl, ai0, ib0, s5, hg, hp, hasc0, hW0⟩ := hrel
    by_cases hs5 : s < 5
    · go_wp2_with fail
      have HS5 : Hid (s < 5) := hs5
      clear hs5
      generalize decide ((s : Int) < 5) = bs
      go_loopg [7] n (fun g vi wr => ∃ i : Nat, vi = .int .i64 i ∧ i0 ≤ i ∧ i ≤ b ∧ n - i ≤ g ∧ Hid (Asc dk a i) ∧ Hid (SW w wr blk off n dk))
      case atStart => exact ⟨i0, rfl, by omega, by omega, by omega, hasc0, hW0⟩
      case round =>
        clear hasc0 hW0
        obtain ⟨i, rfl, ii, ib, hg2, hasc, hW⟩ := hrel
        obtain ⟨k, hk⟩ : ∃ k, k + 1 = i := ⟨i - 1, by omega⟩
        have ek : (i : Int) - 1 = (k : Int) := by omega
        obtain ⟨β, hβ⟩ : ∃ β : Bool, β = decide (i < b ∧ ¬ dk[i]! < dk[k]!) := ⟨_, rfl⟩
        have HB : Hid (β = decide (i < b ∧ ¬ dk[i]! < dk[k]!)) := hβ
        clear hβ
        have bK : k < n := by omega
        go_upto_region 5 with fail
        go_cut [32] (fun v w' => v = .bool β ∧ ∃ q, w' = wr.drewN q)
        case first =>
          by_cases hij : i < b
          · have g1 : decide ((i : Int) < (b : Int)) = true := decide_eq_true (by omega)
            have bI : i < n := by omega
            have ci := hW.out.cell bI
            have ck := hW.out.cell bK
            generalize hx : dk[i]! = x at ci
            generalize hy : dk[k]! = y at ck
            have tst : decide (x < y) = !β := by rw [HB.out, hx, hy]; by_cases q : x < y <;> simp [hij, q] <;> omega
            clear hx hy
            have j1 : (i : Int) < (b : Int) := by omega
            go_quiet ((go_at_call 27; exact Calls.quiet_of_same (Cell.less27 _ _ _)))
            go_wp2_with fail
            go_meet
            case rel => exact ⟨by simp, _, rfl⟩
          · have hb0 : β = false := by rw [HB.out]; simp [hij]
            have g1 : decide ((i : Int) < (b : Int)) = false := decide_eq_false (by omega)
            subst hb0
            go_quiet (fail)
            go_wp2_with fail
            go_meet
            case rel => exact ⟨rfl, _, rfl⟩
        case rest =>
          obtain ⟨rfl, q, hq⟩ := hcut
          have Wc : Hid (SW w wc blk off n dk) := by rw [hq]; exact hW.out.drewN q
          clear hq hW
          by_cases hl : i < b ∧ ¬ dk[i]! < dk[k]!
          · obtain rfl : β = true := by rw [HB.out]; exact decide_eq_true hl
            have PN : Hid (Asc dk a (i + 1)) := Asc_snoc hasc.out (by omega) (by rw [show i - 1 = k by omega]; omega)
            have i2 := hl.1
            clear hl HB
            go_wp2_with fail
            go_roundg (n - (i + 1))
            case measure => omega
            case rel => exact ⟨i + 1, by go_num, by omega, by omega, by omega, PN, Wc⟩
          obtain rfl : β = false := by rw [HB.out]; exact decide_eq_false hl
          clear hl HB
          by_cases hib : i = b
          · have t : ((i : Int) == (b : Int)) = true := by simp [hib]
            have AS : Hid (Asc dk a b) := by rw [← hib]; exact hasc.out
            clear hib
            go_wp2_with fail
            go_ret
            exact .inl ⟨rfl, dk, hp.out, AS.out, Wc.out⟩
          have hib2 : i < b := by omega
          have t : ((i : Int) == (b : Int)) = false := by rw [beq_eq_false_iff_ne]; omega
          by_cases hL50 : L < 50
          · go_wp2_with fail
            go_ret
            exact .inr ⟨rfl, dk, hp.out, Wc.out⟩
          have bI : i < n := by omega
          obtain ⟨D, hD⟩ : ∃ D, a + D = i := ⟨i - a, by omega⟩
          have iD : (i : Int) - (a : Int) = (D : Int) := by omega
          obtain ⟨E, hE⟩ : ∃ E, i + E = b := ⟨b - i, by omega⟩
          have iE : (b : Int) - (i : Int) = (E : Int) := by omega
          have AK : Hid (Asc (swp dk i k) a k) := Asc_same (a := a) (i := k) (fun s t h1 h2 h3 => hasc.out s t h1 h2 (by omega)) (fun t h1 h2 => swp_other dk i k t (by omega) (by omega))
          have PQ : Hid (PermIn a b d (swp dk i k)) := perm_swp hp.out i k (by omega) (by omega) (by omega) (by omega) (by omega)
          have c1 := Wc.out.cell bI
          have c2 := Wc.out.cell bK
          have f1 := Wc.out.open_ bI
          have f2 := Wc.out.open_ bK
          generalize hx : dk[i]! = x at c1
          generalize hy : dk[k]! = y at c2
          have W2 : Hid (SW w ((wc.setCell ⟨blk, off + i, none⟩ (.int .u64 y)).setCell ⟨blk, off + k, none⟩ (.int .u64 x)) blk off n (swp dk i k)) := Wc.out.swap bI bK hy hx
          clear hx hy Wc hasc hp
          generalize swp dk i k = d2 at *
          go_wp2_with fail
          go_region
          all_goals
            have W4 : Hid _ := W2.out.drew
            clear W2 c1 c2 f1 f2 t hib
            generalize World.drew _ = w5 at W4
            go_upto_if 61 with fail
            go_cut [9] (fun _ w' => ∃ dj : Array Int, Hid (PermIn a b d dj) ∧ Hid (Asc dj a i) ∧ Hid (SW w w' blk off n dj))
            case first =>
              by_cases hD2 : 2 ≤ D
              · go_wp2_with fail
                go_loopg [9] n (fun g vj wr => ∃ (j : Nat) (dj : Array Int), vj = .int .i64 j ∧ a ≤ j ∧ j ≤ k ∧ j ≤ g ∧ Hid (PermIn a b d dj) ∧ Hid (Sink dj a k j) ∧ Hid (SW w wr blk off n dj))
                case atStart => exact ⟨k, d2, rfl, by omega, by omega, by omega, PQ, Sink_start AK.out, W4⟩
                case round =>
                  clear W4 PQ AK
                  obtain ⟨j, dj, rfl, aj, jk, hg3, hp, hsk, hW⟩ := hrel
                  by_cases hj1 : 1 ≤ j
                  · obtain ⟨l, hl⟩ : ∃ l, l + 1 = j := ⟨j - 1, by omega⟩
                    have el : (j : Int) - 1 = (l : Int) := by omega
                    have bJ : j < n := by omega
                    have bL : l < n := by omega
                    have HK : Hid (j - 1 = l) := by show j - 1 = l; omega
                    have c1 := hW.out.cell bJ
                    have c2 := hW.out.cell bL
                    generalize hx : dj[j]! = x at c1
                    generalize hy : dj[l]! = y at c2
                    have HX : Hid (dj[j]! = x) := hx
                    have HY : Hid (dj[l]! = y) := hy
                    clear hx hy
                    by_cases hxy : x < y
                    · have haj : a < j := by
                        rcases Nat.lt_or_ge a j with q | q
                        · exact q
                        · have e : a = j := by omega
                          have := Bl_perm BL.out hp.out (by omega) j (by omega) (by omega) (by omega)
                          rw [show a - 1 = l by omega, HX.out, HY.out] at this
                          omega
                      have t : decide (x < y) = true := by simp [hxy]
                      have SK : Hid (Sink (swp dj j l) a k l) := by
                        have := Sink_step hsk.out (by rw [hW.out.size]; omega) jk haj (by rw [HK.out, HX.out, HY.out]; exact hxy)
                        rwa [HK.out] at this
                      have HPJ : Hid (PermIn a b d (swp dj j l)) := perm_swp hp.out j l (by omega) (by omega) (by omega) (by omega) (by omega)
                      clear hxy
                      go_wp2_with fail
                      go_quiet ((go_at_call 27; exact Calls.quiet_of_same (Cell.less27 _ _ _)))
                      go_wp2_with fail
                      generalize hq : wr.drewN nq = wq
                      have W3 : Hid (SW w wq blk off n dj) := by rw [← hq]; exact hW.out.drewN nq
                      clear c1 c2 hq t
                      have c1 := W3.out.cell bJ
                      have c2 := W3.out.cell bL
                      rw [HX.out] at c1
                      rw [HY.out] at c2
                      have f1 := W3.out.open_ bJ
                      have f2 := W3.out.open_ bL
                      have W2 : Hid (SW w ((wq.setCell ⟨blk, off + j, none⟩ (.int .u64 y)).setCell ⟨blk, off + l, none⟩ (.int .u64 x)) blk off n (swp dj j l)) := W3.out.swap bJ bL HY.out HX.out
                      go_region
                      all_goals
                        go_wp2
                        go_roundg l
                        case measure => omega
                        case rel => exact ⟨l, swp dj j l, rfl, by omega, by omega, by omega, HPJ, SK, W2.out.drew⟩
                    · have t : decide (x < y) = false := by simpa using hxy
                      have AS : Hid (Asc dj a i) := by
                        rw [← hk]
                        exact Sink_stop hsk.out jk (.inr (by rw [HK.out, HX.out, HY.out]; exact hxy))
                      clear hxy
                      go_wp2_with fail
                      go_quiet ((go_at_call 27; exact Calls.quiet_of_same (Cell.less27 _ _ _)))
                      go_wp2_with fail
                      go_meet
                      case rel => exact ⟨dj, hp, AS, hW.out.drewN nq⟩
                  · have AS : Hid (Asc dj a i) := by
                      rw [← hk]
                      exact Sink_stop hsk.out jk (.inl (by omega))
                    go_wp2_with fail
                    go_meet
                    case rel => exact ⟨dj, hp, AS, hW⟩
              · go_wp2_with fail
                go_meet
                case rel => exact ⟨d2, PQ, by rw [show i = a + 1 by omega]; exact Asc_one _ _, W4⟩
            case rest =>
              clear W4 PQ AK
              obtain ⟨dj, hp, hasc, hW⟩ := hcut
              by_cases hE2 : 2 ≤ E
              · go_wp2_with fail
                go_loopg [10] n (fun g vj wr => ∃ (j : Nat) (dj : Array Int), vj = .int .i64 j ∧ i < j ∧ j ≤ b ∧ n - j ≤ g ∧ Hid (PermIn a b d dj) ∧ Hid (Asc dj a i) ∧ Hid (SW w wr blk off n dj))
                case atStart => exact ⟨i + 1, dj, by go_num, by omega, by omega, by omega, hp, hasc, hW⟩
                case round =>
                  clear hW hp hasc
                  obtain ⟨j, dm, rfl, aj, jk, hg3, hp, hasc, hW⟩ := hrel
                  by_cases hj1 : j < b
                  · obtain ⟨l, hl⟩ : ∃ l, l + 1 = j := ⟨j - 1, by omega⟩
                    have el : (j : Int) - 1 = (l : Int) := by omega
                    have bJ : j < n := by omega
                    have bL : l < n := by omega
                    have c1 := hW.out.cell bJ
                    have c2 := hW.out.cell bL
                    generalize hx : dm[j]! = x at c1
                    generalize hy : dm[l]! = y at c2
                    have HX : Hid (dm[j]! = x) := hx
                    have HY : Hid (dm[l]! = y) := hy
                    clear hx hy
                    by_cases hxy : x < y
                    · have t : decide (x < y) = true := by simp [hxy]
                      have AS : Hid (Asc (swp dm j l) a i) := Asc_same hasc.out (fun t h1 h2 => swp_other dm j l t (by omega) (by omega))
                      have HPJ : Hid (PermIn a b d (swp dm j l)) := perm_swp hp.out j l (by omega) (by omega) (by omega) (by omega) (by omega)
                      clear hxy
                      go_wp2_with fail
                      go_quiet ((go_at_call 27; exact Calls.quiet_of_same (Cell.less27 _ _ _)))
                      go_wp2_with fail
                      generalize hq : wr.drewN nq = wq
                      have W3 : Hid (SW w wq blk off n dm) := by rw [← hq]; exact hW.out.drewN nq
                      clear c1 c2 hq t
                      have c1 := W3.out.cell bJ
                      have c2 := W3.out.cell bL
                      rw [HX.out] at c1
                      rw [HY.out] at c2
                      have f1 := W3.out.open_ bJ
                      have f2 := W3.out.open_ bL
                      have W2 : Hid (SW w ((wq.setCell ⟨blk, off + j, none⟩ (.int .u64 y)).setCell ⟨blk, off + l, none⟩ (.int .u64 x)) blk off n (swp dm j l)) := W3.out.swap bJ bL HY.out HX.out
                      go_region
                      all_goals
                        go_wp2
                        go_roundg (n - (j + 1))
                        case measure => omega
                        case rel => exact ⟨j + 1, swp dm j l, by go_num, by omega, by omega, by omega, HPJ, AS, W2.out.drew⟩
                    · have t : decide (x < y) = false := by simpa using hxy
                      clear hxy
                      go_wp2_with fail
                      go_quiet ((go_at_call 27; exact Calls.quiet_of_same (Cell.less27 _ _ _)))
                      go_wp2_with fail
                      have hs5 := HS5.out
                      go_roundg (5 - (s + 1))
                      case measure => omega
                      case rel => exact ⟨i, s + 1, dm, rfl, by go_num, by omega, by omega, by omega, by omega, hp, hasc, hW.out.drewN nq⟩
                  · go_wp2_with fail
                    have hs5 := HS5.out
                    go_roundg (5 - (s + 1))
                    case measure => omega
                    case rel => exact ⟨i, s + 1, dm, rfl, by go_num, by omega, by omega, by omega, by omega, hp, hasc, hW⟩
              · go_wp2_with fail
                have hs5 := HS5.out
                go_roundg (5 - (s + 1))
                case measure => omega
                case rel => exact ⟨i, s + 1, dj, rfl, by go_num, by omega, by omega, by omega, by omega, hp, hasc, hW⟩
    · go_wp2_with fail
      go_ret
      exact .inr ⟨rfl, dk, hp.out, hW0.out⟩
end Go.Proofs.Qxb6600854a.Sr
