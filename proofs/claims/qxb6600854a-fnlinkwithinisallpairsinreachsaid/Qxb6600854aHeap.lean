import Derived.Test.Qxb6600854aIns
namespace Go.Proofs.Qxb6600854a.Sr
open Go.ChangeShapes Go.WideShapes Go.ChangeAt Go.RowKit Go.Sort

set_option maxHeartbeats 4000000 in
set_option maxRecDepth 100000 in
theorem sift42 (blk off n c lo hi F : Nat) (d : Array Int) (w : World) (hn : n ≤ 131072) (hF : F + hi ≤ n) (hlo : lo ≤ n) (hH : Holds (Value.int .u64) w blk off d) (hs : d.size = n) (hq : Hq d F (lo + 1) hi) :
    Calls Try.prog 42 #[.slice (some ⟨blk, off, none⟩) n c, .int .i64 lo, .int .i64 hi, .int .i64 F] w fun e w' => e = .returned (.tuple #[]) ∧ ∃ d' : Array Int, PermIn F (F + hi) d d' ∧ Hq d' F lo hi ∧ SW w w' blk off n d' := by
  have W0 : Hid (SW w w blk off n d) := SW.start hH hs
  have Q0 : Hid (Hr d F lo hi lo) := Hr_start hq
  clear hH hq
  go_enter Try.func42, Try.ntmps42
  go_wp2_with fail
  go_loopg [8] n (fun g vr wr => ∃ (r : Nat) (dk : Array Int), vr = .int .i64 r ∧ lo ≤ r ∧ r ≤ n ∧ n - r ≤ g ∧ Hid (PermIn F (F + hi) d dk) ∧ Hid (Hr dk F lo hi r) ∧ Hid (SW w wr blk off n dk))
  case atStart => exact ⟨lo, d, rfl, Nat.le_refl _, hlo, by omega, permIn_refl _ _ _, Q0, W0⟩
  case round =>
    clear W0 Q0
    obtain ⟨r, dk, rfl, lr, rn, hg, hp, hhr, hW⟩ := hrel
    obtain ⟨c1, hc1⟩ : ∃ c1, 2 * r + 1 = c1 := ⟨_, rfl⟩
    have hci : 2 * (r : Int) + 1 = (c1 : Int) := by omega
    have HC : Hid (2 * r + 1 = c1) := hc1
    by_cases hch : c1 < hi
    · obtain ⟨b, hb⟩ : ∃ b : Bool, b = decide (c1 + 1 < hi ∧ dk[F + c1]! < dk[F + (c1 + 1)]!) := ⟨_, rfl⟩
      have HB : Hid (b = decide (c1 + 1 < hi ∧ dk[F + c1]! < dk[F + (c1 + 1)]!)) := hb
      clear hb
      obtain ⟨P1, hP1⟩ : ∃ P1, F + c1 = P1 := ⟨_, rfl⟩
      have iP1 : (F : Int) + (c1 : Int) = (P1 : Int) := by omega
      have b1 : P1 < n := by omega
      have HP1 : Hid (F + c1 = P1) := hP1
      have cl := hW.out.cell b1
      generalize hx : dk[P1]! = x at cl
      have HX : Hid (dk[P1]! = x) := hx
      clear hx
      go_upto_region 3 with fail
      go_cut [36] (fun v w' => v = .bool b ∧ ∃ q, w' = wr.drewN q)
      case first =>
        by_cases hr : c1 + 1 < hi
        · obtain ⟨P2, hP2⟩ : ∃ P2, P1 + 1 = P2 := ⟨_, rfl⟩
          have iP2 : (P1 : Int) + 1 = (P2 : Int) := by omega
          have b2 : P2 < n := by omega
          have cr := hW.out.cell b2
          generalize hy : dk[P2]! = y at cr
          have tst : decide (x < y) = b := by
            rw [HB.out, ← hy, ← HX.out, ← HP1.out, show F + (c1 + 1) = P2 by omega]; simp [hr, HP1.out]
          clear hy
          have i1 : (c1 : Int) + 1 < (hi : Int) := by omega
          have g1 : decide ((c1 : Int) + 1 < (hi : Int)) = true := decide_eq_true i1
          clear hc1 hP1 hP2
          go_quiet ((go_at_call 27; exact Calls.quiet_of_same (Cell.less27 _ _ _)))
          go_wp2_with fail
          go_meet
          case rel => exact ⟨rfl, _, rfl⟩
        · have hb0 : b = false := by rw [HB.out]; simp [hr]
          have g1 : decide ((c1 : Int) + 1 < (hi : Int)) = false := decide_eq_false (by omega)
          subst hb0
          clear hc1 hP1
          go_quiet (fail)
          go_wp2_with fail
          go_meet
          case rel => exact ⟨rfl, _, rfl⟩
      case rest =>
        obtain ⟨rfl, q, hq⟩ := hcut
        have Wc : Hid (SW w wc blk off n dk) := by rw [hq]; exact hW.out.drewN q
        clear hq cl hW
        obtain ⟨e, he⟩ : ∃ e, e = (if b then c1 + 1 else c1) := ⟨_, rfl⟩
        have HE : Hid (e = if b then c1 + 1 else c1) := he
        clear he
        go_upto_if 36 with fail
        go_cut [9] (fun v w' => v = .int .i64 e ∧ w' = wc)
        case first =>
          cases b
          · go_wp2_with fail
            go_meet
            case rel => exact ⟨by rw [HE.out]; rfl, rfl⟩
          · go_wp2_with fail
            go_meet
            case rel => exact ⟨by rw [HE.out]; go_num, rfl⟩
        case rest =>
          obtain ⟨rfl, rfl⟩ := hcut
          have en : e < hi := by
            have h1 := HE.out; have h2 := HB.out
            cases b
            · simp at h1; omega
            · simp at h1; have h3 := of_decide_eq_true h2.symm; omega
          have ei : r < e ∧ (e - 1) / 2 = r := by
            have h1 := HE.out
            cases b <;> simp at h1 <;> omega
          obtain ⟨ei1, ei2⟩ := ei
          have hsib : Hid (∀ c' : Nat, r < c' → c' < hi → (c' - 1) / 2 = r → dk[F + c']! ≤ dk[F + e]!) := fun c' h2 h1 h3 => by
            have h4 := HE.out; have h5 := HB.out
            have h6 : c' = c1 ∨ c' = c1 + 1 := by omega
            cases b
            · simp at h4
              have h7 := of_decide_eq_false h5.symm
              rw [h4]
              rcases h6 with rfl | rfl
              · exact Int.le_refl _
              · have : ¬ dk[F + c1]! < dk[F + (c1 + 1)]! := fun q => h7 ⟨h1, q⟩
                omega
            · simp at h4
              have h7 := of_decide_eq_true h5.symm
              rw [h4]
              rcases h6 with rfl | rfl
              · omega
              · exact Int.le_refl _
          have HEI : Hid ((e - 1) / 2 = r) := ei2
          clear ei2 HB HE hci iP1 HX HP1 hP1 b1
          obtain ⟨R, hR⟩ : ∃ R, F + r = R := ⟨_, rfl⟩
          have iR : (F : Int) + (r : Int) = (R : Int) := by omega
          obtain ⟨E, hE⟩ : ∃ E, F + e = E := ⟨_, rfl⟩
          have iE : (F : Int) + (e : Int) = (E : Int) := by omega
          have bR : R < n := by omega
          have bE : E < n := by omega
          have c1 := Wc.out.cell bR
          have c2 := Wc.out.cell bE
          generalize hx : dk[R]! = x at c1
          generalize hy : dk[E]! = y at c2
          have HX : Hid (dk[R]! = x) := hx
          have HY : Hid (dk[E]! = y) := hy
          clear hx hy
          by_cases hxy : x < y
          · have t : decide (x < y) = true := by simp [hxy]
            have ST : Hid (Hr (swp dk R E) F lo hi e) := by
              have := Hr_step hhr.out (by rw [Wc.out.size]; omega) lr en HEI.out ei1 (by rw [hR, hE, HX.out, HY.out]; exact hxy) hsib.out
              rwa [hR, hE] at this
            have PJ : Hid (PermIn F (F + hi) d (swp dk R E)) := perm_swp hp.out R E (by omega) (by omega) (by omega) (by omega) (by omega)
            clear hxy hsib hR hE
            go_wp2_with fail
            go_quiet ((go_at_call 27; exact Calls.quiet_of_same (Cell.less27 _ _ _)))
            go_wp2_with fail
            generalize hq : wc.drewN nq = wq
            have W3 : Hid (SW w wq blk off n dk) := by rw [← hq]; exact Wc.out.drewN nq
            clear c1 c2 hq t
            have c1 := W3.out.cell bR
            have c2 := W3.out.cell bE
            rw [HX.out] at c1
            rw [HY.out] at c2
            have f1 := W3.out.open_ bR
            have f2 := W3.out.open_ bE
            have W2 : Hid (SW w ((wq.setCell ⟨blk, off + R, none⟩ (.int .u64 y)).setCell ⟨blk, off + E, none⟩ (.int .u64 x)) blk off n (swp dk R E)) := W3.out.swap bR bE HY.out HX.out
            go_region
            all_goals
              go_wp2
              go_roundg (n - e)
              case measure => omega
              case rel => exact ⟨e, swp dk R E, rfl, by omega, by omega, by omega, PJ, ST, W2.out.drew⟩
          · have t : decide (x < y) = false := by simpa using hxy
            have DN : Hid (Hq dk F lo hi) := Hr_stop hhr.out (fun c' h1 h2 h3 => by
              have := hsib.out c' h1 h2 h3
              rw [hE, HY.out] at this
              rw [hR, HX.out]; omega)
            clear hxy hsib hR hE
            go_wp2_with fail
            go_quiet ((go_at_call 27; exact Calls.quiet_of_same (Cell.less27 _ _ _)))
            go_wp2_with fail
            exact bodyPost_ret (results_none rfl _ _ _) rfl ⟨rfl, dk, hp.out, DN.out, Wc.out.drewN nq⟩
    · have DN : Hid (Hq dk F lo hi) := Hr_stop hhr.out (fun c' h1 h2 h3 => by omega)
      go_wp2_with fail
      go_end0
      exact ⟨rfl, dk, hp.out, DN.out, hW.out⟩

/-- From place i on all stands as it shall. -/
def Suf (d : Array Int) (F i hi : Nat) : Prop := ∀ s t : Nat, s < t → i ≤ t → t < hi → d[F + s]! ≤ d[F + t]!
theorem Suf_step {d : Array Int} {F i hi : Nat} (hq : Hq d F 0 (i + 1)) (h : Suf d F (i + 1) hi) (hi' : i < hi) (hs : F + hi ≤ d.size) : Hq (swp d F (F + i)) F 1 i ∧ Suf (swp d F (F + i)) F i hi := by
  have e1 : (swp d F (F + i))[F]! = d[F + i]! := swp_i d _ _ (by omega) (by omega)
  have e2 : (swp d F (F + i))[F + i]! = d[F]! := swp_right d _ _ (by omega)
  have e3 : ∀ t : Nat, t ≠ 0 → t ≠ i → (swp d F (F + i))[F + t]! = d[F + t]! := fun t h1 h2 => swp_other d _ _ _ (by omega) (by omega)
  refine ⟨fun j h1 h2 h3 => ?_, fun s t h1 h2 h3 => ?_⟩
  · rw [e3 j (by omega) (by omega), e3 ((j - 1) / 2) (by omega) (by omega)]
    exact hq j h1 (by omega) (by omega)
  · by_cases ti : t = i
    · rw [ti, e2]
      by_cases s0 : s = 0
      · rw [s0, Nat.add_zero, e1]; exact Hq_max hq i (by omega)
      · rw [e3 s s0 (by omega)]; exact Hq_max hq s (by omega)
    · rw [e3 t (by omega) ti]
      by_cases s0 : s = 0
      · rw [s0, Nat.add_zero, e1]; exact h i t (by omega) (by omega) h3
      · by_cases si : s = i
        · rw [si, e2]; exact h 0 t (by omega) (by omega) h3
        · rw [e3 s s0 si]; exact h s t h1 (by omega) h3
theorem Suf_perm {d d' : Array Int} {F i hi : Nat} (h : Suf d F i hi) (hp : PermIn F (F + i) d d') (hs : F + i ≤ d.size) : Suf d' F i hi := fun s t h1 h2 h3 => by
  rw [hp.2.1 (F + t) (by omega)]
  by_cases e : s < i
  · exact permIn_all d d' F (F + i) (fun x => x ≤ d[F + t]!) hs hp (fun k k1 k2 => by
      have := h (k - F) t (by omega) h2 h3
      rwa [show F + (k - F) = k by omega] at this) (F + s) (by omega) (by omega)
  · rw [hp.2.1 (F + s) (by omega)]; exact h s t h1 h2 h3
theorem Suf_asc {d : Array Int} {F hi b : Nat} (h : Suf d F 0 hi) (hb : F + hi = b) : Asc d F b := fun s t h1 h2 h3 => by
  by_cases e : s = t
  · rw [e]; exact Int.le_refl _
  · have := h (s - F) (t - F) (by omega) (by omega) (by omega)
    rwa [show F + (s - F) = s by omega, show F + (t - F) = t by omega] at this

set_option maxHeartbeats 4000000 in
set_option maxRecDepth 100000 in
theorem heap33 (blk off n c a b : Nat) (d : Array Int) (w : World) (hn : n ≤ 131072) (hab : a < b) (hb : b ≤ n) (hH : Holds (Value.int .u64) w blk off d) (hs : d.size = n) :
    Calls Try.prog 33 #[.slice (some ⟨blk, off, none⟩) n c, .int .i64 a, .int .i64 b] w fun e w' => e = .returned (.tuple #[]) ∧ ∃ d' : Array Int, PermIn a b d d' ∧ Asc d' a b ∧ SW w w' blk off n d' := by
  have W0 : Hid (SW w w blk off n d) := SW.start hH hs
  obtain ⟨hi, hhi⟩ : ∃ hi, a + hi = b := ⟨b - a, by omega⟩
  have hii : (b : Int) - (a : Int) = (hi : Int) := by omega
  obtain ⟨h1, hh1⟩ : ∃ h1, h1 + 1 = hi := ⟨hi - 1, by omega⟩
  have hi1 : (hi : Int) - 1 = (h1 : Int) := by omega
  obtain ⟨m, hm⟩ : ∃ m, h1 / 2 = m := ⟨_, rfl⟩
  have him : (h1 : Int) / 2 = (m : Int) := by omega
  have Q0 : Hid (Hq d a (m + 1) hi) := fun j h1 h2 h3 => by omega
  clear hH
  go_enter Try.func33, Try.ntmps33
  go_wp2_with fail
  go_loopg [9] (m + 1) (fun g vi wr => ∃ (i : Nat) (dk : Array Int), vi = .int .i64 ((i : Int) - 1) ∧ i ≤ m + 1 ∧ i ≤ g ∧ Hid (PermIn a b d dk) ∧ Hid (Hq dk a i hi) ∧ Hid (SW w wr blk off n dk))
  case atStart => exact ⟨m + 1, d, by go_num, Nat.le_refl _, Nat.le_refl _, permIn_refl _ _ _, Q0, W0⟩
  case round =>
    clear W0 Q0
    obtain ⟨i1, dk, rfl, im, hg, hp, hq, hW⟩ := hrel
    by_cases h0 : 0 < i1
    · obtain ⟨i, rfl⟩ : ∃ i, i1 = i + 1 := ⟨i1 - 1, by omega⟩
      have ei : (((i + 1 : Nat) : Int) - 1) = (i : Int) := by omega
      rw [ei]
      clear ei
      go_wp2_with fail
      go_at_call 42
      refine (sift42 blk off n c i hi a dk _ hn (by omega) (by omega) hW.out.row hW.out.size hq.out).mono ?_
      rintro e w' ⟨rfl, d2, hp2, hq2, hW2⟩
      have PJ : Hid (PermIn a b d d2) := permIn_trans _ _ _ _ _ hp.out (by rw [← hhi]; exact hp2)
      have HQ2 : Hid (Hq d2 a i hi) := hq2
      have HW2 : Hid (SW w w' blk off n d2) := hW.out.trans hW2
      clear hp2 hq2 hW2 hp hq hW
      go_wp2_with fail
      go_roundg i
      case measure => omega
      case rel => exact ⟨i, d2, by go_num, by omega, by omega, PJ, HQ2, HW2⟩
    · obtain rfl : i1 = 0 := by omega
      have ei : (((0 : Nat) : Int) - 1) = -1 := by omega
      rw [ei]
      clear ei
      go_wp2_with fail
      go_loopg [10] hi (fun g vi wr => ∃ (i : Nat) (dk : Array Int), vi = .int .i64 ((i : Int) - 1) ∧ i ≤ hi ∧ i ≤ g ∧ Hid (PermIn a b d dk) ∧ Hid (Hq dk a 0 i) ∧ Hid (Suf dk a i hi) ∧ Hid (SW w wr blk off n dk))
      case atStart => exact ⟨hi, dk, by go_num, Nat.le_refl _, Nat.le_refl _, hp, hq, fun s t h1 h2 h3 => by omega, hW⟩
      case round =>
        clear hW hp hq
        obtain ⟨i1, dj, rfl, im, hg, hp, hq, hsf, hW⟩ := hrel
        by_cases h0 : 0 < i1
        · obtain ⟨i, rfl⟩ : ∃ i, i1 = i + 1 := ⟨i1 - 1, by omega⟩
          have ei : (((i + 1 : Nat) : Int) - 1) = (i : Int) := by omega
          rw [ei]
          clear ei
          obtain ⟨P, hP⟩ : ∃ P, a + i = P := ⟨_, rfl⟩
          have iP : (a : Int) + (i : Int) = (P : Int) := by omega
          have bP : P < n := by omega
          have bA : a < n := by omega
          have ST : Hid (Hq (swp dj a P) a 1 i ∧ Suf (swp dj a P) a i hi) := by
            have := Suf_step hq.out hsf.out (by omega) (by rw [hW.out.size]; omega)
            rwa [hP] at this
          have PJ : Hid (PermIn a b d (swp dj a P)) := perm_swp hp.out a P (by omega) (by omega) (by omega) (by omega) (by omega)
          have c1 := hW.out.cell bA
          have c2 := hW.out.cell bP
          have f1 := hW.out.open_ bA
          have f2 := hW.out.open_ bP
          generalize hx : dj[a]! = x at c1
          generalize hy : dj[P]! = y at c2
          obtain ⟨v', hy'⟩ := cell?_setCell_some (w := wr) (p := ⟨blk, off + a, none⟩) (x := .int .u64 y) (q := ⟨blk, off + P, none⟩) c2
          have W2 : Hid (SW w ((wr.setCell ⟨blk, off + a, none⟩ (.int .u64 y)).setCell ⟨blk, off + P, none⟩ (.int .u64 x)) blk off n (swp dj a P)) := hW.out.swap bA bP hy hx
          clear hx hy hW hP
          go_wp2_with fail
          go_region
          all_goals
            have W4 : Hid _ := W2.out.drew
            clear W2 c1 c2 f1 f2 hy'
            generalize World.drew _ = w5 at W4
            go_wp2_with fail
            go_at_call 42
            refine (sift42 blk off n c 0 i a (swp dj a P) w5 hn (by omega) (by omega) W4.out.row W4.out.size ST.out.1).mono ?_
            rintro e w' ⟨rfl, d2, hp2, hq2, hW2⟩
            have PJ2 : Hid (PermIn a b d d2) := permIn_trans _ _ _ _ _ PJ.out (permIn_mono _ _ _ _ _ _ (Nat.le_refl _) (by omega) (by rw [W4.out.size]; exact hb) hp2)
            have HQ2 : Hid (Hq d2 a 0 i) := hq2
            have HW2 : Hid (SW w w' blk off n d2) := W4.out.trans hW2
            have SF2 : Hid (Suf d2 a i hi) := Suf_perm ST.out.2 hp2 (by rw [W4.out.size]; omega)
            clear hp2 hq2 hW2 hp hq W4 ST
            go_wp2_with fail
            go_roundg i
            case measure => omega
            case rel => exact ⟨i, d2, by go_num, by omega, by omega, PJ2, HQ2, SF2, HW2⟩
        · obtain rfl : i1 = 0 := by omega
          have ei : (((0 : Nat) : Int) - 1) = -1 := by omega
          rw [ei]
          clear ei
          go_wp2_with fail
          go_end0
          exact ⟨rfl, dj, hp.out, Suf_asc hsf.out hhi, hW.out⟩
end Go.Proofs.Qxb6600854a.Sr
