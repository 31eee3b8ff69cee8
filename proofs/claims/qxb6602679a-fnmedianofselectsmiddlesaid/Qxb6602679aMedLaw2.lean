import Derived.Test.Qxb6602679aMedLaw
namespace Go.Proofs.Qxb6602679a
open Go.ChangeShapes Go.WideShapes Go.ChangeAt Go.RowKit Go.Sort

/-- A row's cells, by a function under a name of its own. -/
theorem cells_of {w : World} {B n : Nat} {d : Array Nat} (h : Holds (Value.float .f32) w B 0 d) (hs : d.size = n) : ∀ t : Nat, t < n → w.cell? ⟨B, t, none⟩ = some (.float .f32 d[t]!) := fun t ht => by
  have := (h t (by omega)).1
  rwa [Nat.zero_add] at this

theorem le_of_final {n k : Nat} {d d' : Array Nat} (hs : d.size = n) (hk : k < n) (hp : PermIn 0 n d d') (hf : Med.Final n k d') (h : ∀ t : Nat, t < n → Med.nnB d[t]! = true) :
    (∀ t : Nat, t < k → Med.le32 d'[t]! d'[k]! = true) ∧ (∀ t : Nat, k < t → t < n → Med.ge32 d'[t]! d'[k]! = true) ∧ Ms.C d (fun x => Med.lt32 x d'[k]!) n ≤ k ∧ k < Ms.C d (fun x => Med.le32 x d'[k]!) n := by
  have hp' : PermIn 0 (n - 1 + 1) d d' := by rw [show n - 1 + 1 = n by omega]; exact hp
  have g : ∀ t : Nat, t < n → Med.nn d'[t]! := Med.nn_back (Med.perm_symm hp') (by rw [hp.1, hs]) (by omega) h
  obtain ⟨f1, f2⟩ := hf g
  have l1 : ∀ t : Nat, t < k → Med.le32 d'[t]! d'[k]! = true := fun t ht => by
    rw [Med.le_nn (g t (by omega)) (g k hk)]; exact decide_eq_true (f1 t ht)
  have l2 : ∀ t : Nat, k < t → t < n → Med.ge32 d'[t]! d'[k]! = true := fun t ht h' => by
    rw [Med.ge_nn (g t h') (g k hk)]; exact decide_eq_true (f2 t ht h')
  refine ⟨l1, l2, ?_, ?_⟩
  · rw [← Ms.C_of_permIn hs hp]
    have := C_le (d := d') (p := fun x => Med.lt32 x d'[k]!) (k := k) n (fun t h1 h2 => by
      show Med.lt32 d'[t]! d'[k]! = false
      rw [Med.lt_nn (g t h2) (g k hk)]
      refine decide_eq_false ?_
      by_cases e : t = k
      · rw [e]; omega
      · have := f2 t (by omega) h2; omega)
    omega
  · rw [← Ms.C_of_permIn hs hp]
    have := C_ge (d := d') (p := fun x => Med.le32 x d'[k]!) (k := k) n (fun t h1 h2 => by
      show Med.le32 d'[t]! d'[k]! = true
      by_cases e : t = k
      · rw [e, Med.le_nn (g k hk) (g k hk)]; exact decide_eq_true (Int.le_refl _)
      · exact l1 t (by omega))
    omega

set_option maxHeartbeats 4000000 in
set_option maxRecDepth 100000 in
theorem law_some (b off c n : Nat) (d : Array Nat) (w : World) (hs : d.size = n) (h0 : 0 < n) (hn : n ≤ 65536)
    (hc : ∀ j : Nat, j < n → w.cell? ⟨b, off + j, none⟩ = some (.float .f32 d[j]!)) (hw : ∀ t : Nat, d[t]! < 4294967296) :
    Calls Try.prog 3 #[.slice (some ⟨b, off, none⟩) n c] w fun e w' => e = .returned (.bool true) ∧ Below w.heap.size w w' := by
  have HC : Hid (∀ j : Nat, j < n → w.cell? ⟨b, off + j, none⟩ = some (.float .f32 d[j]!)) := hc
  have HS : Hid (d.size = n) := hs
  have HW : Hid (∀ t : Nat, d[t]! < 4294967296) := hw
  have hb : Hid (b < w.heap.size) := World.block_lt_of_cell? _ _ (hc 0 h0)
  clear hc hs hw
  obtain ⟨m, hm⟩ : ∃ m, n / 2 = m := ⟨_, rfl⟩
  have m1 : m < n := by omega
  have hmi : (n : Int) / 2 = (m : Int) := by omega
  have HM : Hid (n / 2 = m) := hm
  clear hm
  have hne : ((n : Int) == 0) = false := by rw [beq_eq_false_iff_ne]; omega
  go_enter Try.func3, Try.ntmps3
  go_wp2_with fail
  refine (bytes9_ok _ _ _ _ (by omega)).mono ?_
  rintro e w' ⟨rfl, rfl⟩
  go_wp2_with fail
  refine (clone10A b off c n d _ HS.out hn HC.out).mono ?_
  rintro e w1 ⟨B0, rfl, s1, s2, hd0, f1⟩
  have X1 : Hid (w'.heap.size ≤ B0 ∧ B0 < w1.heap.size ∧ Holds (Value.float .f32) w1 B0 0 d ∧ Row.Fr (fun _ => False) w' w1) := ⟨s1, s2, hd0, f1⟩
  clear s1 s2 hd0 f1
  go_wp2_with fail
  refine (clone10A b off c n d _ HS.out hn (fun j hj => (X1.out.2.2.2.cell (p := ⟨b, off + j, none⟩) hb.out (fun f => f)).trans (HC.out j hj))).mono ?_
  rintro e w2 ⟨B1, rfl, s1, s2, hd0, f1⟩
  have X2 : Hid (w1.heap.size ≤ B1 ∧ B1 < w2.heap.size ∧ Holds (Value.float .f32) w2 B1 0 d ∧ Row.Fr (fun _ => False) w1 w2) := ⟨s1, s2, hd0, f1⟩
  clear s1 s2 hd0 f1
  go_wp2_with fail
  refine (med11 B1 0 n n d _ HS.out h0 hn X2.out.2.2.1).mono ?_
  rintro e w3 ⟨d1, rfl, p1, p2, p3, p4⟩
  rw [HM.out] at *
  have X3 : Hid (PermIn 0 n d d1 ∧ Med.Final n m d1 ∧ Holds (Value.float .f32) w3 B1 0 d1 ∧ Row.Fr (· = B1) w2 w3) := ⟨p1, p2, p3, p4⟩
  clear p1 p2 p3 p4
  generalize hr : d1[m]! = r
  have HR : Hid (d1[m]! = r) := hr
  clear hr
  have HS1 : Hid (d1.size = n) := by rw [X3.out.1.1]; exact HS.out
  have n01 : B0 ≠ B1 := by have := X1.out.2.1; have := X2.out.1; omega
  have hd03 : Hid (Holds (Value.float .f32) w3 B0 0 d) := X3.out.2.2.2.holds (X2.out.2.2.2.holds X1.out.2.2.1 (fun f => f)) n01
  go_wp2_with fail
  refine (clone10A B0 0 n n d _ HS.out hn (fun j hj => (hd03.out j (by rw [HS.out]; exact hj)).1)).mono ?_
  rintro e w4 ⟨B2, rfl, s1, s2, hd0, f1⟩
  have X4 : Hid (w3.heap.size ≤ B2 ∧ B2 < w4.heap.size ∧ Holds (Value.float .f32) w4 B2 0 d ∧ Row.Fr (fun _ => False) w3 w4) := ⟨s1, s2, hd0, f1⟩
  clear s1 s2 hd0 f1
  have hd14 : Hid (Holds (Value.float .f32) w4 B1 0 d1) := X4.out.2.2.2.holds X3.out.2.2.1 (fun f => f)
  go_wp2_with fail
  refine (clone10A B1 0 n n d1 _ HS1.out hn (fun j hj => (hd14.out j (by rw [HS1.out]; exact hj)).1)).mono ?_
  rintro e w5 ⟨B3, rfl, s1, s2, hd0, f1⟩
  have X5 : Hid (w4.heap.size ≤ B3 ∧ B3 < w5.heap.size ∧ Holds (Value.float .f32) w5 B3 0 d1 ∧ Row.Fr (fun _ => False) w4 w5) := ⟨s1, s2, hd0, f1⟩
  clear s1 s2 hd0 f1
  have hd25 : Hid (Holds (Value.float .f32) w5 B2 0 d) := X5.out.2.2.2.holds X4.out.2.2.1 (fun f => f)
  have HW1 : Hid (∀ t : Nat, d1[t]! < 4294967296) := fun t => by
    by_cases ht : t < n
    · have hp' : PermIn 0 (n - 1 + 1) d d1 := by rw [show n - 1 + 1 = n by omega]; exact X3.out.1
      exact Med.perm_all hp' HS.out (by omega) (fun x => x < 4294967296) (fun i _ _ => HW.out i) t (Nat.zero_le _) (by omega)
    · rw [getElem!_neg _ t (by rw [HS1.out]; exact ht)]; decide
  go_wp2_with fail
  refine (sort13_all B2 0 n n d _ HS.out h0 hn hd25.out HW.out).mono ?_
  rintro e w6 ⟨rfl, d2, q1, q2, q3, q4, q5, q6⟩
  have X6 : Hid (d2.size = n ∧ (∀ p, Ms.C d2 p n = Ms.C d p n) ∧ (∀ s t : Nat, s ≤ t → t < n → Med.rank d2[s]! ≤ Med.rank d2[t]!) ∧ (∀ t : Nat, d2[t]! < 4294967296) ∧ Holds (Value.float .f32) w6 B2 0 d2 ∧ Row.Fr (· = B2) w5 w6) := ⟨q1, q2, q3, q4, q5, q6⟩
  clear q1 q2 q3 q4 q5 q6
  have n23 : B3 ≠ B2 := by have := X4.out.2.1; have := X5.out.1; omega
  go_wp2_with fail
  refine (sort13_all B3 0 n n d1 _ HS1.out h0 hn (X6.out.2.2.2.2.2.holds X5.out.2.2.1 n23) HW1.out).mono ?_
  rintro e w7 ⟨rfl, d3, q1, q2, q3, q4, q5, q6⟩
  have X7 : Hid (d3.size = n ∧ (∀ p, Ms.C d3 p n = Ms.C d1 p n) ∧ (∀ s t : Nat, s ≤ t → t < n → Med.rank d3[s]! ≤ Med.rank d3[t]!) ∧ (∀ t : Nat, d3[t]! < 4294967296) ∧ Holds (Value.float .f32) w7 B3 0 d3 ∧ Row.Fr (· = B3) w6 w7) := ⟨q1, q2, q3, q4, q5, q6⟩
  clear q1 q2 q3 q4 q5 q6
  -- what the world holds now, and what stayed
  have HBL : Hid (Below w'.heap.size w' w7) := by
    have a := X1.out; have b := X2.out; have c := X3.out; have d := X4.out; have e := X5.out; have f := X6.out; have g := X7.out
    have := a.2.2.2.size; have := b.2.2.2.size; have := c.2.2.2.size; have := d.2.2.2.size; have := e.2.2.2.size; have := f.2.2.2.2.2.size
    have k1 := a.2.2.2.trans b.2.2.2
    have k2 := k1.step c.2.2.2 (fun i hi e => by omega)
    have k3 := (k2.trans d.2.2.2).trans e.2.2.2
    have k4 := k3.step f.2.2.2.2.2 (fun i hi e => by omega)
    have k5 := k4.step g.2.2.2.2.2 (fun i hi e => by omega)
    exact k5.below (Nat.le_refl _) (fun _ _ f => f)
  have C0 : Hid (∀ t : Nat, t < n → w7.cell? ⟨B0, t, none⟩ = some (.float .f32 d[t]!)) := by
    have a := X1.out; have b := X2.out; have c := X3.out; have d := X4.out; have e := X5.out; have f := X6.out; have g := X7.out
    have := a.2.2.2.size; have := b.2.2.2.size; have := c.2.2.2.size; have := d.2.2.2.size; have := e.2.2.2.size; have := f.2.2.2.2.2.size
    exact cells_of (g.2.2.2.2.2.holds (f.2.2.2.2.2.holds (e.2.2.2.holds (d.2.2.2.holds hd03.out (fun f => f)) (fun f => f)) (by omega)) (by omega)) HS.out
  have C1 : Hid (∀ t : Nat, t < n → w7.cell? ⟨B1, t, none⟩ = some (.float .f32 d1[t]!)) := by
    have a := X1.out; have b := X2.out; have c := X3.out; have d := X4.out; have e := X5.out; have f := X6.out; have g := X7.out
    have := a.2.2.2.size; have := b.2.2.2.size; have := c.2.2.2.size; have := d.2.2.2.size; have := e.2.2.2.size; have := f.2.2.2.2.2.size
    exact cells_of (g.2.2.2.2.2.holds (f.2.2.2.2.2.holds (e.2.2.2.holds hd14.out (fun f => f)) (by omega)) (by omega)) HS1.out
  have C2 : Hid (∀ t : Nat, t < n → w7.cell? ⟨B2, t, none⟩ = some (.float .f32 d2[t]!)) := cells_of (X7.out.2.2.2.2.2.holds X6.out.2.2.2.2.1 (Ne.symm n23)) X6.out.1
  have C3 : Hid (∀ t : Nat, t < n → w7.cell? ⟨B3, t, none⟩ = some (.float .f32 d3[t]!)) := cells_of X7.out.2.2.2.2.1 X7.out.1
  have RK : Hid (∀ t : Nat, t < n → Med.rank d2[t]! = Med.rank d3[t]!) := Ms.ranks_eq Med.rank (fun p => by rw [X7.out.2.1 p, X6.out.2.1 p]; exact Ms.C_of_permIn HS.out X3.out.1 p) X6.out.2.2.1 X7.out.2.2.1
  have L2 : Hid (∀ t : Nat, d2[t]! < 4294967296) := X6.out.2.2.2.1
  have L3 : Hid (∀ t : Nat, d3[t]! < 4294967296) := X7.out.2.2.2.1
  have FIN : Hid ((∀ t : Nat, t < n → Med.nnB d[t]! = true) → (∀ t : Nat, t < m → Med.le32 d1[t]! r = true) ∧ (∀ t : Nat, m < t → t < n → Med.ge32 d1[t]! r = true) ∧ Ms.C d (fun x => Med.lt32 x r) n ≤ m ∧ m < Ms.C d (fun x => Med.le32 x r) n) := fun h => by
    have := le_of_final HS.out m1 X3.out.1 X3.out.2.1 h
    rw [HR.out] at this
    exact this
  have hrl : r < 4294967296 := by rw [← HR.out]; exact HW1.out m
  clear X1 X2 X3 X4 X5 X6 X7 hd03 hd14 hd25 HC hb
  go_wp2_with fail
  go_loopw [8] (fun v wr => ∃ t q : Nat, v = .int .i64 t ∧ t ≤ n ∧ wr = w7.drewN q) (fun v _ => n - (intOf v).toNat)
  case atStart => exact ⟨0, 0, rfl, by omega, rfl⟩
  case round =>
    obtain ⟨t, q, rfl, t1, hwq⟩ := hrel
    have HWQ : Hid (wr = w7.drewN q) := hwq
    clear hwq
    by_cases htn : t < n
    · have c2 : wr.cell? ⟨B2, t, none⟩ = some (.float .f32 d2[t]!) := by rw [HWQ.out]; exact C2.out t htn
      have c3 : wr.cell? ⟨B3, t, none⟩ = some (.float .f32 d3[t]!) := by rw [HWQ.out]; exact C3.out t htn
      have S14 := fun W => same14 d2[t]! d3[t]! W (L2.out t) (L3.out t) (RK.out t htn)
      generalize d2[t]! = x2 at c2 S14
      generalize d3[t]! = x3 at c3 S14
      have HS14 : Hid (∀ W, Calls Try.prog 14 #[.float .f32 x2, .float .f32 x3] W fun e w' => e = .returned (.bool true) ∧ w' = W) := S14
      clear S14
      have i1 : (t : Int) < (n : Int) := by omega
      go_wp2_with fail
      go_quiet ((go_at_call 14; exact Calls.quiet_of_same (HS14.out _)))
      go_wp2
      go_roundw
      case rel => exact ⟨t + 1, _, by go_num, by omega, by rw [HWQ.out, World.drewN_drewN]⟩
      case measure => simp [intOf]; omega
    · have D0 : Hid (∀ t : Nat, t < n → wr.cell? ⟨B0, t, none⟩ = some (.float .f32 d[t]!)) := by rw [HWQ.out]; exact C0.out
      have D1 : Hid (∀ t : Nat, t < n → wr.cell? ⟨B1, t, none⟩ = some (.float .f32 d1[t]!)) := by rw [HWQ.out]; exact C1.out
      have DBL : Hid (Below w'.heap.size w' wr) := by rw [HWQ.out]; exact HBL.out.trans ⟨rfl, rfl, rfl, Nat.le_refl _, fun _ _ => rfl⟩
      clear HWQ C0 C1 C2 C3 HBL
      have c1 := D1.out m m1
      rw [HR.out] at c1
      have S14 := fun W => same14 r r W hrl hrl rfl
      have HS14 : Hid (∀ W, Calls Try.prog 14 #[.float .f32 r, .float .f32 r] W fun e w' => e = .returned (.bool true) ∧ w' = W) := S14
      clear S14
      go_wp2_with fail
      refine (HS14.out _).mono ?_
      rintro e w8 ⟨rfl, rfl⟩
      clear c1
      go_wp2_with fail
      go_loop [10] (fun v => ∃ t : Nat, v = .int .i64 t ∧ t ≤ n ∧ Hid (∀ s : Nat, s < t → Med.nnB d[s]! = true)) (fun v => n - (intOf v).toNat)
      case atStart => exact ⟨0, rfl, by omega, fun s hs => by omega⟩
      case round =>
        obtain ⟨t, rfl, t1, hnn⟩ := hrel
        by_cases htn : t < n
        · have c0 := D0.out t htn
          generalize hx : d[t]! = x at c0
          have HX : Hid (d[t]! = x) := hx
          clear hx
          have N := fun W => nan15 x W
          cases hb : Med.nnB x with
          | false =>
            rw [hb] at N
            have HN : Hid (∀ W, Calls Try.prog 15 #[.float .f32 x] W fun e w' => e = .returned (.bool true) ∧ w' = W) := N
            clear N hb
            go_wp2_with fail
            refine (HN.out _).mono ?_
            rintro e w9 ⟨rfl, rfl⟩
            go_wp2
            go_ret
            exact ⟨rfl, DBL.out⟩
          | true =>
            rw [hb] at N
            have HN : Hid (∀ W, Calls Try.prog 15 #[.float .f32 x] W fun e w' => e = .returned (.bool false) ∧ w' = W) := N
            have HB : Hid (Med.nnB x = true) := hb
            clear N hb
            go_wp2_with fail
            refine (HN.out _).mono ?_
            rintro e w9 ⟨rfl, rfl⟩
            go_wp2
            go_round
            case rel =>
              refine ⟨t + 1, by go_num, by omega, fun s hs => ?_⟩
              by_cases e : s = t
              · rw [e, HX.out]; exact HB.out
              · exact hnn.out s (by omega)
            case measure => simp [intOf]; omega
        · have ALL := FIN.out (fun s hs => hnn.out s (by omega))
          have HALL : Hid ((∀ t : Nat, t < m → Med.le32 d1[t]! r = true) ∧ (∀ t : Nat, m < t → t < n → Med.ge32 d1[t]! r = true) ∧ Ms.C d (fun x => Med.lt32 x r) n ≤ m ∧ m < Ms.C d (fun x => Med.le32 x r) n) := ALL
          clear ALL
          go_wp2_with fail
          go_loop [11] (fun v => ∃ t : Nat, v = .int .i64 t ∧ t ≤ n) (fun v => n - (intOf v).toNat)
          case atStart => exact ⟨0, rfl, by omega⟩
          case round =>
            obtain ⟨t, rfl, t2⟩ := hrel
            by_cases htn : t < n
            · have c1 := D1.out t htn
              by_cases k1 : t < m
              · have le := HALL.out.1 t k1
                generalize d1[t]! = x at c1 le
                have le' : (FloatKind.f32.format.order x r == some .lt || FloatKind.f32.format.order x r == some .eq) = true := le
                clear le
                go_wp2
                go_round
                case rel => exact ⟨t + 1, by go_num, by omega⟩
                case measure => simp [intOf]; omega
              by_cases k2 : m < t
              · have ge := HALL.out.2.1 t k2 htn
                generalize d1[t]! = x at c1 ge
                have ge' : (FloatKind.f32.format.order x r == some .gt || FloatKind.f32.format.order x r == some .eq) = true := ge
                clear ge
                go_wp2
                go_round
                case rel => exact ⟨t + 1, by go_num, by omega⟩
                case measure => simp [intOf]; omega
              · go_wp2
                go_round
                case rel => exact ⟨t + 1, by go_num, by omega⟩
                case measure => simp [intOf]; omega
            · go_wp2_with fail
              go_loop [12, 13, 14] (fun v1 v2 v => ∃ t s1 s2 : Nat, v = .int .i64 t ∧ v1 = .int .i64 s1 ∧ v2 = .int .i64 s2 ∧ t ≤ n ∧ s1 ≤ t ∧ s2 ≤ t ∧ Hid (s1 = Ms.C d (fun x => Med.lt32 x r) t ∧ s2 = Ms.C d (fun x => Med.le32 x r) t)) (fun _ _ v => n - (intOf v).toNat)
              case atStart => exact ⟨0, 0, 0, rfl, rfl, rfl, by omega, by omega, by omega, by simp [Hid, Ms.C]⟩
              case round =>
                obtain ⟨t, x1, x2, rfl, rfl, rfl, t3, y1, y2, hcc⟩ := hrel
                by_cases htn : t < n
                · have c0 := D0.out t htn
                  have K1 : Hid (Ms.C d (fun x => Med.lt32 x r) (t + 1) = x1 + (Med.lt32 d[t]! r).toNat ∧ Ms.C d (fun x => Med.le32 x r) (t + 1) = x2 + (Med.le32 d[t]! r).toNat) := by
                    obtain ⟨e1, e2⟩ := hcc.out
                    rw [e1, e2]
                    exact ⟨rfl, rfl⟩
                  generalize d[t]! = x at c0 K1
                  cases hl : Med.lt32 x r with
                  | true =>
                    have hle : Med.le32 x r = true := by
                      have h : (FloatKind.f32.format.order x r == some .lt) = true := hl
                      unfold Med.le32; rw [h]; rfl
                    have tl : (FloatKind.f32.format.order x r == some .lt) = true := hl
                    rw [hl, hle] at K1
                    clear hl hle
                    go_wp2
                    go_round
                    case rel => exact ⟨t + 1, x1 + 1, x2 + 1, by go_num, by go_num, by go_num, by omega, by omega, by omega, ⟨K1.out.1.symm, K1.out.2.symm⟩⟩
                    case measure => simp [intOf]; omega
                  | false =>
                    have tl : (FloatKind.f32.format.order x r == some .lt) = false := hl
                    cases hle : Med.le32 x r with
                    | true =>
                      have te : (FloatKind.f32.format.order x r == some .eq) = true := by
                        have h : (FloatKind.f32.format.order x r == some .lt || FloatKind.f32.format.order x r == some .eq) = true := hle
                        rw [tl] at h; exact h
                      rw [hl, hle] at K1
                      clear hl hle
                      go_wp2
                      go_round
                      case rel => exact ⟨t + 1, x1, x2 + 1, by go_num, rfl, by go_num, by omega, by omega, by omega, ⟨K1.out.1.symm, K1.out.2.symm⟩⟩
                      case measure => simp [intOf]; omega
                    | false =>
                      have te : (FloatKind.f32.format.order x r == some .eq) = false := by
                        have h : (FloatKind.f32.format.order x r == some .lt || FloatKind.f32.format.order x r == some .eq) = false := hle
                        rw [tl] at h; exact h
                      rw [hl, hle] at K1
                      clear hl hle
                      go_wp2
                      go_round
                      case rel => exact ⟨t + 1, x1, x2, by go_num, rfl, rfl, by omega, by omega, by omega, ⟨K1.out.1.symm, K1.out.2.symm⟩⟩
                      case measure => simp [intOf]; omega
                · have E : x1 ≤ m ∧ m < x2 := by
                    obtain ⟨e1, e2⟩ := hcc.out
                    have := HALL.out.2.2
                    rw [show t = n by omega] at e1 e2
                    omega
                  obtain ⟨E1, E2⟩ := E
                  go_wp2
                  go_ret
                  exact ⟨rfl, DBL.out⟩
end Go.Proofs.Qxb6602679a
