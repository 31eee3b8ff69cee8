import Derived.Test.Qxb6602679aClone
import Derived.Test.Qxb6602679aMed
import Derived.RegionTactic
import Derived.Deep.QuietTactic
import Derived.BigQuiet
import Derived.RowKit
namespace Go.Proofs.Qxb6602679a
open Go.ChangeShapes Go.WideShapes Go.ChangeAt Go.RowKit Go.Sort
attribute [local go_sem] Row.run_store_float

theorem med29_none (p : Option Addr) (c : Nat) (w : World) : Calls Try.prog 29 #[.slice p 0 c] w fun e w' => e = .returned (.float .f32 0) ∧ w' = w := by
  go_enter Try.func29, Try.ntmps29
  go_wp2
  go_ret
  exact ⟨rfl, rfl⟩

set_option maxHeartbeats 4000000 in
set_option maxRecDepth 100000 in
theorem med29 (blk off cap n : Nat) (d : Array Nat) (w : World) (hs : d.size = n) (h0 : 0 < n) (hn : n ≤ 65536) (hH : Holds (Value.float .f32) w blk off d) :
    Calls Try.prog 29 #[.slice (some ⟨blk, off, none⟩) n cap] w fun e w' => ∃ d' : Array Nat, e = .returned (.float .f32 d'[n / 2]!) ∧ PermIn 0 n d d' ∧ Med.Final n (n / 2) d' ∧ Holds (Value.float .f32) w' blk off d' ∧ Row.Fr (· = blk) w w' := by
  have AH : Hid (Holds (Value.float .f32) w blk off d) := hH
  clear hH
  obtain ⟨m, hm⟩ : ∃ m, n / 2 = m := ⟨_, rfl⟩
  have m1 : m < n := by omega
  have HM : Hid (n / 2 = m) := hm
  have hmi : (n : Int) / 2 = (m : Int) := by omega
  rw [hm]
  clear hm
  have hne : ((n : Int) == 0) = false := by rw [beq_eq_false_iff_ne]; omega
  go_enter Try.func29, Try.ntmps29
  go_wp2
  go_loopw [3, 4] (fun vl vh wr => ∃ (lo hi : Nat) (dk : Array Nat), vl = .int .i64 lo ∧ vh = .int .i64 hi ∧ lo ≤ m ∧ m ≤ hi ∧ hi < n ∧ Hid (dk.size = n) ∧ Hid (PermIn 0 n d dk) ∧ Hid (Med.Inv n lo hi dk) ∧ Hid (Holds (Value.float .f32) wr blk off dk) ∧ Hid (Row.Fr (· = blk) w wr))
    (fun vl vh _ => (intOf vh).toNat - (intOf vl).toNat)
  case atStart => exact ⟨0, n - 1, d, rfl, by go_num, by omega, by omega, by omega, hs, permIn_refl _ _ _, Med.Inv_start n d, AH.out, Row.Fr.refl _ _⟩
  case round =>
    obtain ⟨lo, hi, dk, rfl, rfl, l1, l2, l3, hsk, hpk, hinv, hHk, hfr⟩ := hrel
    by_cases hlt : lo < hi
    · obtain ⟨G, hG⟩ : ∃ G : Nat → Nat, ∀ j, G j = dk[j]! := ⟨fun j => dk[j]!, fun _ => rfl⟩
      have HG : Hid (∀ j, G j = dk[j]!) := hG
      have cp : wr.cell? ⟨blk, off + (lo + hi) / 2, none⟩ = some (.float .f32 (G ((lo + hi) / 2))) := by rw [hG]; exact (hHk.out _ (by rw [hsk.out]; omega)).1
      have hbk : blk < wr.heap.size := World.block_lt_of_cell? _ _ cp
      clear hG
      generalize hp : G ((lo + hi) / 2) = p at cp
      have HP : Hid (dk[(lo + hi) / 2]! = p) := by rw [← HG.out]; exact hp
      clear hp
      have HIN : Hid (Med.In lo hi lo (hi + 1) p dk) := by
        have := Med.In_start lo hi dk hlt
        rw [HP.out] at this
        exact this
      have HPN : Hid ((∀ i, i < n → Med.nn dk[i]!) → Med.nn p) := fun g => by rw [← HP.out]; exact g _ (by omega)
      go_wp2_with fail
      clear cp HP HG
      clear G
      go_loopw [7, 8] (fun vi vj wr => ∃ (i j1 : Nat) (dj : Array Nat), vi = .int .i64 i ∧ vj = .int .i64 ((j1 : Int) - 1) ∧ lo ≤ i ∧ i ≤ hi + 1 ∧ lo ≤ j1 ∧ j1 ≤ hi + 1 ∧ Hid (dj.size = n) ∧ Hid (PermIn lo (hi + 1) dk dj) ∧ Hid (Med.In lo hi i j1 p dj) ∧ Hid (Holds (Value.float .f32) wr blk off dj) ∧ Hid (Row.Fr (· = blk) w wr))
        (fun vi vj _ => (intOf vj + 1).toNat + (hi + 1 - (intOf vi).toNat))
      case atStart => exact ⟨lo, hi + 1, dk, rfl, by go_num, by omega, by omega, by omega, by omega, hsk, permIn_refl _ _ _, HIN, hHk, hfr⟩
      case round =>
        clear hHk hfr HIN
        obtain ⟨i, j1, dj, rfl, rfl, i1, i2, j2, j3, hsj, hpj, hin, hHj, hfj⟩ := hrel
        by_cases hij : i < j1
        · obtain ⟨j, rfl⟩ : ∃ j, j1 = j + 1 := ⟨j1 - 1, by omega⟩
          have ej : (((j + 1 : Nat) : Int) - 1) = (j : Int) := by omega
          rw [ej]
          clear ej
          obtain ⟨G, hG⟩ : ∃ G : Nat → Nat, ∀ t, G t = dj[t]! := ⟨fun t => dj[t]!, fun _ => rfl⟩
          have HG : Hid (∀ t, G t = dj[t]!) := hG
          clear hG
          have HC : Hid (∀ t, t < n → wr.cell? ⟨blk, off + t, none⟩ = some (.float .f32 (G t)) ∧ wr.frozen? ⟨blk, off + t, none⟩ = false) := fun t ht => by rw [HG.out]; exact hHj.out t (by rw [hsj.out]; exact ht)
          obtain ⟨⟨s, s1, s2, s3⟩, ⟨s', t1, t2, t3⟩⟩ := hin.out.2.2.1 hij
          have S3 : Hid (Med.lt32 (G s) p = false) := by rw [HG.out]; exact s3
          have T3 : Hid (Med.gt32 (G s') p = false) := by rw [HG.out]; exact t3
          clear s3 t3
          go_wp2_with fail
          go_loop [7] (fun vi => ∃ i' : Nat, vi = .int .i64 i' ∧ i ≤ i' ∧ i' ≤ s ∧ Hid (∀ a, i ≤ a → a < i' → Med.lt32 (G a) p = true)) (fun vi => s - (intOf vi).toNat)
          case atStart => exact ⟨i, rfl, Nat.le_refl _, s1, fun a h1 h2 => by omega⟩
          case round =>
            obtain ⟨i', rfl, u1, u2, hup⟩ := hrel
            have cp := (HC.out i' (by omega)).1
            by_cases hlt3 : Med.lt32 (G i') p = true
            · have hne3 : i' ≠ s := by rintro rfl; rw [S3.out] at hlt3; cases hlt3
              have tst : (FloatKind.f32.format.order (G i') p == some .lt) = true := hlt3
              have H3 : Hid (Med.lt32 (G i') p = true) := hlt3
              clear hlt3
              go_wp2
              go_round
              case rel =>
                refine ⟨i' + 1, by go_num, by omega, by omega, fun a h1 h2 => ?_⟩
                by_cases e : a = i'
                · rw [e]; exact H3.out
                · exact hup.out a h1 (by omega)
              case measure => simp [intOf]; omega
            · have tst : (FloatKind.f32.format.order (G i') p == some .lt) = false := by simpa [Med.lt32] using hlt3
              have H3 : Hid (Med.lt32 (G i') p = false) := tst
              clear hlt3
              go_wp2_with fail
              go_loop [8] (fun vj => ∃ j' : Nat, vj = .int .i64 j' ∧ j' ≤ j ∧ s' ≤ j' ∧ Hid (∀ b, j' < b → b < j + 1 → Med.gt32 (G b) p = true)) (fun vj => (intOf vj).toNat - s')
              case atStart => exact ⟨j, rfl, Nat.le_refl _, by omega, fun b h1 h2 => by omega⟩
              case round =>
                clear tst cp
                obtain ⟨j', rfl, v1, v2, hdn⟩ := hrel
                have cp := (HC.out j' (by omega)).1
                by_cases hgt : Med.gt32 (G j') p = true
                · have hne4 : j' ≠ s' := by rintro rfl; rw [T3.out] at hgt; cases hgt
                  have tst : (FloatKind.f32.format.order (G j') p == some .gt) = true := hgt
                  have H4 : Hid (Med.gt32 (G j') p = true) := hgt
                  clear hgt
                  go_wp2
                  go_round
                  case rel =>
                    refine ⟨j' - 1, by go_num, by omega, by omega, fun b h1 h2 => ?_⟩
                    by_cases e : b = j'
                    · rw [e]; exact H4.out
                    · exact hdn.out b (by omega) h2
                  case measure => simp [intOf]; omega
                · have tst : (FloatKind.f32.format.order (G j') p == some .gt) = false := by simpa [Med.gt32] using hgt
                  have H4 : Hid (Med.gt32 (G j') p = false) := tst
                  clear hgt
                  have A2 : Hid (∀ a, i ≤ a → a < i' → Med.lt32 dj[a]! p = true) := fun a h1 h2 => by rw [← HG.out]; exact hup.out a h1 h2
                  have B2 : Hid (∀ b, j' < b → b < j + 1 → Med.gt32 dj[b]! p = true) := fun a h1 h2 => by rw [← HG.out]; exact hdn.out a h1 h2
                  by_cases hsw : i' ≤ j'
                  · have IN : Hid (Med.In lo hi (i' + 1) j' p (swp dj i' j')) := Med.In_swap hin.out (by rw [hsj.out]; omega) i1 (by omega) u1 A2.out (by rw [← HG.out]; exact H3.out) (by omega) B2.out (by rw [← HG.out]; exact H4.out) hsw
                    obtain ⟨ci, fi⟩ := HC.out i' (by omega)
                    obtain ⟨cj, fj⟩ := HC.out j' (by omega)
                    obtain ⟨v', hy'⟩ := cell?_setCell_some (w := wr) (p := ⟨blk, off + i', none⟩) (x := .float .f32 (G j')) (q := ⟨blk, off + j', none⟩) cj
                    have HH : Hid (Holds (Value.float .f32) ((wr.setCell ⟨blk, off + i', none⟩ (.float .f32 (G j'))).setCell ⟨blk, off + j', none⟩ (.float .f32 (G i'))) blk off (swp dj i' j')) := by
                      rw [HG.out, HG.out]
                      exact Row.holds_set (Row.holds_set hHj.out (by rw [hsj.out]; omega) _) (by rw [Array.size_setIfInBounds, hsj.out]; omega) _
                    have HF : Hid (Row.Fr (· = blk) w ((wr.setCell ⟨blk, off + i', none⟩ (.float .f32 (G j'))).setCell ⟨blk, off + j', none⟩ (.float .f32 (G i')))) :=
                      (hfj.out.setCell (.inl rfl) _).setCell (.inl rfl) _
                    have HPJ : Hid (PermIn lo (hi + 1) dk (swp dj i' j')) := permIn_trans _ _ _ _ _ hpj.out (swp_permIn dj lo (hi + 1) i' j' (by omega) (by omega) (by omega) (by omega) (by rw [hsj.out]; omega))
                    go_wp2_with fail
                    clear tst cp
                    go_region
                    all_goals
                      go_wp2
                      go_roundw
                      case rel => exact ⟨i' + 1, j', swp dj i' j', by go_num, rfl, by omega, by omega, by omega, by omega, by rw [size_swp]; exact hsj.out, HPJ, IN, HH, HF.out.drew⟩
                      case measure => simp [intOf]; omega
                  · have IN : Hid (Med.In lo hi i' (j' + 1) p dj) := Med.In_past hin.out i1 u1 A2.out (by omega) B2.out (by omega)
                    go_wp2_with fail
                    go_roundw
                    case rel => exact ⟨i', j' + 1, dj, rfl, by go_num, by omega, by omega, by omega, by omega, hsj, hpj, IN, hHj, hfj⟩
                    case measure => simp [intOf]; omega
        · have HPN' : Hid ((∀ i, i < n → Med.nn dj[i]!) → Med.nn p) := fun g => HPN.out (Med.nn_back hpj.out hsk.out l3 g)
          have INV : Hid (Med.Inv n lo hi dj) := Med.Inv_perm hpj.out hsk.out l3 (by omega) hinv.out
          have PJ : Hid (PermIn 0 n d dj) := permIn_trans _ _ _ _ _ hpk.out (permIn_mono _ _ _ _ _ _ (Nat.zero_le _) (by omega) (by rw [hsk.out]; omega) hpj.out)
          obtain ⟨x1, x2⟩ : lo < i ∧ j1 ≤ hi := by
            rcases hin.out.2.2.2 with ⟨e1, e2, _⟩ | h
            · omega
            · exact h
          by_cases k1 : m < j1
          · obtain ⟨j, rfl⟩ : ∃ j, j1 = j + 1 := ⟨j1 - 1, by omega⟩
            have INV2 : Hid (Med.Inv n lo j dj) := Med.Inv_left INV.out hin.out HPN'.out (by omega) l3 i2 j2
            go_wp2
            go_roundw
            case rel => exact ⟨lo, j, dj, rfl, by go_num, by omega, by omega, by omega, hsj, PJ, INV2, hHj, hfj⟩
            case measure => simp [intOf]; omega
          by_cases k2 : i ≤ m
          · have INV2 : Hid (Med.Inv n i hi dj) := Med.Inv_right INV.out hin.out HPN'.out (by omega) l3 i2 j2 i1
            go_wp2
            go_roundw
            case rel => exact ⟨i, hi, dj, rfl, rfl, by omega, by omega, by omega, hsj, PJ, INV2, hHj, hfj⟩
            case measure => simp [intOf]; omega
          · have FIN : Hid (Med.Final n m dj) := Med.Final_mid INV.out hin.out HPN'.out (by omega) l3 i2 j2 (by omega) (by omega)
            have cp : wr.cell? ⟨blk, off + m, none⟩ = some (.float .f32 dj[m]!) := (hHj.out _ (by rw [hsj.out]; omega)).1
            generalize hp : dj[m]! = y at cp
            have HP : Hid (dj[m]! = y) := hp
            clear hp
            go_wp2
            go_ret
            exact ⟨dj, by rw [HP.out]; rfl, PJ.out, FIN.out, hHj.out, hfj.out⟩
    · have cp : wr.cell? ⟨blk, off + m, none⟩ = some (.float .f32 dk[m]!) := (hHk.out _ (by rw [hsk.out]; omega)).1
      generalize hp : dk[m]! = p at cp
      have HP : Hid (dk[m]! = p) := hp
      clear hp
      have HF : Hid (Med.Final n m dk) := by
        obtain ⟨e1, e2⟩ : lo = m ∧ hi = m := by omega
        rw [e1, e2] at hinv
        exact Med.Final_of_Inv m1 hinv.out
      go_wp2
      go_ret
      exact ⟨dk, by rw [HP.out]; rfl, hpk.out, HF.out, hHk.out, hfr.out⟩
end Go.Proofs.Qxb6602679a
