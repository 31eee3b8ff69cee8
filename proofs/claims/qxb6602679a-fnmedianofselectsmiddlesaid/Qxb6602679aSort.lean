import Derived.Test.Qxb6602679aLess
import Derived.Test.Qxb6602679aMs
import Derived.RegionTactic
import Derived.Deep.QuietTactic
import Derived.BigQuiet
import Derived.Deep.LoopGhost
import Derived.Deep.DeepCutAuto
namespace Go.Proofs.Qxb6602679a
open Go.ChangeShapes Go.WideShapes Go.ChangeAt Go.RowKit Go.Sort
attribute [local go_sem] Row.run_store_float

theorem sort13_short (p : Option Addr) (n c : Nat) (w : World) (h : n < 2) : Calls Try.prog 13 #[.slice p n c] w fun e w' => e = .returned (.tuple #[]) ∧ w' = w := by
  go_enter Try.func13, Try.ntmps13
  go_wp2
  exact bodyPost_ret (results_none rfl _ _ _) rfl ⟨rfl, rfl⟩

/-- The row that is sorted, the buffer beside it, all else as it was. -/
structure WS (w wr : World) (blk off B n : Nat) (dk bk : Array Nat) : Prop where
  sd : dk.size = n
  sb : bk.size = n
  hd : Holds (Value.float .f32) wr blk off dk
  hb : Holds (Value.float .f32) wr B 0 bk
  fr : Row.Fr (· = blk) w wr
  wd : ∀ t : Nat, dk[t]! < 4294967296
  wb : ∀ t : Nat, bk[t]! < 4294967296

theorem set_lt {d : Array Nat} (h : ∀ t : Nat, d[t]! < 4294967296) (i x : Nat) (hx : x < 4294967296) : ∀ t : Nat, (d.setIfInBounds i x)[t]! < 4294967296 := fun t => by
  by_cases e : t = i
  · subst e
    by_cases l : t < d.size
    · rw [getElem!_set_same d t x l]; exact hx
    · rw [getElem!_neg _ t (by simpa using l)]; decide
  · rw [getElem!_set_other d i t x e]; exact h t

theorem WS.drewN {w wr : World} {blk off B n : Nat} {dk bk : Array Nat} (h : WS w wr blk off B n dk bk) (q : Nat) : WS w (wr.drewN q) blk off B n dk bk := ⟨h.sd, h.sb, h.hd, h.hb, h.fr.drewN q, h.wd, h.wb⟩
theorem WS.setB {w wr : World} {blk off B n : Nat} {dk bk : Array Nat} (h : WS w wr blk off B n dk bk) (hB : w.heap.size = B) (hbB : blk < B) {k : Nat} (hk : k < n) {x : Nat} (hx : x < 4294967296) :
    WS w (wr.setCell ⟨B, k, none⟩ (.float .f32 x)) blk off B n dk (bk.setIfInBounds k x) := by
  have := Row.holds_set (enc := Value.float .f32) h.hb (i := k) (by rw [h.sb]; exact hk) x
  rw [Nat.zero_add] at this
  exact ⟨h.sd, by rw [Array.size_setIfInBounds]; exact h.sb, Row.holds_set_other h.hd (by show B ≠ blk; omega) _, this, h.fr.setCell (.inr (by show w.heap.size ≤ B; omega)) _, h.wd, set_lt h.wb k x hx⟩
theorem WS.setD {w wr : World} {blk off B n : Nat} {dk bk : Array Nat} (h : WS w wr blk off B n dk bk) (hbB : blk < B) {k : Nat} (hk : k < n) {x : Nat} (hx : x < 4294967296) :
    WS w (wr.setCell ⟨blk, off + k, none⟩ (.float .f32 x)) blk off B n (dk.setIfInBounds k x) bk :=
  ⟨by rw [Array.size_setIfInBounds]; exact h.sd, h.sb, Row.holds_set (enc := Value.float .f32) h.hd (by rw [h.sd]; exact hk) x, Row.holds_set_other h.hb (by show blk ≠ B; omega) _, h.fr.setCell (.inl rfl) _, set_lt h.wd k x hx, h.wb⟩
theorem WS.cd {w wr : World} {blk off B n : Nat} {dk bk : Array Nat} (h : WS w wr blk off B n dk bk) {k : Nat} (hk : k < n) : wr.cell? ⟨blk, off + k, none⟩ = some (.float .f32 dk[k]!) ∧ wr.frozen? ⟨blk, off + k, none⟩ = false := h.hd k (by rw [h.sd]; exact hk)
theorem WS.cb {w wr : World} {blk off B n : Nat} {dk bk : Array Nat} (h : WS w wr blk off B n dk bk) {k : Nat} (hk : k < n) : wr.cell? ⟨B, k, none⟩ = some (.float .f32 bk[k]!) ∧ wr.frozen? ⟨B, k, none⟩ = false := by
  have := h.hb k (by rw [h.sb]; exact hk)
  rw [Nat.zero_add] at this
  exact this

theorem replicate_lt (n : Nat) (t : Nat) : (Array.replicate n (0 : Nat))[t]! < 4294967296 := by
  by_cases h : t < n
  · rw [getElem!_pos _ t (by simpa using h), Array.getElem_replicate]; decide
  · rw [getElem!_neg _ t (by simpa using h)]; decide

set_option maxHeartbeats 4000000 in
set_option maxRecDepth 100000 in
theorem sort13 (blk off cap n : Nat) (d : Array Nat) (w : World) (hs : d.size = n) (h0 : 2 ≤ n) (hn : n ≤ 65536) (hH : Holds (Value.float .f32) w blk off d) (hw : ∀ t : Nat, d[t]! < 4294967296) :
    Calls Try.prog 13 #[.slice (some ⟨blk, off, none⟩) n cap] w fun e w' => e = .returned (.tuple #[]) ∧ ∃ d' : Array Nat, d'.size = n ∧ (∀ p, Ms.C d' p n = Ms.C d p n) ∧ (∀ s t : Nat, s ≤ t → t < n → Med.rank d'[s]! ≤ Med.rank d'[t]!) ∧ (∀ t : Nat, d'[t]! < 4294967296) ∧ Holds (Value.float .f32) w' blk off d' ∧ Row.Fr (· = blk) w w' := by
  have AH : Hid (Holds (Value.float .f32) w blk off d) := hH
  have hbw : blk < w.heap.size := Row.Holds.lt hH (by omega)
  have HW : Hid (∀ t : Nat, d[t]! < 4294967296) := hw
  have HS : Hid (d.size = n) := hs
  clear hH hw hs
  have W0 : WS w (w.alloc (.cells (Array.replicate n (.float .f32 0)) 25)) blk off w.heap.size n d (Array.replicate n 0) :=
    ⟨HS.out, by simp, (Row.Fr.alloc (Row.Fr.refl (fun _ => False) w) _).holds AH.out (fun f => f), Row.holds_made (enc := Value.float .f32) w n 0 25, (Row.Fr.refl _ _).alloc _, HW.out, replicate_lt n⟩
  generalize hB : w.heap.size = B at *
  have HB : Hid (w.heap.size = B) := hB
  go_enter Try.func13, Try.ntmps13
  go_wp2_with (at_make; refine Row.wpList_make_row _ rfl _ _ 22 rfl 25 (.float .f32 0) 4 Try.underlying22 Try.info25 rfl _ _ _ _ n rfl rfl rfl rfl (by omega) (by omega) ?_)
  clear hB
  go_loopw [4] (fun v wr => ∃ (u : Nat) (dk bk : Array Nat), v = .int .i64 u ∧ 1 ≤ u ∧ u ≤ 131072 ∧ WS w wr blk off B n dk bk ∧ Ms.Runs Med.rank dk u n ∧ Hid (∀ p, Ms.C dk p n = Ms.C d p n)) (fun v _ => n - (intOf v).toNat)
  case atStart => exact ⟨1, d, _, rfl, by omega, by omega, W0, Ms.Runs_one _ _ _, fun _ => rfl⟩
  case round =>
    clear W0
    obtain ⟨u, dk, bk, rfl, u1, u2, hws, hruns, hcnt⟩ := hrel
    by_cases hlt : u < n
    · go_wp2_with fail
      go_loopg [5] n (fun g v wr => ∃ (m lo : Nat) (bk : Array Nat), v = .int .i64 lo ∧ Hid (lo = m * (2 * u)) ∧ lo < n + 2 * u ∧ n - lo ≤ g ∧ WS w wr blk off B n dk bk ∧ Ms.Ch Med.rank dk bk (2 * u) lo n)
      case atStart => exact ⟨0, 0, bk, rfl, by simp [Hid], by omega, by omega, hws, Ms.Ch_start _ _ _ _ _⟩
      case round =>
        clear hws
        clear bk
        obtain ⟨m, lo, bk, rfl, hlo, lo2, lo3, hws, hch⟩ := hrel
        by_cases hln : lo < n
        · obtain ⟨mid, hmid⟩ : ∃ mid, mid = min (lo + u) n := ⟨_, rfl⟩
          obtain ⟨hi, hhi⟩ : ∃ hi, hi = min (lo + 2 * u) n := ⟨_, rfl⟩
          have m1 : lo ≤ mid := by omega
          have m2 : mid ≤ hi := by omega
          have m3 : hi ≤ n := by omega
          have A1 : Ms.Asc Med.rank dk lo mid := by rw [hlo.out]; exact Ms.asc_lo Med.rank hruns (by rw [← hlo.out]; omega) (by omega)
          have A2 : Ms.Asc Med.rank dk mid hi := Ms.asc_hi (m := m) Med.rank hruns (by rw [← hlo.out]; omega) (by rw [← hlo.out]; omega) m3
          have HMID : Hid (mid = min (lo + u) n) := hmid
          have HHI : Hid (hi = min (lo + 2 * u) n) := hhi
          clear hmid hhi
          go_upto_if 35 with fail
          go_cut [6] (fun v w' => v = .int .i64 mid ∧ w' = wr)
          case first =>
            by_cases c1 : n < lo + u
            · go_wp2_with fail
              go_meet
              case rel => exact ⟨by rw [show mid = n by have := HMID.out; omega], rfl⟩
            · go_wp2_with fail
              go_meet
              case rel => exact ⟨by rw [show mid = lo + u by have := HMID.out; omega]; go_num, rfl⟩
          case rest =>
            obtain ⟨rfl, rfl⟩ := hcut
            go_upto_if 43 with fail
            go_cut [7] (fun v w' => v = .int .i64 hi ∧ w' = wc)
            case first =>
              by_cases c1 : n < lo + 2 * u
              · go_wp2_with fail
                go_meet
                case rel => exact ⟨by rw [show hi = n by have := HHI.out; omega], rfl⟩
              · go_wp2_with fail
                go_meet
                case rel => exact ⟨by rw [show hi = lo + 2 * u by have := HHI.out; omega]; go_num, rfl⟩
            case rest =>
              obtain ⟨rfl, rfl⟩ := hcut
              go_wp2_with fail
              go_loopg [8, 9, 10] n (fun g vi vj vk wr => ∃ (i j k : Nat) (b : Array Nat), vi = .int .i64 i ∧ vj = .int .i64 j ∧ vk = .int .i64 k ∧ lo ≤ i ∧ i ≤ mid ∧ mid ≤ j ∧ j ≤ hi ∧ k + mid = i + j ∧ hi - k ≤ g ∧ WS w wr blk off B n dk b ∧ Ms.Mg Med.rank dk b bk lo mid hi i j k)
              case atStart => exact ⟨lo, mid, lo, bk, rfl, rfl, rfl, by omega, by omega, by omega, by omega, by omega, by omega, hws, Ms.Mg_start _ _ _ _ _ _⟩
              case round =>
                clear hws
                obtain ⟨i, j, k, b, rfl, rfl, rfl, i1, i2, j1, j2, hk, hg, hws, hmg⟩ := hrel
                have HK : Hid (k + mid = i + j) := hk
                have hk1 : k + mid ≤ i + j := by omega
                have hk2 : i + j ≤ k + mid := by omega
                clear hk
                by_cases hkh : k < hi
                · have kB := (hws.cb (k := k) (by omega))
                  obtain ⟨cB, fB⟩ := kB
                  generalize b[k]! = bz at cB
                  by_cases him : i < mid
                  · obtain ⟨ci, _⟩ := hws.cd (k := i) (by omega)
                    have hxi := hws.wd i
                    generalize hdi : dk[i]! = xi at ci hxi
                    have HDI : Hid (dk[i]! = xi) := hdi
                    clear hdi
                    by_cases hjh : hi ≤ j
                    · have g1 : decide ((hi : Int) ≤ (j : Int)) = true := decide_eq_true (by omega)
                      have MG := Ms.Mg_left Med.rank hmg A1 A2 (by rw [hws.sb]; omega) (by omega) i1 j1 him (.inl hjh)
                      rw [HDI.out] at MG
                      have WN := fun q => (hws.drewN q).setB HB.out (by omega) (k := k) (by omega) hxi
                      have HWN : Hid (∀ q, WS w ((wr.drewN q).setCell ⟨B, k, none⟩ (.float .f32 xi)) blk off B n dk (b.setIfInBounds k xi)) := WN
                      clear WN
                      go_wp2_with fail
                      go_quiet (fail)
                      go_wp2
                      go_roundg (hi - (k + 1))
                      case measure => omega
                      case rel => exact ⟨i + 1, j, k + 1, _, by go_num, rfl, by go_num, by omega, by omega, by omega, by omega, by omega, by omega, HWN.out _, MG⟩
                    · have g1 : decide ((hi : Int) ≤ (j : Int)) = false := decide_eq_false (by omega)
                      obtain ⟨cj, _⟩ := hws.cd (k := j) (by omega)
                      have hxj := hws.wd j
                      generalize hdj : dk[j]! = xj at cj hxj
                      have HDJ : Hid (dk[j]! = xj) := hdj
                      clear hdj
                      have LC := fun W => less30 xj xi W hxj hxi
                      by_cases hr : Med.rank xj < Med.rank xi
                      · have MG := Ms.Mg_right Med.rank hmg A1 A2 (by rw [hws.sb]; omega) (by omega) i1 j1 (by omega) (.inr (by rw [HDI.out, HDJ.out]; exact hr))
                        rw [HDJ.out] at MG
                        have HWN : Hid (∀ q, WS w ((wr.drewN q).setCell ⟨B, k, none⟩ (.float .f32 xj)) blk off B n dk (b.setIfInBounds k xj)) := fun q => (hws.drewN q).setB HB.out (by omega) (k := k) (by omega) hxj
                        rw [decide_eq_true hr] at LC
                        clear hr
                        have HLC : Hid (∀ W, Calls Try.prog 30 #[.float .f32 xj, .float .f32 xi] W fun e w' => e = .returned (.bool true) ∧ w' = W) := LC
                        clear LC
                        go_wp2_with fail
                        go_quiet ((go_at_call 30; exact Calls.quiet_of_same (HLC.out _)))
                        go_wp2
                        go_roundg (hi - (k + 1))
                        case measure => omega
                        case rel => exact ⟨i, j + 1, k + 1, _, rfl, by go_num, by go_num, by omega, by omega, by omega, by omega, by omega, by omega, HWN.out _, MG⟩
                      · have MG := Ms.Mg_left Med.rank hmg A1 A2 (by rw [hws.sb]; omega) (by omega) i1 j1 him (.inr (by rw [HDI.out, HDJ.out]; exact hr))
                        rw [HDI.out] at MG
                        have HWN : Hid (∀ q, WS w ((wr.drewN q).setCell ⟨B, k, none⟩ (.float .f32 xi)) blk off B n dk (b.setIfInBounds k xi)) := fun q => (hws.drewN q).setB HB.out (by omega) (k := k) (by omega) hxi
                        rw [decide_eq_false hr] at LC
                        clear hr
                        have HLC : Hid (∀ W, Calls Try.prog 30 #[.float .f32 xj, .float .f32 xi] W fun e w' => e = .returned (.bool false) ∧ w' = W) := LC
                        clear LC
                        go_wp2_with fail
                        go_quiet ((go_at_call 30; exact Calls.quiet_of_same (HLC.out _)))
                        go_wp2
                        go_roundg (hi - (k + 1))
                        case measure => omega
                        case rel => exact ⟨i + 1, j, k + 1, _, by go_num, rfl, by go_num, by omega, by omega, by omega, by omega, by omega, by omega, HWN.out _, MG⟩
                  · have g1 : decide ((i : Int) < (mid : Int)) = false := decide_eq_false (by omega)
                    obtain ⟨cj, _⟩ := hws.cd (k := j) (by omega)
                    have hxj := hws.wd j
                    generalize hdj : dk[j]! = xj at cj hxj
                    have HDJ : Hid (dk[j]! = xj) := hdj
                    clear hdj
                    have MG := Ms.Mg_right Med.rank hmg A1 A2 (by rw [hws.sb]; omega) (by omega) i1 j1 (by omega) (.inl (by omega))
                    rw [HDJ.out] at MG
                    have HWN : Hid (∀ q, WS w ((wr.drewN q).setCell ⟨B, k, none⟩ (.float .f32 xj)) blk off B n dk (b.setIfInBounds k xj)) := fun q => (hws.drewN q).setB HB.out (by omega) (k := k) (by omega) hxj
                    go_wp2_with fail
                    go_quiet (fail)
                    go_wp2
                    go_roundg (hi - (k + 1))
                    case measure => omega
                    case rel => exact ⟨i, j + 1, k + 1, _, rfl, by go_num, by go_num, by omega, by omega, by omega, by omega, by omega, by omega, HWN.out _, MG⟩
                · obtain ⟨e1, e2, e3⟩ : i = mid ∧ j = hi ∧ k = hi := by have := HK.out; omega
                  have CH : Ms.Ch Med.rank dk b (2 * u) (lo + 2 * u) n := by
                    rw [e1, e2, e3, hlo.out] at hmg
                    rw [hlo.out] at hch
                    have := Ms.Ch_step Med.rank hch (by rw [← hlo.out]; exact hln) (by omega) (by rw [← hlo.out]; exact HHI.out) m2 hmg
                    rw [Nat.add_one_mul m (2 * u), ← hlo.out] at this
                    exact this
                  have HLO : Hid (lo + 2 * u = (m + 1) * (2 * u)) := by rw [Nat.add_one_mul m (2 * u), ← hlo.out]; exact rfl
                  clear e1 e2 e3
                  go_wp2
                  go_roundg (n - (lo + 2 * u))
                  case measure => omega
                  case rel => exact ⟨m + 1, lo + 2 * u, b, by go_num, HLO, by omega, by omega, hws, CH⟩
        · obtain ⟨cb1, RN⟩ := Ms.Ch_end Med.rank hch (by omega)
          have HCB : Hid (∀ p, Ms.C bk p n = Ms.C dk p n) := cb1
          clear cb1
          go_wp2_with fail
          go_loopw [11] (fun v wr => ∃ (t : Nat) (dt : Array Nat), v = .int .i64 t ∧ t ≤ n ∧ WS w wr blk off B n dt bk ∧ Hid (∀ s : Nat, s < t → dt[s]! = bk[s]!)) (fun v _ => n - (intOf v).toNat)
          case atStart => exact ⟨0, dk, rfl, by omega, hws, fun s hs => by omega⟩
          case round =>
            clear hws
            obtain ⟨t, dt, rfl, t1, hws, hcp⟩ := hrel
            by_cases htn : t < n
            · obtain ⟨cb, _⟩ := hws.cb (k := t) htn
              obtain ⟨cd, fd⟩ := hws.cd (k := t) htn
              have hx := hws.wb t
              generalize hdj : bk[t]! = x at cb hx
              have HX : Hid (bk[t]! = x) := hdj
              clear hdj
              generalize dt[t]! = y at cd
              have WN := hws.setD (by omega) htn hx
              have HCP : Hid (∀ s : Nat, s < t + 1 → (dt.setIfInBounds t x)[s]! = bk[s]!) := fun s hs => by
                by_cases e : s = t
                · rw [e, HX.out, getElem!_set_same dt t x (by rw [hws.sd]; exact htn)]
                · rw [getElem!_set_other dt t s x e]; exact hcp.out s (by omega)
              go_wp2
              go_roundw
              case rel => exact ⟨t + 1, _, by go_num, by omega, WN, HCP⟩
              case measure => simp [intOf]; omega
            · have RD : Ms.Runs Med.rank dt (2 * u) n := fun m s t h1 h2 h3 h4 => by
                rw [hcp.out s (by omega), hcp.out t (by omega)]; exact RN m s t h1 h2 h3 h4
              have CD : Hid (∀ p, Ms.C dt p n = Ms.C d p n) := fun p => by
                rw [Ms.C_congr p n (fun s hs => hcp.out s (by omega)), HCB.out p, hcnt.out p]
              go_wp2
              go_roundw
              case rel => exact ⟨2 * u, dt, bk, by go_num, by omega, by omega, hws, RD, CD⟩
              case measure => simp [intOf]; omega
    · go_wp2
      go_end0
      exact ⟨rfl, dk, hws.sd, hcnt.out, Ms.Runs_all Med.rank hruns (by omega), hws.wd, hws.hd, hws.fr⟩
end Go.Proofs.Qxb6602679a
