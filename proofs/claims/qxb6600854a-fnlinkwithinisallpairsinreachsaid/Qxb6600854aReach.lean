import Derived.Test.Qxb6600854aCells
/-! The words of 'linkWithin': cells, squares of distances. Plain: no program, no walk. -/
namespace Go.Proofs.Qxb6600854a.Fl
open Ieee
set_option exponentiation.threshold 5000
set_option linter.unusedSimpArgs false

def ge64 (x y : Nat) : Bool := Ieee.double.order x y == some .gt || Ieee.double.order x y == some .eq
def le64 (x y : Nat) : Bool := Ieee.double.order x y == some .lt || Ieee.double.order x y == some .eq
def gt64 (x y : Nat) : Bool := Ieee.double.order x y == some .gt

theorem le_key {x y : Nat} (h : le64 x y = true) : ∃ a b : Int, key Ieee.double x = some a ∧ key Ieee.double y = some b ∧ a ≤ b := by
  unfold le64 at h
  rw [order_eq] at h
  cases hx : key Ieee.double x with
  | none => rw [hx] at h; simp at h
  | some a =>
    cases hy : key Ieee.double y with
    | none => rw [hx, hy] at h; simp at h
    | some b =>
      refine ⟨a, b, rfl, rfl, ?_⟩
      rw [hx, hy] at h
      simp only [Option.bind_some, compare_int] at h
      by_cases l : a < b
      · omega
      · by_cases e : a = b
        · omega
        · simp [l, e] at h
theorem ge_key {x y : Nat} (h : ge64 x y = true) : ∃ a b : Int, key Ieee.double x = some a ∧ key Ieee.double y = some b ∧ b ≤ a := by
  unfold ge64 at h
  rw [order_eq] at h
  cases hx : key Ieee.double x with
  | none => rw [hx] at h; simp at h
  | some a =>
    cases hy : key Ieee.double y with
    | none => rw [hx, hy] at h; simp at h
    | some b =>
      refine ⟨a, b, rfl, rfl, ?_⟩
      rw [hx, hy] at h
      simp only [Option.bind_some, compare_int] at h
      by_cases l : a < b
      · simp [l] at h
      · omega

/-- A number that is not negative and not infinite. -/
theorem fin_of_key {x : Nat} {v : Int} (h : key Ieee.double x = some v) (h0 : 0 ≤ v) (h1 : v < 2 ^ 2101) : ∃ (s : Bool) (a : Nat), Fin x s a ∧ (a : Int) = v ∧ (s = true → a = 0) := by
  unfold key at h
  cases hr : Ieee.double.read x with
  | nan s t => rw [hr] at h; simp [fval] at h
  | infinity s =>
    exfalso
    rw [hr] at h
    simp only [fval, Option.some.injEq] at h
    have e : bigExp Ieee.double = 2101 := by decide
    rw [e] at h
    have c : ((2 ^ 2101 : Nat) : Int) = 2 ^ 2101 := by simp
    rw [c] at h
    generalize (2 : Int) ^ 2101 = z at h h1
    cases s <;> simp at h <;> omega
  | number s m i =>
    obtain ⟨l1, _⟩ := read_number hr
    have lp : Ieee.double.leastPlace = -1074 := by decide
    rw [lp] at l1
    rw [hr] at h
    simp only [fval, Option.some.injEq, lp] at h
    rw [show i - -1074 = i + 1074 by omega, ← neg1_signed] at h
    refine ⟨s, m * 2 ^ (i + 1074).toNat, ⟨m, i, hr, l1, rfl⟩, ?_, fun e => ?_⟩
    · generalize m * 2 ^ (i + 1074).toNat = a at h
      cases s <;> simp [neg1] at h <;> omega
    · subst e
      generalize m * 2 ^ (i + 1074).toNat = a at h
      simp [neg1] at h
      omega

theorem fin_E : Fin 4607182418804521008 false (4503599631874096 * 2 ^ 1022) := ⟨4503599631874096, -52, by decide, by decide, rfl⟩
theorem fin_P : Fin 4697254411347427328 false (2 ^ 1094) := ⟨4503599627370496, -32, by decide, by decide, by rw [show (-32 + 1074 : Int).toNat = 1042 by decide, show (4503599627370496 : Nat) = 2 ^ 52 by decide, ← Nat.pow_add]⟩
theorem fin_lo : Fin 3110860544497550640 false (7880401239278896 * 2 ^ 689) := ⟨7880401239278896, -385, by decide, by decide, rfl⟩
theorem fin_hi : Fin 6103021453049119613 false (5147557589468029 * 2 ^ 1354) := ⟨5147557589468029, 280, by decide, by decide, rfl⟩
theorem lo_ge : 2 ^ 741 ≤ 7880401239278896 * 2 ^ 689 := by
  rw [show 741 = 52 + 689 by decide, Nat.pow_add]
  exact Nat.mul_le_mul_right _ (by decide)
theorem hi_le : 5147557589468029 * 2 ^ 1354 ≤ 2 ^ 1407 := by
  rw [show 1407 = 53 + 1354 by decide, Nat.pow_add]
  exact Nat.mul_le_mul_right _ (by decide)
theorem fin_zero : Fin 0 false 0 := ⟨0, -1074, by decide, by decide, rfl⟩

/-- The side and the reach. -/
structure Env (sd rc S R : Nat) : Prop where
  side : Fin sd false S
  lo : 2 ^ 741 ≤ S
  hi : S ≤ 2 ^ 1407
  reach : ∃ s, Fin rc s R ∧ (s = true → R = 0)
  rhi : R ≤ 2 ^ 1407

theorem env_of {sd rc : Nat} (h1 : ge64 sd 3110860544497550640 = true) (h2 : le64 sd 6103021453049119613 = true) (h3 : ge64 rc 0 = true) (h4 : le64 rc 6103021453049119613 = true) : ∃ S R : Nat, Env sd rc S R := by
  have big : (2 : Int) ^ 1407 < 2 ^ 2101 := by
    have : (2 : Nat) ^ 1407 < 2 ^ 2101 := Nat.pow_lt_pow_right (by decide) (by decide)
    have c1 : (((2 : Nat) ^ 1407 : Nat) : Int) = 2 ^ 1407 := by simp
    have c2 : (((2 : Nat) ^ 2101 : Nat) : Int) = 2 ^ 2101 := by simp
    rw [← c1, ← c2]; exact Int.ofNat_lt.2 this
  have c1 : (((2 : Nat) ^ 1407 : Nat) : Int) = 2 ^ 1407 := by simp
  have pos : (0 : Nat) < 2 ^ 741 := Nat.two_pow_pos _
  obtain ⟨a, b, ka, kb, ab⟩ := ge_key h1
  obtain ⟨a', c, ka', kc, ac⟩ := le_key h2
  rw [ka] at ka'
  obtain rfl : a = a' := by injection ka'
  rw [fin_lo.key] at kb
  rw [fin_hi.key] at kc
  simp only [neg1, Bool.false_eq_true, if_false, Option.some.injEq] at kb kc
  have l1 := lo_ge
  have l2 := hi_le
  have l2' : ((5147557589468029 * 2 ^ 1354 : Nat) : Int) ≤ 2 ^ 1407 := by rw [← c1]; exact Int.ofNat_le.2 l2
  have l1' : ((2 ^ 741 : Nat) : Int) ≤ ((7880401239278896 * 2 ^ 689 : Nat) : Int) := Int.ofNat_le.2 l1
  rw [kb] at l1'
  rw [kc] at l2'
  obtain ⟨s, S, fS, eS, nS⟩ := fin_of_key ka (by omega) (by omega)
  obtain ⟨r, z, kr, kz, rz⟩ := ge_key h3
  obtain ⟨r', c', kr', kc', rc'⟩ := le_key h4
  rw [kr] at kr'
  obtain rfl : r = r' := by injection kr'
  rw [fin_zero.key] at kz
  rw [fin_hi.key] at kc'
  simp only [neg1, Bool.false_eq_true, if_false, Option.some.injEq] at kz kc'
  rw [kc] at kc'
  subst kc'
  obtain ⟨t, R, fR, eR, nR⟩ := fin_of_key kr (by omega) (by omega)
  have hS : 2 ^ 741 ≤ S := by omega
  have s0 : s = false := by
    cases s
    · rfl
    · have := nS rfl; omega
  subst s0
  refine ⟨S, R, fS, hS, ?_, ⟨t, fR, nR⟩, ?_⟩
  · have : (S : Int) ≤ ((2 ^ 1407 : Nat) : Int) := by rw [c1]; omega
    exact Int.ofNat_le.1 this
  · have : (R : Int) ≤ ((2 ^ 1407 : Nat) : Int) := by rw [c1]; omega
    exact Int.ofNat_le.1 this

/-- What 'max' of two floats picks (no NaN among them, and the first not a negative zero where they are equal). -/
def Pick (c1 c2 cw : Nat) : Prop := (Ieee.double.order c1 c2 = some .lt ∧ cw = c2) ∨ (Ieee.double.order c1 c2 = some .gt ∧ cw = c1) ∨ (Ieee.double.order c1 c2 = some .eq ∧ (Ieee.double.read c1).neg = false ∧ cw = c1)

/-- The cell's width and the square of the reach. -/
structure Grid (S R cw nw C1 C N : Nat) : Prop where
  cell : Fin cw false C
  nr1 : Nr (R * (4503599631874096 * 2 ^ 1022)) (2 ^ 1074) C1
  c1 : C1 ≤ C
  side : S ≤ C * 1048576
  big : 2 ^ 721 ≤ C
  near : Fin nw false N
  nrN : Nr (R * R) (2 ^ 1074) N

theorem exact_quot {S C2 : Nat} (hS : Rep S) (lo : 2 ^ 741 ≤ S) (h : Nr (S * 2 ^ 1074) (2 ^ 1094) C2) : C2 * 1048576 = S := by
  obtain ⟨k, e, ⟨c1, c2⟩, rfl⟩ := hS
  have he : 20 ≤ e := by
    rcases Nat.lt_or_ge e 20 with q | q
    · exfalso
      have h1 : k * 2 ^ e ≤ 2 ^ 53 * 2 ^ 20 := Nat.mul_le_mul c1 (Nat.pow_le_pow_right (by decide) (by omega))
      rw [← Nat.pow_add] at h1
      have h2 : (2 : Nat) ^ (53 + 20) < 2 ^ 741 := Nat.pow_lt_pow_right (by decide) (by decide)
      omega
    · exact q
  obtain ⟨e', rfl⟩ : ∃ e', e = e' + 20 := ⟨e - 20, by omega⟩
  have e1 : k * 2 ^ (e' + 20) * 2 ^ 1074 = k * 2 ^ e' * 2 ^ 1094 := by
    rw [Nat.mul_assoc, Nat.mul_assoc, ← Nat.pow_add, ← Nat.pow_add]
  have r := rep_of e' k c1
  have g1 := h.ge _ r (Nat.le_of_eq e1.symm)
  have g2 := h.le _ r (Nat.le_of_eq e1)
  have : C2 = k * 2 ^ e' := by omega
  rw [this, Nat.mul_assoc, show (1048576 : Nat) = 2 ^ 20 by decide, ← Nat.pow_add]

theorem cell_of {sd rc S R : Nat} (E : Env sd rc S R) : ∃ c1 c2 cw nw C1 C N : Nat, Ieee.double.mul rc 4607182418804521008 = some c1 ∧ Ieee.double.div sd 4697254411347427328 = some c2 ∧ Pick c1 c2 cw ∧ Ieee.double.mul rc rc = some nw ∧ Grid S R cw nw C1 C N := by
  obtain ⟨s, fR, nR⟩ := E.reach
  have e0 : 4503599631874096 * 2 ^ 1022 ≤ 2 ^ 1075 := by
    rw [show 1075 = 53 + 1022 by decide, Nat.pow_add]
    exact Nat.mul_le_mul_right _ (by decide)
  obtain ⟨c1, C1, m1, f1, n1⟩ := mul_fin fR fin_E (by
    refine Nat.le_trans (Nat.mul_le_mul E.rhi e0) ?_
    rw [← Nat.pow_add, ← Nat.pow_add]
    exact Nat.pow_le_pow_right (by decide) (by decide))
  obtain ⟨c2, C2, m2, f2, n2⟩ := div_fin E.side fin_P (Nat.two_pow_pos _) (by
    refine Nat.le_trans (Nat.mul_le_mul_right _ E.hi) ?_
    rw [← Nat.pow_add, ← Nat.pow_add]
    exact Nat.pow_le_pow_right (by decide) (by decide))
  obtain ⟨nw, N, m3, f3, n3⟩ := mul_fin fR fR (by
    refine Nat.le_trans (Nat.mul_le_mul E.rhi E.rhi) ?_
    rw [← Nat.pow_add, ← Nat.pow_add]
    exact Nat.pow_le_pow_right (by decide) (by decide))
  have f3' : Fin nw false N := by rw [Bool.xor_self] at f3; exact f3
  rw [Bool.xor_false] at f1
  have hC2 := exact_quot (fin_rep E.side) E.lo n2
  have hC2b : 2 ^ 721 ≤ C2 := by
    have := E.lo
    rw [← hC2, show 741 = 721 + 20 by decide, Nat.pow_add] at this
    exact Nat.le_of_mul_le_mul_right this (by decide)
  have p2 : 0 < C2 := Nat.lt_of_lt_of_le (Nat.two_pow_pos _) hC2b
  have z1 : s = true → C1 = 0 := fun e => by
    have := nR e
    subst this
    have := n1.le 0 rep_zero (by rw [Nat.zero_mul]; omega)
    omega
  have k1 : key Ieee.double c1 = some (C1 : Int) := by
    rw [f1.key]
    cases s
    · rfl
    · rw [z1 rfl]; rfl
  have k2 : key Ieee.double c2 = some (C2 : Int) := f2.key
  have ord : Ieee.double.order c1 c2 = some (compare (C1 : Int) (C2 : Int)) := by rw [order_eq, k1, k2]; rfl
  rw [compare_int] at ord
  rcases Nat.lt_trichotomy C1 C2 with l | l | l
  · rw [if_pos (by omega)] at ord
    exact ⟨c1, c2, c2, nw, C1, C2, N, m1, m2, .inl ⟨ord, rfl⟩, m3, ⟨f2, n1, by omega, by omega, hC2b, f3', n3⟩⟩
  · rw [if_neg (by omega), if_pos (by omega)] at ord
    have s0 : s = false := by
      cases s
      · rfl
      · have := z1 rfl; omega
    subst s0
    have hn : (Ieee.double.read c1).neg = false := by
      obtain ⟨m, i, hr, _⟩ := f1
      rw [hr]; rfl
    exact ⟨c1, c2, c1, nw, C1, C1, N, m1, m2, .inr (.inr ⟨ord, hn, rfl⟩), m3, ⟨f1, n1, by omega, by omega, by omega, f3', n3⟩⟩
  · rw [if_neg (by omega), if_neg (by omega)] at ord
    have s0 : s = false := by
      cases s
      · rfl
      · have := z1 rfl; omega
    subst s0
    exact ⟨c1, c2, c1, nw, C1, C1, N, m1, m2, .inr (.inl ⟨ord, rfl⟩), m3, ⟨f1, n1, by omega, by omega, by omega, f3', n3⟩⟩

/-- A coordinate: its number, and its cell's index i. -/
structure Pt (S C x a i : Nat) : Prop where
  fin : ∃ s, Fin x s a ∧ (s = true → a = 0)
  le : a ≤ S
  idx : ∃ Q, Nr (a * 2 ^ 1074) C Q ∧ i = Q / 2 ^ 1074
  small : i ≤ 1048576

theorem pt_of {sd rc S R cw nw C1 C N : Nat} (E : Env sd rc S R) (G : Grid S R cw nw C1 C N) {x : Nat} (h1 : ge64 x 0 = true) (h2 : le64 x sd = true) :
    ∃ a i q : Nat, Pt S C x a i ∧ Ieee.double.div x cw = some q ∧ (Ieee.double.read q).toInt .zero = some (i : Int) := by
  have pC : 0 < C := Nat.lt_of_lt_of_le (Nat.two_pow_pos _) G.big
  have big : (2 : Int) ^ 1407 < 2 ^ 2101 := by
    have : (2 : Nat) ^ 1407 < 2 ^ 2101 := Nat.pow_lt_pow_right (by decide) (by decide)
    have c1 : (((2 : Nat) ^ 1407 : Nat) : Int) = 2 ^ 1407 := by simp
    have c2 : (((2 : Nat) ^ 2101 : Nat) : Int) = 2 ^ 2101 := by simp
    rw [← c1, ← c2]; exact Int.ofNat_lt.2 this
  have c1 : (((2 : Nat) ^ 1407 : Nat) : Int) = 2 ^ 1407 := by simp
  have Shi : (S : Int) ≤ 2 ^ 1407 := by rw [← c1]; exact Int.ofNat_le.2 E.hi
  obtain ⟨v, z, kv, kz, vz⟩ := ge_key h1
  obtain ⟨v', b, kv', kb, vb⟩ := le_key h2
  rw [kv] at kv'
  obtain rfl : v = v' := by injection kv'
  rw [fin_zero.key] at kz
  rw [E.side.key] at kb
  simp only [neg1, Bool.false_eq_true, if_false, Option.some.injEq] at kz kb
  obtain ⟨s, a, fa, ea, na⟩ := fin_of_key kv (by omega) (by omega)
  have aS : a ≤ S := by omega
  obtain ⟨q, Q, dq, fq, nq⟩ := div_fin fa G.cell pC (by
    have h1 : a ≤ 2 ^ 1407 := Nat.le_trans aS E.hi
    refine Nat.le_trans (Nat.mul_le_mul_right _ h1) (Nat.le_trans ?_ (Nat.mul_le_mul_left _ G.big))
    rw [← Nat.pow_add, ← Nat.pow_add]
    exact Nat.pow_le_pow_right (by decide) (by decide))
  have Qle : Q ≤ 1048576 * 2 ^ 1074 := nq.le _ (rep_of 1074 1048576 (by decide)) (by
    have h3 := G.side
    calc a * 2 ^ 1074 ≤ C * 1048576 * 2 ^ 1074 := Nat.mul_le_mul_right _ (by omega)
      _ = 1048576 * 2 ^ 1074 * C := by
        generalize 2 ^ 1074 = u
        simp only [Nat.mul_assoc, Nat.mul_comm, Nat.mul_left_comm])
  refine ⟨a, Q / 2 ^ 1074, q, ⟨⟨s, fa, na⟩, aS, ⟨Q, nq, rfl⟩, ?_⟩, dq, ?_⟩
  · exact Nat.div_le_of_le_mul (by rw [Nat.mul_comm]; exact Qle)
  · refine toInt_fin fq fun e => ?_
    have := na e
    subst this
    have := nq.le 0 rep_zero (by rw [Nat.zero_mul]; omega)
    omega

theorem val_pt {S C x a i : Nat} (h : Pt S C x a i) : ∃ s, Fin x s a ∧ neg1 s a = (a : Int) := by
  obtain ⟨s, fa, na⟩ := h.fin
  refine ⟨s, fa, ?_⟩
  cases s
  · rfl
  · rw [na rfl]; rfl

/-- Two coordinates whose cells lie two apart: the square of their distance is above the square of the reach. -/
theorem far_of {S R cw nw C1 C N x y a b i j : Nat} (G : Grid S R cw nw C1 C N) (px : Pt S C x a i) (py : Pt S C y b j) (hij : j + 2 ≤ i) {K K2 : Nat} (hK : Nr (a - b) 1 K) (hK2 : Nr (K * K) (2 ^ 1074) K2) : N < K2 := by
  obtain ⟨Qa, na, ea⟩ := px.idx
  obtain ⟨Qb, nb, eb⟩ := py.idx
  have pU : 0 < 2 ^ 1074 := Nat.two_pow_pos _
  have hQa : i * 2 ^ 1074 ≤ Qa := by rw [ea]; exact Nat.div_mul_le_self _ _
  have hQb : Qb < (i - 1) * 2 ^ 1074 := by
    have h1 : Qb < (j + 1) * 2 ^ 1074 := by
      rw [eb, Nat.add_mul, Nat.one_mul]; exact Nat.lt_div_mul_add pU
    exact Nat.lt_of_lt_of_le h1 (Nat.mul_le_mul_right _ (by omega))
  have g := gap na nb (by omega) px.small hQa hQb
  rcases Nat.lt_or_ge R (2 ^ 584) with q | q
  · exact far_small q G.big g hK hK2 G.nrN
  · exact far_big q G.nr1 G.c1 G.big g hK hK2 G.nrN

/-- The rung of a nearest word does not hang on the sign. -/
theorem nearest_word' (f : Format) (mag : Nat) (place : Int) : ∃ r, r ≤ f.infRung ∧ ∀ s, f.nearest s mag place = f.word s r := by
  by_cases h : mag = 0
  · exact ⟨0, Nat.zero_le _, fun s => by unfold Format.nearest; rw [if_pos h]⟩
  · obtain ⟨last, hl⟩ : ∃ last, max (place + mag.log2 - f.fractionBits) f.leastPlace = last := ⟨_, rfl⟩
    refine ⟨min ((last - f.leastPlace).toNat * f.binade + Toward.even.cut false (mag <<< (place - last).toNat) (last - place).toNat) f.infRung, Nat.min_le_right _ _, fun s => ?_⟩
    unfold Format.nearest
    rw [if_neg h]
    have hc : ∀ n d, Toward.even.cut s n d = Toward.even.cut false n d := fun _ _ => rfl
    simp only [hc, hl]
theorem nearest_word (mag : Nat) (place : Int) : ∃ r, r ≤ Ieee.double.infRung ∧ ∀ s, Ieee.double.nearest s mag place = Ieee.double.word s r := nearest_word' _ _ _

theorem read_word (s : Bool) {r : Nat} (hr : r ≤ Ieee.double.infRung) : Ieee.double.read (Ieee.double.word s r) = if r < Ieee.double.binade then .number s r Ieee.double.leastPlace else if r < Ieee.double.infRung then .number s (Ieee.double.binade + r % Ieee.double.binade) (Ieee.double.leastPlace + (r / Ieee.double.binade - 1 : Nat)) else .infinity s := by
  have sw : Ieee.double.signWeight = 9223372036854775808 := by decide
  have ir : Ieee.double.infRung = 9218868437227405312 := by decide
  rw [ir] at hr
  have hw : Ieee.double.word s r / 9223372036854775808 % 2 = s.toNat ∧ Ieee.double.word s r % 9223372036854775808 = r := by
    unfold Format.word
    rw [sw]
    cases s
    · simp only [Bool.false_eq_true, if_false, Bool.toNat_false]; omega
    · simp only [if_true, Bool.toNat_true]; omega
  have hs : (s.toNat == 1) = s := by cases s <;> rfl
  unfold Format.read
  simp only [sw, hw.1, hw.2, hs, ir]
  split
  · rfl
  · split
    · rfl
    · rw [if_pos (by omega)]

theorem mul_self_word (s t : Bool) {r : Nat} (hr : r ≤ Ieee.double.infRung) : Ieee.double.mul (Ieee.double.word s r) (Ieee.double.word s r) = Ieee.double.mul (Ieee.double.word t r) (Ieee.double.word t r) := by
  unfold Format.mul
  rw [read_word s hr, read_word t hr]
  split
  · simp only [Datum.product, Bool.xor_self]
  · split
    · simp only [Datum.product, Bool.xor_self]
    · simp only [Datum.product, Bool.xor_self]

/-- The square of a difference. -/
def sq (x u : Nat) : Option Nat := (Ieee.double.sub x u).bind fun d => Ieee.double.mul d d

theorem sq_comm {x u : Nat} {s t : Bool} {a b : Nat} (hx : Fin x s a) (hu : Fin u t b) : sq x u = sq u x := by
  obtain ⟨m, i, rx, _, _⟩ := hx
  obtain ⟨n, j, ru, _, _⟩ := hu
  have key : ∀ (s' t' : Bool) (m' n' : Nat) (i' j' : Int), ∃ sg, Datum.sum (.number s' m' i') (.number t' n' j') = some (.number sg ((signed s' m' (i' - min i' j').toNat + signed t' n' (j' - min i' j').toNat).natAbs) (min i' j')) := fun _ _ _ _ _ _ => ⟨_, rfl⟩
  obtain ⟨g1, e1⟩ := key s (!t) m n i j
  obtain ⟨g2, e2⟩ := key t (!s) n m j i
  have hc : min j i = min i j := by omega
  have hab : (signed t n (j - min j i).toNat + signed (!s) m (i - min j i).toNat).natAbs = (signed s m (i - min i j).toNat + signed (!t) n (j - min i j).toNat).natAbs := by
    rw [hc]
    have n1 : ∀ (q : Bool) (k l : Nat), signed (!q) k l = - signed q k l := fun q k l => by rw [signed_eq, signed_eq]; cases q <;> simp
    rw [n1, n1, ← Int.natAbs_neg]
    congr 1
    omega
  rw [hab, hc] at e2
  obtain ⟨r, hr, hw⟩ := nearest_word ((signed s m (i - min i j).toNat + signed (!t) n (j - min i j).toNat).natAbs) (min i j)
  have s1 : Ieee.double.sub x u = some (Ieee.double.word g1 r) := by
    unfold Format.sub
    rw [rx, ru]
    simp only [Datum.opposite]
    rw [e1, ← hw g1]
    rfl
  have s2 : Ieee.double.sub u x = some (Ieee.double.word g2 r) := by
    unfold Format.sub
    rw [rx, ru]
    simp only [Datum.opposite]
    rw [e2, ← hw g2]
    rfl
  unfold sq
  rw [s1, s2]
  exact mul_self_word g1 g2 hr

theorem pow_le {p q : Nat} (h : p ≤ q) : 2 ^ p ≤ 2 ^ q := Nat.pow_le_pow_right (by decide) h

theorem sq_of {sd rc S R cw nw C1 C N x y a b i j : Nat} (E : Env sd rc S R) (G : Grid S R cw nw C1 C N) (px : Pt S C x a i) (py : Pt S C y b j) :
    ∃ d p K2, Ieee.double.sub x y = some d ∧ Ieee.double.mul d d = some p ∧ Fin p false K2 ∧ K2 ≤ 2 ^ 1900 ∧ (j + 2 ≤ i ∨ i + 2 ≤ j → N < K2) := by
  obtain ⟨s, fx, vx⟩ := val_pt px
  obtain ⟨t, fy, vy⟩ := val_pt py
  have ha := Nat.le_trans px.le E.hi
  have hb := Nat.le_trans py.le E.hi
  have hd : (neg1 s a - neg1 t b).natAbs ≤ 2 ^ 1407 := by
    rw [vx, vy]
    generalize 2 ^ 1407 = z at ha hb ⊢
    omega
  obtain ⟨d, K, sg, e1, fd, nd⟩ := sub_fin fx fy (Nat.le_trans hd (pow_le (by decide)))
  have hK : K ≤ 2 ^ 1407 := nd.le _ (rep_pow _) (by rw [Nat.mul_one]; exact hd)
  have hKK : K * K ≤ 2 ^ 1900 * 2 ^ 1074 := by
    refine Nat.le_trans (Nat.mul_le_mul hK hK) ?_
    rw [← Nat.pow_add, ← Nat.pow_add]
    exact pow_le (by decide)
  obtain ⟨p, K2, e2, fp, np⟩ := mul_fin fd fd (Nat.le_trans hKK (Nat.mul_le_mul_right _ (pow_le (by decide))))
  rw [Bool.xor_self] at fp
  refine ⟨d, p, K2, e1, e2, fp, np.le _ (rep_pow _) hKK, fun h => ?_⟩
  rw [vx, vy] at nd
  rcases h with h | h
  · have ab : b ≤ a := by
      rcases Nat.lt_or_ge a b with q | q
      · exfalso
        have := far_of G px py h (K := 0) (K2 := 0) ⟨rep_zero, fun t _ ht => by omega, fun t _ _ => Nat.zero_le _⟩ ⟨rep_zero, fun t _ ht => by
          rw [Nat.zero_mul] at ht
          rcases Nat.eq_zero_or_pos t with z | z
          · omega
          · have := Nat.mul_pos z (Nat.two_pow_pos 1074); omega, fun t _ _ => Nat.zero_le _⟩
        omega
      · exact q
    rw [show ((a : Int) - b).natAbs = a - b by omega] at nd
    exact far_of G px py h nd np
  · have ab : a ≤ b := by
      rcases Nat.lt_or_ge b a with q | q
      · exfalso
        have := far_of G py px h (K := 0) (K2 := 0) ⟨rep_zero, fun t _ ht => by omega, fun t _ _ => Nat.zero_le _⟩ ⟨rep_zero, fun t _ ht => by
          rw [Nat.zero_mul] at ht
          rcases Nat.eq_zero_or_pos t with z | z
          · omega
          · have := Nat.mul_pos z (Nat.two_pow_pos 1074); omega, fun t _ _ => Nat.zero_le _⟩
        omega
      · exact q
    rw [show ((a : Int) - b).natAbs = b - a by omega] at nd
    exact far_of G py px h nd np

/-- The square of the distance of two points, and how it compares. -/
theorem dist_of {sd rc S R cw nw C1 C N x y a b i j x' y' a' b' i' j' : Nat} (E : Env sd rc S R) (G : Grid S R cw nw C1 C N) (px : Pt S C x a i) (py : Pt S C y b j) (px' : Pt S C x' a' i') (py' : Pt S C y' b' j') :
    ∃ dx dy p q t, Ieee.double.sub x x' = some dx ∧ Ieee.double.sub y y' = some dy ∧ Ieee.double.mul dx dx = some p ∧ Ieee.double.mul dy dy = some q ∧ Ieee.double.add p q = some t ∧ (Ieee.double.order t nw).isSome = true
      ∧ (i' + 2 ≤ i ∨ i + 2 ≤ i' ∨ j' + 2 ≤ j ∨ j + 2 ≤ j' → Ieee.double.order t nw = some .gt) := by
  obtain ⟨dx, p, P, d1, m1, f1, l1, g1⟩ := sq_of E G px px'
  obtain ⟨dy, q, Q, d2, m2, f2, l2, g2⟩ := sq_of E G py py'
  have hs : P + Q ≤ 2 ^ 2000 := by
    have h1 : (2 : Nat) ^ 1901 ≤ 2 ^ 2000 := pow_le (by decide)
    have h2 : (2 : Nat) ^ 1901 = 2 ^ 1900 * 2 := Nat.pow_succ ..
    generalize 2 ^ 1900 = z at l1 l2 h2
    omega
  obtain ⟨t, T, ad, ft, nt⟩ := add_fin f1 f2 hs
  have o : Ieee.double.order t nw = some (compare (T : Int) (N : Int)) := by
    rw [order_eq, ft.key, G.near.key]; rfl
  refine ⟨dx, dy, p, q, t, d1, d2, m1, m2, ad, by rw [o]; rfl, fun h => ?_⟩
  have tp : P ≤ T := nt.ge _ (fin_rep f1) (by omega)
  have tq : Q ≤ T := nt.ge _ (fin_rep f2) (by omega)
  have : N < T := by
    rcases h with h | h | h | h
    · have := g1 (.inl h); omega
    · have := g1 (.inr h); omega
    · have := g2 (.inl h); omega
    · have := g2 (.inr h); omega
  rw [o, compare_int, if_neg (by omega), if_neg (by omega)]
end Go.Proofs.Qxb6600854a.Fl
