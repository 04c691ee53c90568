import Derived.Test.YbulkcdzsFlo2
namespace Go.Proofs.Ybulkcdzs.Flo
open Ieee

theorem cut_drop (s : Bool) (q j d : Nat) (hq : q ≠ 0) (hd : d ≤ j) : Toward.even.cut s (q * 2 ^ j) d = q * 2 ^ (j - d) := by
  have hl : (q * 2 ^ j).log2 = q.log2 + j := by
    rw [Nat.log2_eq_iff (Nat.mul_ne_zero hq (Nat.ne_of_gt (Nat.two_pow_pos _)))]
    have h1 := Nat.log2_self_le hq
    have h2 : q < 2 ^ (q.log2 + 1) := Nat.lt_log2_self
    constructor
    · rw [Nat.pow_add]; exact Nat.mul_le_mul_right _ h1
    · rw [show q.log2 + j + 1 = (q.log2 + 1) + j by omega, Nat.pow_add]; exact Nat.mul_lt_mul_of_pos_right h2 (Nat.two_pow_pos _)
  unfold Toward.cut
  rw [hl]
  have hm : min d (q.log2 + j + 2) = d := by omega
  rw [hm]
  dsimp only
  have e1 : 1 <<< d = 2 ^ d := by rw [Nat.shiftLeft_eq, Nat.one_mul]
  rw [e1]
  have e2 : q * 2 ^ j = q * 2 ^ (j - d) * 2 ^ d := by rw [Nat.mul_assoc, ← Nat.pow_add]; congr 2; omega
  have hp : 0 < 2 ^ d := Nat.two_pow_pos _
  rw [e2, Nat.mul_div_cancel _ hp, Nat.mul_mod_left, Nat.mul_zero]
  have e3 : decide (2 ^ d < 0) = false := by simp
  have e4 : (2 ^ d == 0) = false := by rw [beq_eq_false_iff_ne]; omega
  rw [e3, e4, Bool.false_and, Bool.or_false, Bool.toNat_false, Nat.add_zero]

theorem log_mul (q j : Nat) (hq : q ≠ 0) : (q * 2 ^ j).log2 = q.log2 + j := by
  rw [Nat.log2_eq_iff (Nat.mul_ne_zero hq (Nat.ne_of_gt (Nat.two_pow_pos _)))]
  have h1 := Nat.log2_self_le hq
  have h2 : q < 2 ^ (q.log2 + 1) := Nat.lt_log2_self
  constructor
  · rw [Nat.pow_add]; exact Nat.mul_le_mul_right _ h1
  · rw [show q.log2 + j + 1 = (q.log2 + 1) + j by omega, Nat.pow_add]; exact Nat.mul_lt_mul_of_pos_right h2 (Nat.two_pow_pos _)

theorem top_lt (q L : Nat) (h : q < 2 ^ (L + 1)) (hL : L ≤ 52) : q * 2 ^ (52 - L) < 2 ^ 53 := by
  calc q * 2 ^ (52 - L) < 2 ^ (L + 1) * 2 ^ (52 - L) := Nat.mul_lt_mul_of_pos_right h (Nat.two_pow_pos _)
    _ = 2 ^ 53 := by rw [← Nat.pow_add]; congr 1; omega
theorem top_ge (q L : Nat) (h : 2 ^ L ≤ q) (hL : L ≤ 52) : 2 ^ 52 ≤ q * 2 ^ (52 - L) := by
  calc 2 ^ 52 = 2 ^ L * 2 ^ (52 - L) := by rw [← Nat.pow_add]; congr 1; omega
    _ ≤ q * 2 ^ (52 - L) := Nat.mul_le_mul_right _ h

theorem min_lem (u t : Nat) (hu : u ≤ 1174) (ht : t < 2 ^ 53) : min (u * 4503599627370496 + t) 9218868437227405312 = u * 4503599627370496 + t := by
  have h : u * 4503599627370496 + t ≤ 9218868437227405312 := by omega
  rw [Nat.min_eq_left h]
/-- a whole number of at most 53 digits times a power of two that lies well inside the format: where it comes to lie, however it is written -/
theorem near_at (s : Bool) (q j : Nat) (p : Int) (hq : q ≠ 0) (hL : q.log2 ≤ 52) (hp1 : -900 ≤ p) (hp2 : p ≤ 100) :
    Ieee.double.nearest s (q * 2 ^ j) (p - j) = Ieee.double.word s ((p + q.log2 + 1022).toNat * 4503599627370496 + q * 2 ^ (52 - q.log2)) := by
  have hne : q * 2 ^ j ≠ 0 := Nat.mul_ne_zero hq (Nat.ne_of_gt (Nat.two_pow_pos _))
  unfold Format.nearest
  rw [if_neg hne]
  dsimp only
  rw [log_mul q j hq, ffb, flp, fbin, finf]
  have h2 : q < 2 ^ (q.log2 + 1) := Nat.lt_log2_self
  have ht := top_lt q q.log2 h2 hL
  generalize q.log2 = L at *
  have e1 : max (p - (j : Int) + ((L + j : Nat) : Int) - ((52 : Nat) : Int)) (-1074) = p + L - 52 := by omega
  rw [e1]
  have e2 : (p + (L : Int) - 52 - -1074).toNat = (p + (L : Int) + 1022).toNat := by omega
  rw [e2]
  have hk : Toward.even.cut s ((q * 2 ^ j) <<< (p - (j : Int) - (p + (L : Int) - 52)).toNat) (p + (L : Int) - 52 - (p - (j : Int))).toNat = q * 2 ^ (52 - L) := by
    rw [Nat.shiftLeft_eq, Nat.mul_assoc, ← Nat.pow_add, cut_drop s q _ _ hq (by omega)]
    congr 2; omega
  rw [hk]
  rw [min_lem _ _ (by omega) ht]

/-- the word of q / 4 -/
def F (q : Int) : Nat := Ieee.double.nearest (decide (q < 0)) q.natAbs (-2)

theorem log52 {n : Nat} (h0 : n ≠ 0) (h : n < 9007199254740992) : n.log2 ≤ 52 := by
  have := (Nat.log2_lt h0 (k := 53)).2 (by omega)
  omega

theorem F_zero : F 0 = 0 := by decide +kernel

theorem F_eq (q : Int) (h0 : q ≠ 0) (h : q.natAbs < 9007199254740992) : F q = Ieee.double.word (decide (q < 0)) ((q.natAbs.log2 + 1020) * 4503599627370496 + q.natAbs * 2 ^ (52 - q.natAbs.log2)) := by
  unfold F
  have := near_at (decide (q < 0)) q.natAbs 0 (-2) (by omega) (log52 (by omega) h) (by omega) (by omega)
  rw [Nat.pow_zero, Nat.mul_one] at this
  have e : (-2 : Int) - ((0 : Nat) : Int) = -2 := by omega
  rw [e] at this
  rw [this]
  have e2 : (-2 + (q.natAbs.log2 : Int) + 1022).toNat = q.natAbs.log2 + 1020 := by omega
  rw [e2]

/-- the same number written otherwise -/
theorem F_of (s : Bool) (q : Int) (j : Nat) (p : Int) (hs : s = decide (q < 0)) (hp : p = -2 - j) (h0 : q ≠ 0) (h : q.natAbs < 9007199254740992) : Ieee.double.nearest s (q.natAbs * 2 ^ j) p = F q := by
  subst hs; subst hp
  rw [F_eq q h0 h, near_at _ _ _ _ (by omega) (log52 (by omega) h) (by omega) (by omega)]
  have e2 : (-2 + (q.natAbs.log2 : Int) + 1022).toNat = q.natAbs.log2 + 1020 := by omega
  rw [e2]

theorem F_int (n : Int) (h : n.natAbs < 1073741824) : floatOfInt .f64 n = F (4 * n) := by
  show Ieee.double.nearest (decide (n < 0)) n.natAbs 0 = _
  by_cases h0 : n = 0
  · subst h0; decide +kernel
  have hn : n.natAbs ≠ 0 := by omega
  have hL := log52 hn (by omega)
  have a := near_at (decide (n < 0)) n.natAbs 0 0 hn hL (by omega) (by omega)
  have b := near_at (decide (n < 0)) n.natAbs 2 0 hn hL (by omega) (by omega)
  rw [Nat.pow_zero, Nat.mul_one] at a
  have e0 : (0 : Int) - ((0 : Nat) : Int) = 0 := by omega
  rw [e0] at a
  rw [a, ← b]
  unfold F
  have e1 : decide (4 * n < 0) = decide (n < 0) := by
    rw [decide_eq_decide]; omega
  have e2 : (4 * n).natAbs = n.natAbs * 2 ^ 2 := by omega
  rw [e1, e2]; rfl

theorem word_pos (r : Nat) : Ieee.double.word false r = r := rfl
theorem word_neg (r : Nat) : Ieee.double.word true r = 9223372036854775808 + r := rfl

/-- what F q reads as -/
theorem read_F (q : Int) (h0 : q ≠ 0) (h : q.natAbs < 9007199254740992) :
    Ieee.double.read (F q) = .number (decide (q < 0)) (q.natAbs * 2 ^ (52 - q.natAbs.log2)) (-1074 + ((q.natAbs.log2 + 1020 : Nat) : Int)) := by
  rw [F_eq q h0 h]
  have hL := log52 (n := q.natAbs) (by omega) h
  have t1 := top_lt q.natAbs q.natAbs.log2 Nat.lt_log2_self hL
  have t2 := top_ge q.natAbs q.natAbs.log2 (Nat.log2_self_le (by omega)) hL
  generalize q.natAbs * 2 ^ (52 - q.natAbs.log2) = t at *
  generalize q.natAbs.log2 = L at *
  have hk : kk ((L + 1020) * 4503599627370496 + t) = L + 1020 := by unfold kk; omega
  have hm : mg ((L + 1020) * 4503599627370496 + t) = t := by unfold mg; rw [hk]; omega
  cases decide (q < 0)
  · rw [word_pos, read_pos _ (by omega), hk, hm]
  · rw [word_neg, read_neg _ (by omega), hk, hm]

theorem signed_scale (s : Bool) (m a c : Nat) (h : c ≤ a) : signed s m (a - c) * 2 ^ c = signed s m a := by
  have e : m * 2 ^ (a - c) * 2 ^ c = m * 2 ^ a := by rw [Nat.mul_assoc, ← Nat.pow_add]; congr 2; omega
  have e' : ((m * 2 ^ (a - c) : Nat) : Int) * ((2 ^ c : Nat) : Int) = ((m * 2 ^ a : Nat) : Int) := by rw [← Int.natCast_mul, e]
  have e2 : ((2 : Int)) ^ c = ((2 ^ c : Nat) : Int) := by simp
  unfold signed
  rw [Nat.shiftLeft_eq, Nat.shiftLeft_eq, e2]
  cases s
  · simp only [Bool.false_eq_true, if_false]; exact e'
  · simp only [if_true]; rw [Int.neg_mul, e']

/-- where q / 4 lies above the least place -/
def E : Nat := 1072
theorem E_eq : E = 1072 := rfl
theorem signed_F (q : Int) (h : q.natAbs < 9007199254740992) (h0 : q ≠ 0) : signed (decide (q < 0)) (q.natAbs * 2 ^ (52 - q.natAbs.log2)) (q.natAbs.log2 + 1020) = q * 2 ^ E := by
  have hL := log52 (n := q.natAbs) (by omega) h
  have e : q.natAbs * 2 ^ (52 - q.natAbs.log2) * 2 ^ (q.natAbs.log2 + 1020) = q.natAbs * 2 ^ E := by rw [Nat.mul_assoc, ← Nat.pow_add, show 52 - q.natAbs.log2 + (q.natAbs.log2 + 1020) = E by rw [E_eq]; omega]
  unfold signed
  rw [Nat.shiftLeft_eq, e]
  have e2 : ((2 : Int)) ^ E = ((2 ^ E : Nat) : Int) := by simp
  rw [e2]
  generalize (2 : Nat) ^ 1072 = z
  by_cases hq : q < 0
  · simp only [hq, decide_true, if_true]; rw [Int.natCast_mul, ← Int.neg_mul, show -(q.natAbs : Int) = q by omega]
  · simp only [hq, decide_false, Bool.false_eq_true, if_false]; rw [Int.natCast_mul, show (q.natAbs : Int) = q by omega]

/-- what F q reads as, zero too: a sign, a whole number, a place, and the number that they make -/
theorem read_Fz (q : Int) (h : q.natAbs < 9007199254740992) :
    ∃ m a : Nat, Ieee.double.read (F q) = .number (decide (q < 0)) m (-1074 + (a : Int)) ∧ a ≤ E ∧ signed (decide (q < 0)) m a = q * 2 ^ E := by
  by_cases h0 : q = 0
  · subst h0
    refine ⟨0, 0, ?_, Nat.zero_le _, ?_⟩
    · rw [F_zero]; decide +kernel
    · rw [Int.zero_mul]; decide
  · exact ⟨_, _, read_F q h0 h, by have := log52 (n := q.natAbs) (by omega) h; rw [E_eq]; omega, signed_F q h h0⟩

theorem pow_split (c : Nat) (h : c ≤ E) : ((2 : Int)) ^ E = 2 ^ (E - c) * 2 ^ c := by
  rw [← Int.pow_add]; congr 1; omega

theorem scaled (X q : Int) (c : Nat) (h : c ≤ E) (e : X * 2 ^ c = q * 2 ^ E) : X = q * 2 ^ (E - c) := by
  rw [pow_split c h, ← Int.mul_assoc] at e
  exact Int.eq_of_mul_eq_mul_right (Int.pow_ne_zero (by omega)) e

theorem pow_pos' (j : Nat) : (0 : Int) < 2 ^ j := Int.pow_pos (by omega)

/-- the sum of two such numbers, made anew -/
theorem sum_F (s t : Bool) (m n a b : Nat) (x y : Int) (ha : a ≤ E) (hb : b ≤ E) (hx : signed s m a = x * 2 ^ E) (hy : signed t n b = y * 2 ^ E)
    (hz : x + y = 0 → (s && t) = false) (h : (x + y).natAbs < 9007199254740992) :
    (Datum.sum (.number s m (-1074 + (a : Int))) (.number t n (-1074 + (b : Int)))).map Ieee.double.write = some (F (x + y)) := by
  simp only [Datum.sum, Option.map_some, Format.write]
  have e1 : (-1074 + (a : Int) - min (-1074 + (a : Int)) (-1074 + (b : Int))).toNat = a - min a b := by omega
  have e2 : (-1074 + (b : Int) - min (-1074 + (a : Int)) (-1074 + (b : Int))).toNat = b - min a b := by omega
  have e3 : min (-1074 + (a : Int)) (-1074 + (b : Int)) = -2 - ((E - min a b : Nat) : Int) := by rw [E_eq] at *; omega
  have hc : min a b ≤ E := by omega
  have f1 := signed_scale s m a (min a b) (Nat.min_le_left _ _)
  have f2 := signed_scale t n b (min a b) (Nat.min_le_right _ _)
  rw [hx] at f1
  rw [hy] at f2
  have g1 := scaled _ _ _ hc f1
  have g2 := scaled _ _ _ hc f2
  rw [e1, e2, e3, g1, g2, ← Int.add_mul]
  generalize E - min a b = j
  have hp := pow_pos' j
  by_cases h0 : x + y = 0
  · rw [h0, Int.zero_mul, if_pos rfl, hz h0, F_zero]
    unfold Format.nearest
    rw [if_pos (by decide)]; rfl
  · have hne : ¬ (x + y) * 2 ^ j = 0 := Int.mul_ne_zero h0 (by omega)
    rw [if_neg hne]
    have hs : decide ((x + y) * 2 ^ j < 0) = decide (x + y < 0) := by
      rw [decide_eq_decide]
      constructor
      · intro hh
        by_cases hq : x + y < 0
        · exact hq
        · have := Int.mul_nonneg (a := x + y) (b := 2 ^ j) (by omega) (by omega); omega
      · intro hq; exact Int.mul_neg_of_neg_of_pos hq hp
    have hn : ((x + y) * 2 ^ j).natAbs = (x + y).natAbs * 2 ^ j := by
      rw [Int.natAbs_mul, Int.natAbs_pow]; rfl
    rw [hs, hn, F_of _ (x + y) j _ rfl rfl h0 h]

theorem add_F (x y : Int) (hx : x.natAbs < 1099511627776) (hy : y.natAbs < 1099511627776) : FloatKind.f64.format.add (F x) (F y) = some (F (x + y)) := by
  show Ieee.double.add (F x) (F y) = _
  unfold Format.add
  obtain ⟨m, a, e1, ha, s1⟩ := read_Fz x (by omega)
  obtain ⟨n, b, e2, hb, s2⟩ := read_Fz y (by omega)
  rw [e1, e2]
  refine sum_F _ _ m n a b x y ha hb s1 s2 ?_ (by omega)
  intro h
  by_cases hx0 : x < 0
  · have : ¬ y < 0 := by omega
    simp [this]
  · simp [hx0]

theorem opp_signed (s : Bool) (n b : Nat) : signed (!s) n b = - signed s n b := by
  unfold signed; cases s <;> simp

theorem sub_F (x y : Int) (hx : x.natAbs < 1099511627776) (hy : y.natAbs < 1099511627776) : FloatKind.f64.format.sub (F x) (F y) = some (F (x - y)) := by
  show Ieee.double.sub (F x) (F y) = _
  unfold Format.sub
  obtain ⟨m, a, e1, ha, s1⟩ := read_Fz x (by omega)
  obtain ⟨n, b, e2, hb, s2⟩ := read_Fz y (by omega)
  rw [e1, e2]
  have := sum_F (decide (x < 0)) (!decide (y < 0)) m n a b x (-y) ha hb s1 (by rw [opp_signed, s2, Int.neg_mul]) ?_ (by omega)
  · exact this
  · intro h
    have : x = y := by omega
    subst this
    cases decide (x < 0) <;> rfl

theorem order_F (x y : Int) (hx : x.natAbs < 1099511627776) (hy : y.natAbs < 1099511627776) : FloatKind.f64.format.order (F x) (F y) = some (compare x y) := by
  show Ieee.double.order (F x) (F y) = _
  unfold Format.order
  obtain ⟨m, a, e1, ha, s1⟩ := read_Fz x (by omega)
  obtain ⟨n, b, e2, hb, s2⟩ := read_Fz y (by omega)
  rw [e1, e2]
  simp only [Datum.order]
  have e1 : (-1074 + (a : Int) - min (-1074 + (a : Int)) (-1074 + (b : Int))).toNat = a - min a b := by omega
  have e2 : (-1074 + (b : Int) - min (-1074 + (a : Int)) (-1074 + (b : Int))).toNat = b - min a b := by omega
  have hc : min a b ≤ E := by omega
  have f1 := signed_scale (decide (x < 0)) m a (min a b) (Nat.min_le_left _ _)
  have f2 := signed_scale (decide (y < 0)) n b (min a b) (Nat.min_le_right _ _)
  rw [s1] at f1
  rw [s2] at f2
  have g1 := scaled _ _ _ hc f1
  have g2 := scaled _ _ _ hc f2
  rw [e1, e2, g1, g2]
  generalize E - min a b = j
  have hp := pow_pos' j
  rcases Int.lt_trichotomy x y with h | h | h
  · rw [icmp_lt h, icmp_lt (Int.mul_lt_mul_of_pos_right h hp)]
  · subst h; rw [icmp_eq, icmp_eq]
  · rw [icmp_gt h, icmp_gt (Int.mul_lt_mul_of_pos_right h hp)]

theorem F_lt (q : Int) : F q < 18446744073709551616 := Ieee.double.nearest_lt _ _ _

theorem quo4 (m : Nat) (h1 : 2 ^ 52 ≤ m) (h2 : m < 2 ^ 53) (s : Bool) (i : Int) :
    (Datum.number s m i).quotient 54 (.number false 4503599627370496 (-50)) = some (.number s (m * 2 ^ 3) (i - 5)) := by
  simp only [Datum.quotient]
  rw [if_neg (by decide)]
  have hm : m.log2 = 52 := by rw [Nat.log2_eq_iff (by omega)]; exact ⟨h1, h2⟩
  have hn : Nat.log2 4503599627370496 = 52 := by decide +kernel
  rw [hm, hn, Nat.shiftLeft_eq]
  have e0 : 54 + 52 - 52 = 54 := rfl
  rw [e0]
  have e1 : m * 2 ^ 54 / 4503599627370496 = m * 4 := by omega
  have e2 : m * 2 ^ 54 % 4503599627370496 = 0 := by omega
  rw [e1, e2]
  have e3 : ((0 : Nat) != 0).toNat = 0 := rfl
  rw [e3, Bool.xor_false]
  have e4 : 2 * (m * 4) + 0 = m * 2 ^ 3 := by omega
  have e5 : i - -50 - ((54 : Nat) : Int) - 1 = i - 5 := by omega
  rw [e4, e5]

theorem div4_F (n : Int) (h : n.natAbs < 1073741824) : FloatKind.f64.format.div (F (4 * n)) 4616189618054758400 = some (F n) := by
  by_cases h0 : n = 0
  · subst h0; decide +kernel
  show Ieee.double.div (F (4 * n)) 4616189618054758400 = some (F n)
  unfold Format.div
  have r4 : Ieee.double.read 4616189618054758400 = .number false 4503599627370496 (-50) := by decide +kernel
  rw [r4, read_F (4 * n) (by omega) (by omega), ffb]
  have hn : (4 * n).natAbs = n.natAbs * 2 ^ 2 := by omega
  have hl : (4 * n).natAbs.log2 = n.natAbs.log2 + 2 := by rw [hn, log_mul _ _ (by omega)]
  have hL := log52 (n := n.natAbs) (by omega) (by omega)
  have hL' : n.natAbs.log2 < 30 := (Nat.log2_lt (by omega) (k := 30)).2 (by omega)
  have hs : decide (4 * n < 0) = decide (n < 0) := by rw [decide_eq_decide]; omega
  have hm : (4 * n).natAbs * 2 ^ (52 - (4 * n).natAbs.log2) = n.natAbs * 2 ^ (52 - n.natAbs.log2) := by
    rw [hl, hn, Nat.mul_assoc, ← Nat.pow_add]; congr 2; omega
  rw [hs, hm, hl]
  have t1 := top_lt n.natAbs n.natAbs.log2 Nat.lt_log2_self hL
  have t2 := top_ge n.natAbs n.natAbs.log2 (Nat.log2_self_le (by omega)) hL
  rw [quo4 _ t2 t1]
  simp only [Option.map_some, Format.write]
  rw [Nat.mul_assoc, ← Nat.pow_add]
  rw [F_of _ n (52 - n.natAbs.log2 + 3) _ rfl (by omega) h0 (by omega)]

theorem F_abs (q : Int) (h : q.natAbs < 1073741824) : F q % 9223372036854775808 = F q.natAbs := by
  by_cases h0 : q = 0
  · subst h0; decide +kernel
  rw [F_eq q h0 (by omega), F_eq (q.natAbs : Int) (by omega) (by omega)]
  have hL := log52 (n := q.natAbs) (by omega) (by omega)
  have t1 := top_lt q.natAbs q.natAbs.log2 Nat.lt_log2_self hL
  rw [Int.natAbs_natCast]
  have hd : decide ((q.natAbs : Int) < 0) = false := by simp
  rw [hd, word_pos]
  generalize q.natAbs * 2 ^ (52 - q.natAbs.log2) = t at *
  generalize q.natAbs.log2 = L at *
  cases decide (q < 0)
  · rw [word_pos]; omega
  · rw [word_neg]; omega

/-- the steps of the script: d / r in quarters -/
theorem div_F (d r : Int) (hd : -3 ≤ d ∧ d ≤ 3) (hr : r = 1 ∨ r = 2 ∨ r = 4) : FloatKind.f64.format.div (F (4 * d)) (F (4 * r)) = some (F (d * (4 / r))) := by
  have h : d = -3 ∨ d = -2 ∨ d = -1 ∨ d = 0 ∨ d = 1 ∨ d = 2 ∨ d = 3 := by omega
  rcases h with rfl | rfl | rfl | rfl | rfl | rfl | rfl <;> rcases hr with rfl | rfl | rfl <;> decide +kernel

theorem F_small (d : Int) (hd : -3 ≤ d ∧ d ≤ 3) : F (4 * d) % 9223372036854775808 ≤ 4614256656552045848 := by
  have h : d = -3 ∨ d = -2 ∨ d = -1 ∨ d = 0 ∨ d = 1 ∨ d = 2 ∨ d = 3 := by omega
  rcases h with rfl | rfl | rfl | rfl | rfl | rfl | rfl <;> decide +kernel
end Go.Proofs.Ybulkcdzs.Flo
