/-
  Plain laws of binary64 words, no Go in sight.
-/
import Derived.Laws.FloatArith
namespace Go.Proofs.Ybulkcdzs.Flo
open Ieee

theorem fbin : Ieee.double.binade = 4503599627370496 := rfl
theorem finf : Ieee.double.infRung = 9218868437227405312 := rfl
theorem fsgn : Ieee.double.signWeight = 9223372036854775808 := rfl
theorem flp : Ieee.double.leastPlace = -1074 := rfl
theorem ffb : Ieee.double.fractionBits = 52 := rfl

/-- the binade's place above the least -/
def kk (a : Nat) : Nat := a / 4503599627370496 - 1
/-- the whole significand -/
def mg (a : Nat) : Nat := a - kk a * 4503599627370496

theorem mg_lt (a : Nat) : mg a < 9007199254740992 := by unfold mg kk; omega
theorem mg_ge (a : Nat) (h : 1 ≤ kk a) : 4503599627370496 ≤ mg a := by unfold mg kk at *; omega
theorem mg_kk (a : Nat) : kk a * 4503599627370496 + mg a = a := by unfold mg kk at *; omega

theorem read_pos (a : Nat) (h : a < 9218868437227405312) : Ieee.double.read a = .number false (mg a) (-1074 + (kk a : Nat)) := by
  unfold Format.read
  rw [fbin, finf, fsgn, flp]
  dsimp only
  have e1 : (a / 9223372036854775808 % 2 == 1) = false := by
    have : a / 9223372036854775808 = 0 := by omega
    rw [this]; rfl
  have e2 : a % 9223372036854775808 = a := by omega
  rw [e1, e2]
  by_cases hs : a < 4503599627370496
  · rw [if_pos hs]
    have e3 : kk a = 0 := by unfold kk; omega
    have e4 : mg a = a := by unfold mg; rw [e3]; omega
    rw [e3, e4]; rfl
  · rw [if_neg hs, if_pos h]
    have e4 : mg a = 4503599627370496 + a % 4503599627370496 := by unfold mg kk; omega
    rw [e4]; rfl

theorem read_neg (a : Nat) (h : a < 9218868437227405312) : Ieee.double.read (9223372036854775808 + a) = .number true (mg a) (-1074 + (kk a : Nat)) := by
  unfold Format.read
  rw [fbin, finf, fsgn, flp]
  dsimp only
  have e1 : ((9223372036854775808 + a) / 9223372036854775808 % 2 == 1) = true := by
    have : (9223372036854775808 + a) / 9223372036854775808 = 1 := by omega
    rw [this]; rfl
  have e2 : (9223372036854775808 + a) % 9223372036854775808 = a := by omega
  rw [e1, e2]
  by_cases hs : a < 4503599627370496
  · rw [if_pos hs]
    have e3 : kk a = 0 := by unfold kk; omega
    have e4 : mg a = a := by unfold mg; rw [e3]; omega
    rw [e3, e4]; rfl
  · rw [if_neg hs, if_pos h]
    have e4 : mg a = 4503599627370496 + a % 4503599627370496 := by unfold mg kk; omega
    rw [e4]; rfl

/-- neither a number's word: an infinity or a NaN -/
theorem read_big (s : Nat) (h : 9218868437227405312 ≤ s % 9223372036854775808) :
    (∃ n, Ieee.double.read s = .infinity n ∧ s % 9223372036854775808 = 9218868437227405312) ∨ (∃ n f, Ieee.double.read s = .nan n f) := by
  unfold Format.read
  rw [fbin, finf, fsgn, flp]
  dsimp only
  rw [if_neg (by omega), if_neg (by omega)]
  by_cases he : s % 9223372036854775808 = 9218868437227405312
  · rw [if_pos he]; exact .inl ⟨_, rfl, he⟩
  · rw [if_neg he]; exact .inr ⟨_, _, rfl⟩

theorem val_lt {a b : Nat} (h : a < b) : mg a * 2 ^ kk a < mg b * 2 ^ kk b := by
  have hk : kk a ≤ kk b := by unfold kk; omega
  by_cases he : kk a = kk b
  · have := mg_kk a; have := mg_kk b; rw [he] at *
    exact Nat.mul_lt_mul_of_pos_right (by omega) (Nat.two_pow_pos _)
  · obtain ⟨d, hd⟩ : ∃ d, kk b = kk a + 1 + d := ⟨kk b - kk a - 1, by omega⟩
    have h1 := mg_lt a
    have h2 := mg_ge b (by omega)
    calc mg a * 2 ^ kk a < 9007199254740992 * 2 ^ kk a := Nat.mul_lt_mul_of_pos_right h1 (Nat.two_pow_pos _)
      _ = 4503599627370496 * 2 ^ (kk a + 1) := by rw [Nat.pow_succ]; omega
      _ ≤ 4503599627370496 * 2 ^ (kk a + 1 + d) := Nat.mul_le_mul_left _ (Nat.pow_le_pow_right (by omega) (by omega))
      _ ≤ mg b * 2 ^ kk b := by rw [hd]; exact Nat.mul_le_mul_right _ h2

theorem icmp_lt {x y : Int} (h : x < y) : compare x y = .lt := by
  show compareOfLessAndEq x y = .lt
  unfold compareOfLessAndEq; rw [if_pos h]
theorem icmp_gt {x y : Int} (h : y < x) : compare x y = .gt := by
  show compareOfLessAndEq x y = .gt
  unfold compareOfLessAndEq; rw [if_neg (by omega), if_neg (by omega)]
theorem icmp_eq (x : Int) : compare x x = .eq := by
  show compareOfLessAndEq x x = .eq
  unfold compareOfLessAndEq; rw [if_neg (by omega), if_pos rfl]

theorem scale (m i b : Nat) (h : b ≤ i) : m * 2 ^ i = (m <<< (i - b)) * 2 ^ b := by
  rw [Nat.shiftLeft_eq, Nat.mul_assoc, ← Nat.pow_add]
  congr 2; omega

theorem order_pos (a b : Nat) (ha : a < 9218868437227405312) (hb : b < 9218868437227405312) :
    FloatKind.f64.format.order a b = some (compare a b) := by
  show Ieee.double.order a b = _
  unfold Format.order
  rw [read_pos a ha, read_pos b hb]
  simp only [Datum.order]
  have e1 : (-1074 + (kk a : Int) - min (-1074 + (kk a : Int)) (-1074 + (kk b : Int))).toNat = kk a - min (kk a) (kk b) := by omega
  have e2 : (-1074 + (kk b : Int) - min (-1074 + (kk a : Int)) (-1074 + (kk b : Int))).toNat = kk b - min (kk a) (kk b) := by omega
  rw [e1, e2]
  simp only [signed, Bool.false_eq_true, if_false]
  have s1 := scale (mg a) (kk a) (min (kk a) (kk b)) (Nat.min_le_left _ _)
  have s2 := scale (mg b) (kk b) (min (kk a) (kk b)) (Nat.min_le_right _ _)
  generalize mg a <<< (kk a - min (kk a) (kk b)) = x at *
  generalize mg b <<< (kk b - min (kk a) (kk b)) = y at *
  have hp : 0 < 2 ^ (min (kk a) (kk b)) := Nat.two_pow_pos _
  congr 1
  rcases Nat.lt_trichotomy a b with h | h | h
  · have hv := val_lt h
    rw [s1, s2] at hv
    have hx : x < y := Nat.lt_of_mul_lt_mul_right hv
    rw [Nat.compare_eq_lt.2 h, icmp_lt (by omega)]
  · subst h
    have hx : x = y := by
      have : x * 2 ^ min (kk a) (kk a) = y * 2 ^ min (kk a) (kk a) := by rw [← s1, ← s2]
      exact Nat.eq_of_mul_eq_mul_right hp this
    rw [hx]; simp
  · have hv := val_lt h
    rw [s1, s2] at hv
    have hx : y < x := Nat.lt_of_mul_lt_mul_right hv
    rw [Nat.compare_eq_gt.2 h, icmp_gt (by omega)]

theorem read_inf (s : Bool) : Ieee.double.read (Ieee.double.word s 9218868437227405312) = .infinity s := by
  cases s <;> decide +kernel

theorem read_nan (x : Nat) (h : 9218868437227405312 < x % 9223372036854775808) : ∃ n f, Ieee.double.read x = .nan n f := by
  rcases read_big x (by omega) with ⟨n, _, h'⟩ | h'
  · omega
  · exact h'

/-- what the test 'x != x' gives -/
theorem neq_self (x : Nat) (hx : x < 18446744073709551616) : (FloatKind.f64.format.order x x != some .eq) = decide (9218868437227405312 < x % 9223372036854775808) := by
  show (Ieee.double.order x x != some .eq) = _
  unfold Format.order
  by_cases h : 9218868437227405312 < x % 9223372036854775808
  · obtain ⟨n, f, e⟩ := read_nan x h
    rw [e]; simp [Datum.order, h]
  · by_cases h2 : x % 9223372036854775808 = 9218868437227405312
    · rcases read_big x (by omega) with ⟨n, e, _⟩ | ⟨n, f, e⟩
      · rw [e]; simp [Datum.order, h]
      · exfalso
        unfold Format.read at e
        rw [fbin, finf, fsgn, flp] at e
        dsimp only at e
        rw [if_neg (by omega), if_neg (by omega), if_pos h2] at e
        cases e
    · by_cases h3 : x < 9223372036854775808
      · rw [read_pos x (by omega)]; simp [Datum.order]; omega
      · obtain ⟨a, rfl⟩ : ∃ a, x = 9223372036854775808 + a := ⟨x - 9223372036854775808, by omega⟩
        rw [read_neg a (by omega)]; simp [Datum.order]; omega

/-- what the test '|x| > MaxFloat64' gives -/
theorem gt_max (a : Nat) (ha : a < 9223372036854775808) : (FloatKind.f64.format.order a 9218868437227405311 == some .gt) = decide (a = 9218868437227405312) := by
  by_cases h : a < 9218868437227405312
  · rw [order_pos a _ h (by omega)]
    have : compare a 9218868437227405311 ≠ .gt := by
      rw [Ne, Nat.compare_eq_gt]; omega
    have h' : ¬ a = 9218868437227405312 := by omega
    simp [h', this]
  · show (Ieee.double.order a 9218868437227405311 == some .gt) = _
    unfold Format.order
    rw [read_pos 9218868437227405311 (by omega)]
    by_cases h2 : a = 9218868437227405312
    · subst h2
      have e := read_inf false
      have e' : Ieee.double.word false 9218868437227405312 = 9218868437227405312 := rfl
      rw [e'] at e
      rw [e]; simp [Datum.order]
    · obtain ⟨n, f, e⟩ := read_nan a (by omega)
      rw [e]; simp [Datum.order, h2]

/-- 'x < 0' of a negative number -/
theorem neg_lt0 (a : Nat) (h : a < 9218868437227405312) (h0 : 0 < a) : FloatKind.f64.format.order (9223372036854775808 + a) 0 = some .lt := by
  show Ieee.double.order _ _ = _
  unfold Format.order
  rw [read_neg a h, read_pos 0 (by omega)]
  simp only [Datum.order]
  have hm : 0 < mg a := by have := mg_kk a; unfold mg kk at *; omega
  have e0 : mg 0 = 0 := rfl
  rw [e0]
  congr 1
  apply icmp_lt
  simp only [signed, if_true, Bool.false_eq_true, if_false, Nat.shiftLeft_eq]
  have : 0 < mg a * 2 ^ (-1074 + (kk a : Int) - min (-1074 + (kk a : Int)) (-1074 + (kk 0 : Int))).toNat := Nat.mul_pos hm (Nat.two_pow_pos _)
  omega

/-- -0 beside a number that is not negative -/
theorem negz (b : Nat) (hb : b < 9218868437227405312) : FloatKind.f64.format.order 9223372036854775808 b = some (compare 0 b) := by
  have := order_pos 0 b (by omega) hb
  rw [← this]
  show Ieee.double.order (9223372036854775808 + 0) b = Ieee.double.order 0 b
  unfold Format.order
  rw [read_neg 0 (by omega), read_pos 0 (by omega), read_pos b hb]
  have e0 : mg 0 = 0 := rfl
  simp [Datum.order, signed, e0]

theorem cut_whole (n : Nat) : Toward.even.cut false n 0 = n := by
  unfold Toward.cut
  simp [Nat.mod_one]

theorem pow_le (B m j : Nat) (h : m * 2 ^ j < 2 * B) : m * 2 ^ j ≤ j * B + m := by
  induction j with
  | zero => rw [Nat.pow_zero, Nat.mul_one]; exact Nat.le_add_left _ _
  | succ j ih =>
    have e : m * 2 ^ (j + 1) = m * 2 ^ j * 2 := by rw [Nat.pow_succ, Nat.mul_assoc]
    rw [e] at h ⊢
    generalize m * 2 ^ j = q at *
    have := ih (by omega)
    have e2 : (j + 1) * B = j * B + B := Nat.succ_mul _ _
    rw [e2]
    generalize j * B = z at *
    omega
theorem fin_le (k j q m B I : Nat) (h4 : j ≤ k) (hp : q ≤ j * B + m) : min ((k - j) * B + q) I ≤ k * B + m := by
  have e : (k - j) * B + j * B = k * B := by rw [← Nat.add_mul]; congr 1; omega
  generalize (k - j) * B = x at *
  generalize j * B = y at *
  generalize k * B = z at *
  omega
theorem near_le (m k : Nat) (hm : m < 9007199254740992) : Ieee.double.nearest false m (-1074 + (k : Int)) ≤ k * 4503599627370496 + m := by
  unfold Format.nearest
  by_cases h0 : m = 0
  · rw [if_pos h0]; simp only [Format.word, Bool.false_eq_true, if_false]
    exact Nat.zero_le _
  rw [if_neg h0]
  dsimp only
  rw [ffb, flp, fbin, finf]
  have hL : m.log2 ≤ 52 := by
    have := (Nat.log2_lt h0 (k := 53)).2 (by omega)
    omega
  have hL2 : m < 2 ^ (m.log2 + 1) := Nat.lt_log2_self
  generalize m.log2 = L at *
  have hj2 : (max (-1074 + (k : Int) + (L : Int) - (52 : Nat)) (-1074) - (-1074 + (k : Int))).toNat = 0 := by omega
  obtain ⟨j, hj1⟩ : ∃ j : Nat, (-1074 + (k : Int) - max (-1074 + (k : Int) + (L : Int) - (52 : Nat)) (-1074)).toNat = j := ⟨_, rfl⟩
  have hj3 : (max (-1074 + (k : Int) + (L : Int) - (52 : Nat)) (-1074) - (-1074)).toNat = k - j ∧ j ≤ k ∧ j ≤ 52 - L := by omega
  obtain ⟨hj3, hj4, hj5⟩ := hj3
  rw [hj1, hj2, hj3, cut_whole, Nat.shiftLeft_eq]
  have hb : m * 2 ^ j < 9007199254740992 := by
    have h1 : m * 2 ^ j < 2 ^ (L + 1) * 2 ^ j := Nat.mul_lt_mul_of_pos_right hL2 (Nat.two_pow_pos _)
    rw [← Nat.pow_add] at h1
    have h2 : 2 ^ (L + 1 + j) ≤ 2 ^ 53 := Nat.pow_le_pow_right (by omega) (by omega)
    generalize 2 ^ (L + 1 + j) = z at *
    omega
  have hp := pow_le 4503599627370496 m j (by omega)
  simp only [Format.word, Bool.false_eq_true, if_false]
  exact fin_le k j _ m _ _ hj4 hp

end Go.Proofs.Ybulkcdzs.Flo
