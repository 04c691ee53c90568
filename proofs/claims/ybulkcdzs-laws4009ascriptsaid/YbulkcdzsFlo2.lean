import Derived.Test.YbulkcdzsFlo
namespace Go.Proofs.Ybulkcdzs.Flo
open Ieee
theorem sub_step (r s : Nat) (hr : r < 9218868437227405312) (hs : s ≤ r) (hk : r < s + 4503599627370496) (h1 : 4503599627370496 ≤ s) :
    ∃ r', FloatKind.f64.format.sub r s = some r' ∧ r' < r := by
  show ∃ r', Ieee.double.sub r s = some r' ∧ r' < r
  unfold Format.sub
  rw [read_pos r hr, read_pos s (by omega)]
  simp only [Datum.opposite, Datum.sum, Option.map_some]
  refine ⟨_, rfl, ?_⟩
  have a1 := mg_kk r; have a2 := mg_kk s
  have b1 := mg_lt r; have b2 := mg_lt s
  have hkk : kk r = kk s ∨ kk r = kk s + 1 := by unfold kk; omega
  have c2 : 4503599627370496 ≤ mg s ∨ (kk s = 0 ∧ mg s = s) := by
    by_cases h : 1 ≤ kk s
    · exact .inl (mg_ge s h)
    · exact .inr ⟨by omega, by have : kk s = 0 := by omega
                               rw [this] at a2; omega⟩
  rcases hkk with e | e
  · have e1 : (-1074 + (kk r : Int) - min (-1074 + (kk r : Int)) (-1074 + (kk s : Int))).toNat = 0 := by omega
    have e2 : (-1074 + (kk s : Int) - min (-1074 + (kk r : Int)) (-1074 + (kk s : Int))).toNat = 0 := by omega
    have e3 : min (-1074 + (kk r : Int)) (-1074 + (kk s : Int)) = -1074 + (kk r : Int) := by omega
    rw [e1, e2, e3]
    simp only [signed, Bool.false_eq_true, if_false, Bool.not_false, if_true, Nat.shiftLeft_zero]
    have hz : (if (mg r : Int) + -(mg s : Int) = 0 then false && true else decide ((mg r : Int) + -(mg s : Int) < 0)) = false := by
      split
      · rfl
      · rw [e] at a1; simp; omega
    rw [hz]
    clear hz e1 e2 e3
    have hle : mg s ≤ mg r := by rw [e] at a1; omega
    have en : ((mg r : Int) + -(mg s : Int)).natAbs = mg r - mg s := by clear a1 a2 hr hs hk c2; omega
    rw [en]
    have := near_le (mg r - mg s) (kk r) (by omega)
    refine Nat.lt_of_le_of_lt this ?_
    rw [e] at a1 ⊢
    omega
  · have e1 : (-1074 + (kk r : Int) - min (-1074 + (kk r : Int)) (-1074 + (kk s : Int))).toNat = 1 := by omega
    have e2 : (-1074 + (kk s : Int) - min (-1074 + (kk r : Int)) (-1074 + (kk s : Int))).toNat = 0 := by omega
    have e3 : min (-1074 + (kk r : Int)) (-1074 + (kk s : Int)) = -1074 + (kk s : Int) := by omega
    have c1 := mg_ge r (by omega)
    rw [e] at a1
    rw [e1, e2, e3]
    simp only [signed, Bool.false_eq_true, if_false, Bool.not_false, if_true, Nat.shiftLeft_zero]
    have es : mg r <<< 1 = mg r * 2 := by rw [Nat.shiftLeft_eq]
    rw [es]
    have hz : (if ((mg r * 2 : Nat) : Int) + -(mg s : Int) = 0 then false && true else decide (((mg r * 2 : Nat) : Int) + -(mg s : Int) < 0)) = false := by
      split
      · rfl
      · simp; omega
    rw [hz]
    clear hz e1 e2 e3
    have hle : mg s ≤ mg r * 2 := by omega
    have en : (((mg r * 2 : Nat) : Int) + -(mg s : Int)).natAbs = mg r * 2 - mg s := by clear a1 a2 hr hs hk c2; omega
    rw [en]
    have := near_le (mg r * 2 - mg s) (kk s) (by omega)
    refine Nat.lt_of_le_of_lt this ?_
    omega

/-- neither NaN -/
def NotNaN (x : Nat) : Prop := ∀ n f, Ieee.double.read x ≠ .nan n f

theorem notNaN_pos (a : Nat) (h : a < 9218868437227405312) : NotNaN a := by
  intro n f; rw [read_pos a h]; exact fun h => nomatch h

theorem notNaN_word (s : Bool) (r : Nat) (h : r ≤ 9218868437227405312) : NotNaN (Ieee.double.word s r) := by
  intro n f
  have hm : Ieee.double.word s r % 9223372036854775808 = r := by
    unfold Format.word; rw [fsgn]; split <;> omega
  unfold Format.read
  rw [fbin, finf, fsgn, flp]
  dsimp only
  rw [hm]
  split
  · exact fun h => nomatch h
  · split
    · exact fun h => nomatch h
    · rw [if_pos (by omega)]; exact fun h => nomatch h

theorem notNaN_write (d : Datum) (h : ∀ n f, d ≠ .nan n f) : NotNaN (Ieee.double.write d) := by
  cases d with
  | number s m p =>
    simp only [Format.write, Format.nearest]
    split
    · exact notNaN_word s 0 (Nat.zero_le _)
    · exact notNaN_word s _ (by rw [finf]; exact Nat.min_le_right _ _)
  | infinity s => simp only [Format.write]; rw [finf]; exact notNaN_word s _ (Nat.le_refl _)
  | nan n f => exact absurd rfl (h n f)

theorem sub_notNaN (x y : Nat) (hx : NotNaN x) (hy : y < 9218868437227405312) : ∃ r, FloatKind.f64.format.sub x y = some r ∧ NotNaN r := by
  show ∃ r, Ieee.double.sub x y = some r ∧ NotNaN r
  unfold Format.sub
  rw [read_pos y hy]
  cases h : Ieee.double.read x with
  | number s m p =>
    simp only [Datum.opposite, Datum.sum, Option.map_some]
    exact ⟨_, rfl, notNaN_write _ (fun _ _ h => nomatch h)⟩
  | infinity s =>
    simp only [Datum.opposite, Datum.sum, Option.map_some]
    exact ⟨_, rfl, notNaN_write _ (fun _ _ h => nomatch h)⟩
  | nan n f => exact absurd h (hx n f)

/-- a step that is infinite or not a number -/
def Bad (s : Nat) : Prop := s < 18446744073709551616 ∧ 9218868437227405312 ≤ s % 9223372036854775808

theorem div_zero (r : Nat) : FloatKind.f64.format.div r 0 = none ∨ ∃ s, FloatKind.f64.format.div r 0 = some s ∧ Bad s := by
  show Ieee.double.div r 0 = none ∨ ∃ s, Ieee.double.div r 0 = some s ∧ Bad s
  unfold Format.div
  rw [read_pos 0 (by omega)]
  have e0 : mg 0 = 0 := rfl
  rw [e0]
  have hb : ∀ t, Bad (Ieee.double.write (.infinity t)) := by
    intro t; cases t <;> exact ⟨by decide +kernel, by decide +kernel⟩
  cases Ieee.double.read r with
  | number s m p =>
    simp only [Datum.quotient]
    by_cases hm : m = 0
    · left; rw [if_pos trivial, if_pos hm]; rfl
    · right; rw [if_pos trivial, if_neg hm]; exact ⟨_, rfl, hb _⟩
  | infinity s => right; simp only [Datum.quotient, Option.map_some]; exact ⟨_, rfl, hb _⟩
  | nan n f => left; rfl

theorem bad_nan (t : Nat) : Bad ((t % 2) * 2 ^ 63 + 0x7ff0000000000000 + 1 + (t / 2) % (2 ^ 52 - 1)) := by
  have h1 : (t / 2) % (2 ^ 52 - 1) < 2 ^ 52 - 1 := Nat.mod_lt _ (by decide)
  generalize (t / 2) % (2 ^ 52 - 1) = q at *
  unfold Bad
  rcases Nat.mod_two_eq_zero_or_one t with h | h <;> rw [h] <;> omega

theorem bad_lt (s l : Nat) (h : Bad s) : (FloatKind.f64.format.order (s % 9223372036854775808) l == some .lt) = false := by
  show (Ieee.double.order (s % 9223372036854775808) l == some .lt) = false
  unfold Format.order
  have h' : 9218868437227405312 ≤ s % 9223372036854775808 % 9223372036854775808 := by have := h.2; omega
  by_cases he : s % 9223372036854775808 = 9218868437227405312
  · rw [he]
    have e := read_inf false
    have e' : Ieee.double.word false 9218868437227405312 = 9218868437227405312 := rfl
    rw [e'] at e
    rw [e]
    cases Ieee.double.read l with
    | number s m p => rfl
    | infinity t => cases t <;> rfl
    | nan n f => rfl
  · obtain ⟨n, f, e⟩ := read_nan (s % 9223372036854775808) (by omega)
    rw [e]; rfl

theorem log_sig (m : Nat) (h1 : 4503599627370496 ≤ m) (h2 : m < 9007199254740992) : (4503599627370496 * m).log2 = 104 := by
  rw [Nat.log2_eq_iff (by omega)]
  constructor <;> omega

theorem cut52 (M m : Nat) (hM : M = 4503599627370496 * m) (L : M.log2 = 104) : Toward.even.cut false M 52 = m := by
  unfold Toward.cut
  rw [L]
  have g : 1 <<< min 52 (104 + 2) = 4503599627370496 := by decide +kernel
  dsimp only
  rw [g]
  have q1 : M / 4503599627370496 = m := by omega
  have q2 : M % 4503599627370496 = 0 := by omega
  rw [q1, q2, Nat.mul_zero]
  have g1 : (decide (4503599627370496 < 0) || 4503599627370496 == 0 && m % 2 == 1) = false := by
    have g2 : decide ((4503599627370496 : Nat) < 0) = false := by decide +kernel
    have g3 : ((4503599627370496 : Nat) == 0) = false := by decide +kernel
    rw [g2, g3, Bool.false_and, Bool.false_or]
  rw [g1, Bool.toNat_false, Nat.add_zero]

theorem near_one (x : Nat) (h1 : 4503599627370496 ≤ x) (h2 : x < 9218868437227405312) :
    Ieee.double.nearest false (4503599627370496 * mg x) (-1074 + ((1022 : Nat) : Int) + (-1074 + (kk x : Int))) = x := by
  have a := mg_kk x
  have b := mg_lt x
  have c : 4503599627370496 ≤ mg x := by
    by_cases h : 1 ≤ kk x
    · exact mg_ge x h
    · have : kk x = 0 := by omega
      rw [this] at a; omega
  have L := log_sig _ c b
  obtain ⟨M, hM⟩ : ∃ M, M = 4503599627370496 * mg x := ⟨_, rfl⟩
  rw [← hM] at L ⊢
  unfold Format.nearest
  rw [if_neg (by omega)]
  dsimp only
  rw [L, ffb, flp, fbin, finf]
  have p1 : max (-1074 + ((1022 : Nat) : Int) + (-1074 + (kk x : Int)) + ((104 : Nat) : Int) - ((52 : Nat) : Int)) (-1074) = -1074 + (kk x : Int) := by omega
  rw [p1]
  have p2 : (-1074 + ((1022 : Nat) : Int) + (-1074 + (kk x : Int)) - (-1074 + (kk x : Int))).toNat = 0 := by omega
  have p3 : (-1074 + (kk x : Int) - (-1074 + ((1022 : Nat) : Int) + (-1074 + (kk x : Int)))).toNat = 52 := by omega
  have p4 : (-1074 + (kk x : Int) - -1074).toNat = kk x := by omega
  rw [p2, p3, p4, Nat.shiftLeft_zero]
  rw [cut52 M _ hM L]
  simp only [Format.word, Bool.false_eq_true, if_false]
  rw [a]
  exact Nat.min_eq_left (Nat.le_of_lt h2)

/-- 1 * x -/
theorem one_mul (x : Nat) (h1 : 4503599627370496 ≤ x) (h2 : x < 9218868437227405312) : FloatKind.f64.format.mul 4607182418800017408 x = some x := by
  show Ieee.double.mul 4607182418800017408 x = some x
  unfold Format.mul
  rw [read_pos x h2, read_pos 4607182418800017408 (by omega)]
  have e1 : mg 4607182418800017408 = 4503599627370496 := by decide +kernel
  have e2 : kk 4607182418800017408 = 1022 := by decide +kernel
  rw [e1, e2]
  simp only [Datum.product, Option.map_some, Format.write, Bool.xor_self]
  rw [near_one x h1 h2]
end Go.Proofs.Ybulkcdzs.Flo
