import Derived.Test.YbulkcdzsRows
import Derived.Test.YbulkcdzsFlo2
import Derived.WalkKit
import Derived.WalkSpells
import Derived.WalkLawsBesides
import Derived.ProofKit
import Derived.OpenShut
namespace Go.Proofs.Ybulkcdzs
open Go.ChangeShapes Go.WideShapes Go.ChangeAt Go.RowKit
set_option linter.unusedVariables false

theorem fbits (x : Nat) (w : World) : (callFunc 10 #[.float .f64 x]).run Yba.prog w = .ok (.value (.int .u64 x)) w := by
  rw [run_callFunc_extern (e := Extern.MathFloatBits.float64bits) Yba.func10 (by kernel_rfl) (by kernel_rfl) (by kernel_rfl) (by kernel_rfl)]
  rfl
theorem ffrom (n : Int) (w : World) : (callFunc 18 #[.int .u64 n]).run Yba.prog w = .ok (.value (.float .f64 n.toNat)) w := by
  rw [run_callFunc_extern (e := Extern.MathFloatBits.float64frombits) Yba.func18 (by kernel_rfl) (by kernel_rfl) (by kernel_rfl) (by kernel_rfl)]
  rfl

theorem ret_flo {a b : Nat} (h : a = b) : Ending.returned (.float .f64 a) = .returned (.float .f64 b) := by rw [h]

theorem andNot63 (x : Nat) (hx : x < 18446744073709551616) : bits .andNot .u64 (x : Int) 9223372036854775808 = ((x % 9223372036854775808 : Nat) : Int) := by
  have h := u64_andNot (x : Int) 9223372036854775808 (by omega) (by omega) (by omega) (by omega)
  rw [h]
  have e : (18446744073709551615 - (9223372036854775808 : Int).toNat) = 2 ^ 63 - 1 := by decide +kernel
  rw [e, Int.toNat_natCast, Nat.and_two_pow_sub_one_eq_mod]

set_option maxHeartbeats 400000 in
theorem abs_any (x : Nat) (hx : x < 18446744073709551616) (w : World) :
    Calls Yba.prog 14 #[.float .f64 x] w fun e w' => e = .returned (.float .f64 (x % 9223372036854775808)) ∧ w' = w := by
  have h1 := fbits
  have h2 := ffrom
  have h3 := andNot63 x hx
  go_enter Yba.func14, Yba.ntmps14
  go_wp2
  go_ret
  exact ⟨rfl, rfl⟩

theorem abs_pos (x : Nat) (hx : x < 9223372036854775808) (w : World) :
    Calls Yba.prog 14 #[.float .f64 x] w fun e w' => e = .returned (.float .f64 x) ∧ w' = w := by
  refine (abs_any x (by omega) w).mono ?_
  rintro e w' ⟨rfl, rfl⟩
  exact ⟨ret_flo (Nat.mod_eq_of_lt hx), rfl⟩

set_option maxHeartbeats 400000 in
theorem isNaN_any (x : Nat) (hx : x < 18446744073709551616) (w : World) :
    Calls Yba.prog 19 #[.float .f64 x] w fun e w' => e = .returned (.bool (decide (9218868437227405312 < x % 9223372036854775808))) ∧ w' = w := by
  have h1 := Flo.neq_self x hx
  go_enter Yba.func19, Yba.ntmps19
  go_wp2
  go_ret
  exact ⟨rfl, rfl⟩

set_option maxHeartbeats 400000 in
theorem isInf_any (x : Nat) (hx : x < 18446744073709551616) (w : World) :
    Calls Yba.prog 20 #[.float .f64 x, .int .i64 0] w fun e w' => e = .returned (.bool (decide (x % 9223372036854775808 = 9218868437227405312))) ∧ w' = w := by
  have h1 := Flo.gt_max (x % 9223372036854775808) (by omega)
  go_enter Yba.func20, Yba.ntmps20
  go_wp2_with (go_at_call 14; refine (abs_any x hx _).mono ?_; rintro e w' ⟨rfl, rfl⟩)
  go_ret
  exact ⟨rfl, rfl⟩

set_option maxHeartbeats 400000 in
theorem nan_any (w : World) :
    Calls Yba.prog 21 #[] w fun e w' => e = .returned (.float .f64 9221120237041090561) ∧ w' = w := by
  have h2 := ffrom
  go_enter Yba.func21, Yba.ntmps21
  go_wp2
  go_ret
  exact ⟨rfl, rfl⟩

theorem ord_lss_false (x y : Nat) (hx : x < 9218868437227405312) (hy : y < 9218868437227405312) (h : y ≤ x) : (FloatKind.f64.format.order x y == some .lt) = false := by
  rw [Flo.order_pos x y hx hy]
  have : compare x y ≠ .lt := by rw [Ne, Nat.compare_eq_lt]; omega
  simp [this]

set_option maxHeartbeats 400000 in
theorem normalize_any (x : Nat) (h1 : 4503599627370496 ≤ x) (hx : x < 9218868437227405312) (w : World) :
    Calls Yba.prog 31 #[.float .f64 x] w fun e w' => e = .returned (.tuple #[.float .f64 x, .int .i64 0]) ∧ w' = w := by
  have h3 := ord_lss_false x 4503599627370496 hx (by omega) h1
  go_enter Yba.func31, Yba.ntmps31
  go_wp2_with (go_at_call 14; refine (abs_pos x (by omega) _).mono ?_; rintro e w' ⟨rfl, rfl⟩)
  go_ret2
  exact ⟨rfl, rfl⟩

theorem and2047 (x : Nat) (hx : x < 9223372036854775808) : bits .and .u64 ((x : Int) / 4503599627370496) 2047 = (x : Int) / 4503599627370496 := by
  have h := u64_and ((x : Int) / 4503599627370496) 2047 (by omega) (by omega) (by omega) (by omega)
  rw [h]
  have e : (2047 : Int).toNat = 2 ^ 11 - 1 := by decide +kernel
  rw [e, Nat.and_two_pow_sub_one_eq_mod]
  omega
theorem nand52 (x : Nat) (hx : x < 9223372036854775808) : x &&& (2 ^ 63 + (2 ^ 52 - 1)) = x % 4503599627370496 := by
  have e : (2 ^ 63 + (2 ^ 52 - 1) : Nat) = 2 ^ 63 ||| (2 ^ 52 - 1) := by decide +kernel
  rw [e, Nat.and_or_distrib_left, Nat.and_two_pow_sub_one_eq_mod]
  have e2 : x &&& 2 ^ 63 = 0 := by
    apply Nat.eq_of_testBit_eq
    intro i
    rw [Nat.testBit_and, Nat.testBit_two_pow, Nat.zero_testBit]
    by_cases h : 63 = i
    · subst h; rw [Nat.testBit_lt_two_pow (by omega), Bool.false_and]
    · simp [h]
  rw [e2, Nat.zero_or]
theorem andNot52 (x : Nat) (hx : x < 9223372036854775808) : bits .andNot .u64 (x : Int) 9218868437227405312 = ((x % 4503599627370496 : Nat) : Int) := by
  have h := u64_andNot (x : Int) 9218868437227405312 (by omega) (by omega) (by omega) (by omega)
  rw [h]
  have e : (18446744073709551615 - (9218868437227405312 : Int).toNat) = 2 ^ 63 + (2 ^ 52 - 1) := by decide +kernel
  rw [e, Int.toNat_natCast, nand52 x hx]
theorem or52 (f a : Nat) (hf : f < 4503599627370496) (ha : a < 4096) : bits .or .u64 (f : Int) ((a * 4503599627370496 : Nat) : Int) = ((f + a * 4503599627370496 : Nat) : Int) := by
  have h := u64_or (f : Int) ((a * 4503599627370496 : Nat) : Int) (by omega) (by omega) (by omega) (by omega)
  rw [h, Int.toNat_natCast, Int.toNat_natCast]
  have e := Nat.two_pow_add_eq_or_of_lt (i := 52) (b := f) (by omega) a
  rw [Nat.or_comm, Nat.mul_comm, show (4503599627370496 : Nat) = 2 ^ 52 by decide +kernel, ← e, Nat.add_comm]

set_option maxHeartbeats 400000 in
theorem frexp_any (x : Nat) (h1 : 4503599627370496 ≤ x) (hx : x < 9218868437227405312) (w : World) :
    Calls Yba.prog 28 #[.float .f64 x] w fun e w' => e = .returned (.tuple #[.float .f64 (x % 4503599627370496 + 4602678819172646912), .int .i64 ((x : Int) / 4503599627370496 - 1023 + 1)]) ∧ w' = w := by
  have g1 := fbits
  have g2 := ffrom
  have h3 : (FloatKind.f64.format.order x 0 == some .eq) = false := by
    rw [Flo.order_pos x 0 hx (by omega)]
    have : compare x 0 ≠ .eq := by rw [Ne, Nat.compare_eq_eq]; omega
    simp [this]
  have h4 : decide (x % 9223372036854775808 = 9218868437227405312) = false := by simp; omega
  have h5 : decide (9218868437227405312 < x % 9223372036854775808) = false := by simp; omega
  have b1 := and2047 x (by omega)
  have b2 := andNot52 x (by omega)
  have b3 : bits .or .u64 ((x : Int) % 4503599627370496) 4602678819172646912 = (x : Int) % 4503599627370496 + 4602678819172646912 := by
    have := or52 (x % 4503599627370496) 1022 (by omega) (by omega)
    have e1 : ((x % 4503599627370496 : Nat) : Int) = (x : Int) % 4503599627370496 := by omega
    have e2 : ((1022 * 4503599627370496 : Nat) : Int) = 4602678819172646912 := by decide +kernel
    rw [e1, e2] at this
    rw [this]; omega
  go_enter Yba.func28, Yba.ntmps28
  go_wp2_with (first | (go_at_call 20; refine (isInf_any x (by omega) _).mono ?_; rintro e w' ⟨rfl, rfl⟩) | (go_at_call 19; refine (isNaN_any x (by omega) _).mono ?_; rintro e w' ⟨rfl, rfl⟩) | (go_at_call 31; refine (normalize_any x h1 hx _).mono ?_; rintro e w' ⟨rfl, rfl⟩))
  go_ret2
  exact ⟨rfl, rfl⟩

set_option maxHeartbeats 400000 in
theorem Frexp_any (x : Nat) (h1 : 4503599627370496 ≤ x) (hx : x < 9218868437227405312) (w : World) :
    Calls Yba.prog 25 #[.float .f64 x] w fun e w' => e = .returned (.tuple #[.float .f64 (x % 4503599627370496 + 4602678819172646912), .int .i64 ((x : Int) / 4503599627370496 - 1023 + 1)]) ∧ w' = w := by
  go_enter Yba.func25, Yba.ntmps25
  go_wp2_with (go_at_call 28; refine (frexp_any x h1 hx _).mono ?_; rintro e w' ⟨rfl, rfl⟩)
  go_ret2
  exact ⟨rfl, rfl⟩

theorem ldexp_facts (e : Int) (h1 : 0 ≤ e) (h2 : e ≤ 1020) : ∃ z : Nat, z = 2570638124657944 + (e + 1026).toNat * 4503599627370496 ∧
    bits .or .u64 2570638124657944 ((e + 3 + 1023) * 4503599627370496) = (z : Int) ∧
    ∀ w, (binOp .mul 25 (.float .f64 4607182418800017408) (.float .f64 z)).run Yba.prog w = .ok (.float .f64 z) w := by
  refine ⟨_, rfl, ?_, ?_⟩
  · have := or52 2570638124657944 (e + 1026).toNat (by omega) (by omega)
    have e1 : (((e + 1026).toNat * 4503599627370496 : Nat) : Int) = (e + 3 + 1023) * 4503599627370496 := by omega
    rw [e1] at this
    exact this
  · intro w
    exact run_float_arith w .mul 25 .f64 _ _ _ (Flo.one_mul _ (by omega) (by omega))

set_option maxHeartbeats 400000 in
theorem ldexp_4pi (e : Int) (h1 : 0 ≤ e) (h2 : e ≤ 1020) (w : World) :
    Calls Yba.prog 30 #[.float .f64 4623263855806786840, .int .i64 e] w fun r w' => r = .returned (.float .f64 (2570638124657944 + (e + 1026).toNat * 4503599627370496)) ∧ w' = w := by
  have g1 := fbits
  have g2 := ffrom
  have h3 : (FloatKind.f64.format.order 4623263855806786840 0 == some .eq) = false := by decide +kernel
  have h4 : decide (4623263855806786840 % 9223372036854775808 = 9218868437227405312) = false := by decide +kernel
  have h5 : decide (9218868437227405312 < 4623263855806786840 % 9223372036854775808) = false := by decide +kernel
  have c1 : bits .and .i64 1026 2047 = 1026 := by decide +kernel
  have c2 : bits .andNot .u64 4623263855806786840 9218868437227405312 = 2570638124657944 := by decide +kernel
  obtain ⟨z, hz, c3, c4⟩ := ldexp_facts e h1 h2
  rw [← hz]
  have HZ : Hid (z = 2570638124657944 + (e + 1026).toNat * 4503599627370496) := hz
  clear hz
  go_enter Yba.func30, Yba.ntmps30
  go_wp2_with (first | (go_at_call 20; refine (isInf_any 4623263855806786840 (by omega) _).mono ?_; rintro e w' ⟨rfl, rfl⟩) | (go_at_call 19; refine (isNaN_any 4623263855806786840 (by omega) _).mono ?_; rintro e w' ⟨rfl, rfl⟩) | (go_at_call 31; refine (normalize_any 4623263855806786840 (by omega) (by omega) _).mono ?_; rintro e w' ⟨rfl, rfl⟩))
  go_ret
  exact ⟨rfl, rfl⟩

set_option maxHeartbeats 400000 in
theorem Ldexp_4pi (e : Int) (h1 : 0 ≤ e) (h2 : e ≤ 1020) (w : World) :
    Calls Yba.prog 26 #[.float .f64 4623263855806786840, .int .i64 e] w fun r w' => r = .returned (.float .f64 (2570638124657944 + (e + 1026).toNat * 4503599627370496)) ∧ w' = w := by
  go_enter Yba.func26, Yba.ntmps26
  go_wp2_with (go_at_call 30; refine (ldexp_4pi e h1 h2 _).mono ?_; rintro e w' ⟨rfl, rfl⟩)
  go_ret
  exact ⟨rfl, rfl⟩
end Go.Proofs.Ybulkcdzs
