import Derived.Test.YbulkcdzsMb
namespace Go.Proofs.Ybulkcdzs
open Go.ChangeShapes Go.WideShapes Go.ChangeAt Go.RowKit
set_option linter.unusedVariables false

theorem twice2pi (w : World) : (binOp .add 25 (.float .f64 4618760256179416344) (.float .f64 4618760256179416344)).run Yba.prog w = .ok (.float .f64 4623263855806786840) w :=
  run_float_arith w .add 25 .f64 _ _ _ (by decide +kernel)
theorem half2pi (w : World) : (binOp .mul 25 (.float .f64 4602678819172646912) (.float .f64 4618760256179416344)).run Yba.prog w = .ok (.float .f64 4614256656552045848) w :=
  run_float_arith w .mul 25 .f64 _ _ _ (by decide +kernel)

set_option maxHeartbeats 800000 in
theorem rem_bad (x : Nat) (hx : x < 18446744073709551616) (h : 9218868437227405312 ≤ x % 9223372036854775808) (w : World) :
    Calls Yba.prog 17 #[.float .f64 x, .float .f64 4618760256179416344] w fun e w' => e = .returned (.float .f64 9221120237041090561) ∧ w' = w := by
  have h6 : decide (9218868437227405312 < 4618760256179416344 % 9223372036854775808) = false := by decide +kernel
  by_cases hn : 9218868437227405312 < x % 9223372036854775808
  · have h4 : decide (9218868437227405312 < x % 9223372036854775808) = true := by simp; omega
    go_enter Yba.func17, Yba.ntmps17
    go_wp2_with (first | (go_at_call 20; refine (isInf_any _ (by omega) _).mono ?_; rintro e w' ⟨rfl, rfl⟩) | (go_at_call 19; refine (isNaN_any _ (by omega) _).mono ?_; rintro e w' ⟨rfl, rfl⟩) | (go_at_call 21; refine (nan_any _).mono ?_; rintro e w' ⟨rfl, rfl⟩))
    go_ret
    exact ⟨rfl, rfl⟩
  · have h4 : decide (9218868437227405312 < x % 9223372036854775808) = false := by simp; omega
    have h5 : decide (x % 9223372036854775808 = 9218868437227405312) = true := by simp; omega
    go_enter Yba.func17, Yba.ntmps17
    go_wp2_with (first | (go_at_call 20; refine (isInf_any _ (by omega) _).mono ?_; rintro e w' ⟨rfl, rfl⟩) | (go_at_call 19; refine (isNaN_any _ (by omega) _).mono ?_; rintro e w' ⟨rfl, rfl⟩) | (go_at_call 21; refine (nan_any _).mono ?_; rintro e w' ⟨rfl, rfl⟩))
    go_ret
    exact ⟨rfl, rfl⟩

set_option maxHeartbeats 800000 in
theorem rem_pos (x : Nat) (hx : x < 9218868437227405312) (w : World) :
    Calls Yba.prog 17 #[.float .f64 x, .float .f64 4618760256179416344] w fun e w' => ∃ r : Nat, e = .returned (.float .f64 r) ∧ (x ≤ 4614256656552045848 → r = x) ∧ w' = w := by
  have h6 : decide (9218868437227405312 < 4618760256179416344 % 9223372036854775808) = false := by decide +kernel
  have h7 : decide (4618760256179416344 % 9223372036854775808 = 9218868437227405312) = false := by decide +kernel
  have h4 : decide (9218868437227405312 < x % 9223372036854775808) = false := by simp; omega
  have h5 : decide (x % 9223372036854775808 = 9218868437227405312) = false := by simp; omega
  have k1 : (FloatKind.f64.format.order 4618760256179416344 0 == some .eq) = false := by decide +kernel
  have k2 : (FloatKind.f64.format.order 4618760256179416344 0 == some .lt) = false := by decide +kernel
  have k3 : (FloatKind.f64.format.order 4618760256179416344 9214364837600034815 == some .lt || FloatKind.f64.format.order 4618760256179416344 9214364837600034815 == some .eq) = true := by decide +kernel
  have k4 : (FloatKind.f64.format.order 4618760256179416344 9007199254740992 == some .lt) = false := by decide +kernel
  have k5 : (FloatKind.f64.format.order x 0 == some .lt) = false := ord_lss_false x 0 hx (by omega) (by omega)
  have r1 := twice2pi
  have r2 := half2pi
  by_cases he : x = 4618760256179416344
  · subst he
    have k6 : (FloatKind.f64.format.order 4618760256179416344 4618760256179416344 == some .eq) = true := by decide +kernel
    go_enter Yba.func17, Yba.ntmps17
    go_wp2_with (first | (go_at_call 20; refine (isInf_any _ (by omega) _).mono ?_; rintro e w' ⟨rfl, rfl⟩) | (go_at_call 19; refine (isNaN_any _ (by omega) _).mono ?_; rintro e w' ⟨rfl, rfl⟩) | (go_at_call 21; refine (nan_any _).mono ?_; rintro e w' ⟨rfl, rfl⟩))
    go_ret
    exact ⟨_, rfl, fun h => absurd h (by decide), rfl⟩
  · have k6 : (FloatKind.f64.format.order x 4618760256179416344 == some .eq) = false := by
      rw [Flo.order_pos x _ hx (by omega)]
      have : compare x 4618760256179416344 ≠ .eq := by rw [Ne, Nat.compare_eq_eq]; exact he
      simp [this]
    clear he
    go_enter Yba.func17, Yba.ntmps17
    go_wp2_with (first | (go_at_call 20; refine (isInf_any _ (by omega) _).mono ?_; rintro e w' ⟨rfl, rfl⟩) | (go_at_call 19; refine (isNaN_any _ (by omega) _).mono ?_; rintro e w' ⟨rfl, rfl⟩) | (go_at_call 21; refine (nan_any _).mono ?_; rintro e w' ⟨rfl, rfl⟩))
    refine (Mod_4pi x (.inl hx) _).mono ?_
    rintro e w' ⟨r, rfl, hr, hd', rfl⟩
    have hd : Hid (x < 4623263855806786840 ∨ x = 9223372036854775808 → r = x) := hd'
    clear hd'
    have hnn : Flo.NotNaN r := by
      rcases hr with h | h
      · exact Flo.notNaN_pos r h
      · rw [h]; exact Flo.notNaN_word true 0 (by decide)
    have hgt : Hid ((FloatKind.f64.format.order r 4614256656552045848 == some .gt) = true → x ≤ 4614256656552045848 → False) := by
      intro h1 h2
      have e := hd.out (.inl (by omega))
      subst e
      rw [Flo.order_pos r _ hx (by omega)] at h1
      have : compare r 4614256656552045848 = .gt := by simpa using h1
      rw [Nat.compare_eq_gt] at this
      omega
    clear hr
    cases t1 : (FloatKind.f64.format.order r 4614256656552045848 == some .gt)
    · go_wp2
      go_ret
      exact ⟨r, rfl, fun h => hd.out (.inl (by omega)), rfl⟩
    · have hgt' := hgt.out t1
      obtain ⟨u, hu, hun⟩ := Flo.sub_notNaN r 4618760256179416344 hnn (by omega)
      have q1 := fun w => run_float_arith (P := Yba.prog) w .sub 25 .f64 _ _ _ hu
      obtain ⟨v, hv, _⟩ := Flo.sub_notNaN u 4618760256179416344 hun (by omega)
      have q2 := fun w => run_float_arith (P := Yba.prog) w .sub 25 .f64 _ _ _ hv
      clear hu hv hun hnn hgt hd
      cases t2 : (FloatKind.f64.format.order u 4614256656552045848 == some .gt || FloatKind.f64.format.order u 4614256656552045848 == some .eq)
      · go_wp2
        go_ret
        exact ⟨_, rfl, fun h => (hgt' h).elim, rfl⟩
      · go_wp2
        go_ret
        exact ⟨_, rfl, fun h => (hgt' h).elim, rfl⟩

theorem run_neg (x : Nat) (w : World) : (Op.unary UnOp.neg (.float .f64 x)).run Yba.prog w = .ok (.float .f64 (Op.negFloat .f64 x)) w := rfl
theorem neg_of_pos (a : Nat) (ha : a < 9223372036854775808) : Op.negFloat .f64 a = 9223372036854775808 + a := by
  unfold Op.negFloat
  have e : (2 : Nat) ^ (FloatKind.f64.format.exponentBits + FloatKind.f64.format.fractionBits) = 2 ^ 63 := rfl
  rw [e]
  have h1 := Nat.two_pow_add_eq_or_of_lt (i := 63) (b := a) (by omega) 1
  rw [Nat.mul_one] at h1
  have h2 : a ^^^ 2 ^ 63 = 2 ^ 63 ||| a := by
    apply Nat.eq_of_testBit_eq
    intro i
    rw [Nat.testBit_xor, Nat.testBit_or, Nat.testBit_two_pow]
    by_cases h : 63 = i
    · subst h; rw [Nat.testBit_lt_two_pow (x := a) (by omega)]; rfl
    · simp [h]
  rw [h2, ← h1]
theorem neg_of_neg (a : Nat) (ha : a < 9223372036854775808) : Op.negFloat .f64 (9223372036854775808 + a) = a := by
  rw [← neg_of_pos a ha]
  unfold Op.negFloat
  rw [Nat.xor_assoc, Nat.xor_self, Nat.xor_zero]

set_option maxHeartbeats 800000 in
theorem rem_neg (x a : Nat) (hxa : Hid (x = 9223372036854775808 + a)) (ha0 : 0 < a) (ha : a < 9218868437227405312) (w : World) :
    Calls Yba.prog 17 #[.float .f64 x, .float .f64 4618760256179416344] w fun e w' => ∃ r : Nat, e = .returned (.float .f64 r) ∧ (a ≤ 4614256656552045848 → r = x) ∧ w' = w := by
  have h6 : decide (9218868437227405312 < 4618760256179416344 % 9223372036854775808) = false := by decide +kernel
  have h7 : decide (4618760256179416344 % 9223372036854775808 = 9218868437227405312) = false := by decide +kernel
  have h4 : decide (9218868437227405312 < x % 9223372036854775808) = false := by have := hxa.out; simp; omega
  have h5 : decide (x % 9223372036854775808 = 9218868437227405312) = false := by have := hxa.out; simp; omega
  have k1 : (FloatKind.f64.format.order 4618760256179416344 0 == some .eq) = false := by decide +kernel
  have k2 : (FloatKind.f64.format.order 4618760256179416344 0 == some .lt) = false := by decide +kernel
  have k3 : (FloatKind.f64.format.order 4618760256179416344 9214364837600034815 == some .lt || FloatKind.f64.format.order 4618760256179416344 9214364837600034815 == some .eq) = true := by decide +kernel
  have k4 : (FloatKind.f64.format.order 4618760256179416344 9007199254740992 == some .lt) = false := by decide +kernel
  have k5 : (FloatKind.f64.format.order x 0 == some .lt) = true := by rw [hxa.out, Flo.neg_lt0 a ha ha0]; rfl
  have n1 : Op.negFloat .f64 x = a := by rw [hxa.out]; exact neg_of_neg a (by omega)
  have n2 : Hid (Op.negFloat .f64 a = x) := by have := hxa.out; rw [this]; exact neg_of_pos a (by omega)
  have hxb : x < 18446744073709551616 := by have := hxa.out; omega
  have r1 := twice2pi
  have un := run_neg
  have r2 := half2pi
  by_cases he : a = 4618760256179416344
  · have k6 : (FloatKind.f64.format.order a 4618760256179416344 == some .eq) = true := by rw [he]; decide +kernel
    have he' : Hid (a = 4618760256179416344) := he
    clear he
    go_enter Yba.func17, Yba.ntmps17
    go_wp2_with (first | (go_at_call 20; refine (isInf_any _ (by omega) _).mono ?_; rintro e w' ⟨rfl, rfl⟩) | (go_at_call 19; refine (isNaN_any _ (by omega) _).mono ?_; rintro e w' ⟨rfl, rfl⟩) | (go_at_call 21; refine (nan_any _).mono ?_; rintro e w' ⟨rfl, rfl⟩))
    go_ret
    exact ⟨_, rfl, fun h => by have := he'.out; omega, rfl⟩
  · have k6 : (FloatKind.f64.format.order a 4618760256179416344 == some .eq) = false := by
      rw [Flo.order_pos a _ ha (by omega)]
      have : compare a 4618760256179416344 ≠ .eq := by rw [Ne, Nat.compare_eq_eq]; exact he
      simp [this]
    clear he
    go_enter Yba.func17, Yba.ntmps17
    go_wp2_with (first | (go_at_call 20; refine (isInf_any _ (by omega) _).mono ?_; rintro e w' ⟨rfl, rfl⟩) | (go_at_call 19; refine (isNaN_any _ (by omega) _).mono ?_; rintro e w' ⟨rfl, rfl⟩) | (go_at_call 21; refine (nan_any _).mono ?_; rintro e w' ⟨rfl, rfl⟩))
    refine (Mod_4pi a (.inl ha) _).mono ?_
    rintro e w' ⟨r, rfl, hr, hd', rfl⟩
    have hd : Hid (a < 4623263855806786840 ∨ a = 9223372036854775808 → r = a) := hd'
    clear hd'
    have hnn : Flo.NotNaN r := by
      rcases hr with h | h
      · exact Flo.notNaN_pos r h
      · rw [h]; exact Flo.notNaN_word true 0 (by decide)
    have hgt : Hid ((FloatKind.f64.format.order r 4614256656552045848 == some .gt) = true → a ≤ 4614256656552045848 → False) := by
      intro h1 h2
      have e := hd.out (.inl (by omega))
      subst e
      rw [Flo.order_pos r _ ha (by omega)] at h1
      have : compare r 4614256656552045848 = .gt := by simpa using h1
      rw [Nat.compare_eq_gt] at this
      omega
    clear hr
    cases t1 : (FloatKind.f64.format.order r 4614256656552045848 == some .gt)
    · go_wp2
      go_ret
      exact ⟨_, rfl, fun h => by rw [hd.out (.inl (by omega))]; exact n2.out, rfl⟩
    · have hgt' := hgt.out t1
      obtain ⟨u, hu, hun⟩ := Flo.sub_notNaN r 4618760256179416344 hnn (by omega)
      have q1 := fun w => run_float_arith (P := Yba.prog) w .sub 25 .f64 _ _ _ hu
      obtain ⟨v, hv, _⟩ := Flo.sub_notNaN u 4618760256179416344 hun (by omega)
      have q2 := fun w => run_float_arith (P := Yba.prog) w .sub 25 .f64 _ _ _ hv
      clear hu hv hun hnn hgt hd
      cases t2 : (FloatKind.f64.format.order u 4614256656552045848 == some .gt || FloatKind.f64.format.order u 4614256656552045848 == some .eq)
      · go_wp2
        go_ret
        exact ⟨_, rfl, fun h => (hgt' h).elim, rfl⟩
      · go_wp2
        go_ret
        exact ⟨_, rfl, fun h => (hgt' h).elim, rfl⟩

set_option maxHeartbeats 800000 in
theorem rem_negz (w : World) :
    Calls Yba.prog 17 #[.float .f64 9223372036854775808, .float .f64 4618760256179416344] w fun e w' => e = .returned (.float .f64 9223372036854775808) ∧ w' = w := by
  have h6 : decide (9218868437227405312 < 4618760256179416344 % 9223372036854775808) = false := by decide +kernel
  have h7 : decide (4618760256179416344 % 9223372036854775808 = 9218868437227405312) = false := by decide +kernel
  have h4 : decide (9218868437227405312 < 9223372036854775808 % 9223372036854775808) = false := by decide +kernel
  have h5 : decide (9223372036854775808 % 9223372036854775808 = 9218868437227405312) = false := by decide +kernel
  have k1 : (FloatKind.f64.format.order 4618760256179416344 0 == some .eq) = false := by decide +kernel
  have k2 : (FloatKind.f64.format.order 4618760256179416344 0 == some .lt) = false := by decide +kernel
  have k3 : (FloatKind.f64.format.order 4618760256179416344 9214364837600034815 == some .lt || FloatKind.f64.format.order 4618760256179416344 9214364837600034815 == some .eq) = true := by decide +kernel
  have k4 : (FloatKind.f64.format.order 4618760256179416344 9007199254740992 == some .lt) = false := by decide +kernel
  have k5 : (FloatKind.f64.format.order 9223372036854775808 0 == some .lt) = false := by decide +kernel
  have k6 : (FloatKind.f64.format.order 9223372036854775808 4618760256179416344 == some .eq) = false := by decide +kernel
  have k7 : (FloatKind.f64.format.order 9223372036854775808 4614256656552045848 == some .gt) = false := by decide +kernel
  have r1 := twice2pi
  have r2 := half2pi
  go_enter Yba.func17, Yba.ntmps17
  go_wp2_with (first | (go_at_call 20; refine (isInf_any _ (by omega) _).mono ?_; rintro e w' ⟨rfl, rfl⟩) | (go_at_call 19; refine (isNaN_any _ (by omega) _).mono ?_; rintro e w' ⟨rfl, rfl⟩) | (go_at_call 22; refine (Mod_4pi 9223372036854775808 (.inr rfl) _).mono ?_; rintro e w' ⟨r, rfl, hr, hd', rfl⟩; obtain rfl := hd' (.inr rfl); clear hd' hr))
  go_ret
  exact ⟨rfl, rfl⟩

/-- math.Remainder(x, 2 pi) gives some float, whatever x; and x itself where it lies within half the period -/
theorem rem_any (x : Nat) (hx : x < 18446744073709551616) (w : World) :
    Calls Yba.prog 17 #[.float .f64 x, .float .f64 4618760256179416344] w fun e w' => ∃ r : Nat, e = .returned (.float .f64 r) ∧ (x % 9223372036854775808 ≤ 4614256656552045848 → r = x) ∧ w' = w := by
  by_cases hb : 9218868437227405312 ≤ x % 9223372036854775808
  · exact (rem_bad x hx hb w).mono fun e w' ⟨h1, h2⟩ => ⟨_, h1, fun h => by omega, h2⟩
  · by_cases hp : x < 9223372036854775808
    · exact (rem_pos x (by omega) w).mono fun e w' ⟨r, h1, h2, h3⟩ => ⟨_, h1, fun h => h2 (by omega), h3⟩
    · by_cases hz : x = 9223372036854775808
      · subst hz
        exact (rem_negz w).mono fun e w' ⟨h1, h2⟩ => ⟨_, h1, fun _ => rfl, h2⟩
      · refine (rem_neg x (x - 9223372036854775808) (show x = 9223372036854775808 + (x - 9223372036854775808) by omega) (by omega) (by omega) w).mono fun e w' ⟨r, h1, h2, h3⟩ => ⟨_, h1, fun h => h2 (by omega), h3⟩

set_option maxHeartbeats 800000 in
theorem Rem_any (x : Nat) (hx : x < 18446744073709551616) (w : World) :
    Calls Yba.prog 13 #[.float .f64 x, .float .f64 4618760256179416344] w fun e w' => ∃ r : Nat, e = .returned (.float .f64 r) ∧ Hid (x % 9223372036854775808 ≤ 4614256656552045848 → r = x) ∧ w' = w := by
  go_enter Yba.func13, Yba.ntmps13
  go_wp2_with (go_at_call 17; refine (rem_any x hx _).mono ?_; rintro e w' ⟨r, rfl, hd', rfl⟩; have hd : Hid (x % 9223372036854775808 ≤ 4614256656552045848 → r = x) := hd'; clear hd')
  go_ret
  exact ⟨r, rfl, hd, rfl⟩
end Go.Proofs.Ybulkcdzs
