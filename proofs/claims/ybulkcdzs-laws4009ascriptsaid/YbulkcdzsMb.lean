import Derived.Test.YbulkcdzsMa
namespace Go.Proofs.Ybulkcdzs
open Go.ChangeShapes Go.WideShapes Go.ChangeAt Go.RowKit
set_option linter.unusedVariables false

def floOf : Value → Nat
  | .float _ b => b
  | _ => 0

theorem ord_geq (x y : Nat) (hx : x < 9218868437227405312) (hy : y < 9218868437227405312) :
    (FloatKind.f64.format.order x y == some .gt || FloatKind.f64.format.order x y == some .eq) = decide (y ≤ x) := by
  rw [Flo.order_pos x y hx hy]
  rcases Nat.lt_trichotomy x y with h | h | h
  · rw [Nat.compare_eq_lt.2 h]; have : ¬ y ≤ x := by omega
    simp [this]
  · subst h; simp
  · rw [Nat.compare_eq_gt.2 h]; have : y ≤ x := by omega
    simp [this]
theorem ord_lss (x y : Nat) (hx : x < 9218868437227405312) (hy : y < 9218868437227405312) :
    (FloatKind.f64.format.order x y == some .lt) = decide (x < y) := by
  rw [Flo.order_pos x y hx hy]
  rcases Nat.lt_trichotomy x y with h | h | h
  · rw [Nat.compare_eq_lt.2 h]; simp [h]
  · subst h; simp
  · rw [Nat.compare_eq_gt.2 h]; have : ¬ x < y := by omega
    simp [this]

theorem Ldexp_z (e : Int) (h1 : 0 ≤ e) (h2 : e ≤ 1020) (w : World) :
    Calls Yba.prog 26 #[.float .f64 4623263855806786840, .int .i64 e] w fun r w' => ∃ z : Nat, r = .returned (.float .f64 z) ∧ Hid (z = 2570638124657944 + (e + 1026).toNat * 4503599627370496) ∧ w' = w :=
  (Ldexp_4pi e h1 h2 w).mono fun e w' ⟨h, h'⟩ => ⟨_, h, rfl, h'⟩

/-- one round of the loop's subtraction -/
theorem sub_round (r z : Nat) (e : Int) (hr : r < 9218868437227405312) (hy : 4623263855806786840 ≤ r)
    (hz : z = 2570638124657944 + (e + 1026).toNat * 4503599627370496)
    (he : (r % 4503599627370496 < 2570638124657944 ∧ e = (r : Int) / 4503599627370496 - 1027) ∨ (¬ r % 4503599627370496 < 2570638124657944 ∧ e = (r : Int) / 4503599627370496 - 1026)) :
    ∃ r', FloatKind.f64.format.sub r z = some r' ∧ r' < r := by
  refine Flo.sub_step r z hr ?_ ?_ ?_ <;> omega

set_option maxHeartbeats 800000 in
theorem mod_4pi (x : Nat) (hx : x < 9218868437227405312) (w : World) :
    Calls Yba.prog 24 #[.float .f64 x, .float .f64 4623263855806786840] w fun e w' => ∃ r : Nat, e = .returned (.float .f64 r) ∧ r < 9218868437227405312 ∧ (x < 4623263855806786840 → r = x) ∧ w' = w := by
  have h3 : (FloatKind.f64.format.order 4623263855806786840 0 == some .eq) = false := by decide +kernel
  have h4 : decide (x % 9223372036854775808 = 9218868437227405312) = false := by simp; omega
  have h5 : decide (9218868437227405312 < x % 9223372036854775808) = false := by simp; omega
  have h6 : decide (9218868437227405312 < 4623263855806786840 % 9223372036854775808) = false := by decide +kernel
  have h7 : (FloatKind.f64.format.order x 0 == some .lt) = false := ord_lss_false x 0 hx (by omega) (by omega)
  go_enter Yba.func24, Yba.ntmps24
  go_wp2_with (first | (go_at_call 20; refine (isInf_any _ (by omega) _).mono ?_; rintro e w' ⟨rfl, rfl⟩) | (go_at_call 19; refine (isNaN_any _ (by omega) _).mono ?_; rintro e w' ⟨rfl, rfl⟩) | (go_at_call 14; refine (abs_pos _ (by omega) _).mono ?_; rintro e w' ⟨rfl, rfl⟩) | (go_at_call 25; refine (Frexp_any _ (by omega) (by omega) _).mono ?_; rintro e w' ⟨rfl, rfl⟩))
  go_loop [7] (fun t => ∃ r : Nat, t = .float .f64 r ∧ r < 9218868437227405312 ∧ Hid (x < 4623263855806786840 → r = x)) (fun t => floOf t)
  case atStart => exact ⟨x, rfl, hx, fun _ => rfl⟩
  case round =>
    obtain ⟨r, rfl, hr, hd⟩ := hrel
    have t1 := ord_geq r 4623263855806786840 hr (by omega)
    by_cases hc : 4623263855806786840 ≤ r
    · have t2 := ord_lss (r % 4503599627370496 + 4602678819172646912) 4605249457297304856 (by omega) (by omega)
      by_cases hf : r % 4503599627370496 < 2570638124657944
      · have t3 : decide (r % 4503599627370496 + 4602678819172646912 < 4605249457297304856) = true := by simp; omega
        go_wp2_with (first | (go_at_call 25; refine (Frexp_any _ (by omega) (by omega) _).mono ?_; rintro e w' ⟨rfl, rfl⟩) | (go_at_call 26; refine (Ldexp_z _ (by omega) (by omega) _).mono ?_; rintro e w' ⟨z, rfl, hz, rfl⟩; obtain ⟨r', hs, hlt⟩ := sub_round r z _ hr hc hz.out (by omega); have hrun := fun w => run_float_arith (P := Yba.prog) w .sub 25 .f64 _ _ _ hs; clear hs))
        go_round
        case rel => exact ⟨r', rfl, by omega, fun h => by have := hd.out h; omega⟩
        case measure => simp only [floOf]; exact hlt
      · have t3 : decide (r % 4503599627370496 + 4602678819172646912 < 4605249457297304856) = false := by simp; omega
        go_wp2_with (first | (go_at_call 25; refine (Frexp_any _ (by omega) (by omega) _).mono ?_; rintro e w' ⟨rfl, rfl⟩) | (go_at_call 26; refine (Ldexp_z _ (by omega) (by omega) _).mono ?_; rintro e w' ⟨z, rfl, hz, rfl⟩; obtain ⟨r', hs, hlt⟩ := sub_round r z _ hr hc hz.out (by omega); have hrun := fun w => run_float_arith (P := Yba.prog) w .sub 25 .f64 _ _ _ hs; clear hs))
        go_round
        case rel => exact ⟨r', rfl, by omega, fun h => by have := hd.out h; omega⟩
        case measure => simp only [floOf]; exact hlt
    · have t3 : decide (4623263855806786840 ≤ r) = false := by simp; omega
      go_wp2
      go_ret
      exact ⟨r, rfl, hr, hd, rfl⟩

theorem negz_facts (y : Nat) (hy : y < 9218868437227405312) (h0 : 0 < y) :
    (FloatKind.f64.format.order 9223372036854775808 y == some .gt || FloatKind.f64.format.order 9223372036854775808 y == some .eq) = false ∧ (FloatKind.f64.format.order 9223372036854775808 y == some .gt) = false ∧ (FloatKind.f64.format.order 9223372036854775808 y == some .eq) = false := by
  rw [Flo.negz y hy, Nat.compare_eq_lt.2 h0]; decide

set_option maxHeartbeats 800000 in
theorem mod_negz (w : World) :
    Calls Yba.prog 24 #[.float .f64 9223372036854775808, .float .f64 4623263855806786840] w fun e w' => e = .returned (.float .f64 9223372036854775808) ∧ w' = w := by
  have h3 : (FloatKind.f64.format.order 4623263855806786840 0 == some .eq) = false := by decide +kernel
  have h4 : decide (9223372036854775808 % 9223372036854775808 = 9218868437227405312) = false := by decide +kernel
  have h5 : decide (9218868437227405312 < 9223372036854775808 % 9223372036854775808) = false := by decide +kernel
  have h6 : decide (9218868437227405312 < 4623263855806786840 % 9223372036854775808) = false := by decide +kernel
  have h7 : (FloatKind.f64.format.order 9223372036854775808 0 == some .lt) = false := by decide +kernel
  have h8 : (FloatKind.f64.format.order 9223372036854775808 4623263855806786840 == some .gt || FloatKind.f64.format.order 9223372036854775808 4623263855806786840 == some .eq) = false := by decide +kernel
  go_enter Yba.func24, Yba.ntmps24
  go_wp2_with (first | (go_at_call 20; refine (isInf_any _ (by omega) _).mono ?_; rintro e w' ⟨rfl, rfl⟩) | (go_at_call 19; refine (isNaN_any _ (by omega) _).mono ?_; rintro e w' ⟨rfl, rfl⟩) | (go_at_call 14; refine (abs_pos _ (by omega) _).mono ?_; rintro e w' ⟨rfl, rfl⟩) | (go_at_call 25; refine (Frexp_any _ (by omega) (by omega) _).mono ?_; rintro e w' ⟨rfl, rfl⟩))
  refine wp_loop_rounds 1 ?_
  rw [rounds_succ]
  go_wp2
  go_ret
  exact ⟨rfl, rfl⟩

set_option maxHeartbeats 800000 in
theorem Mod_4pi (x : Nat) (hx : x < 9218868437227405312 ∨ x = 9223372036854775808) (w : World) :
    Calls Yba.prog 22 #[.float .f64 x, .float .f64 4623263855806786840] w fun e w' => ∃ r : Nat, e = .returned (.float .f64 r) ∧ (r < 9218868437227405312 ∨ r = 9223372036854775808) ∧ (x < 4623263855806786840 ∨ x = 9223372036854775808 → r = x) ∧ w' = w := by
  rcases hx with hx | rfl
  · go_enter Yba.func22, Yba.ntmps22
    go_wp2_with (go_at_call 24; refine (mod_4pi x hx _).mono ?_; rintro e w' ⟨r, rfl, h1, h2, rfl⟩; have h2' : Hid (x < 4623263855806786840 → r = x) := h2; clear h2)
    go_ret
    exact ⟨r, rfl, .inl h1, fun h => h2'.out (by omega), rfl⟩
  · go_enter Yba.func22, Yba.ntmps22
    go_wp2_with (go_at_call 24; refine (mod_negz _).mono ?_; rintro e w' ⟨rfl, rfl⟩)
    go_ret
    exact ⟨_, rfl, .inr rfl, fun _ => rfl, rfl⟩
end Go.Proofs.Ybulkcdzs
