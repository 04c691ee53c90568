import Derived.Test.YbulkcdzsDay
namespace Go.Proofs.Ybulkcdzs
open Go.ChangeShapes Go.WideShapes Go.ChangeAt Go.RowKit
set_option linter.unusedVariables false
theorem ret_true {b : Bool} (h : b = true) : Ending.returned (.bool b) = .returned (.bool true) := by rw [h]
theorem jleapN (y : Int) (h : ¬ y.tmod 4 = 0) : (y + 3) / 4 = y / 4 + 1 := by rw [tz] at h; omega
theorem jleap4 (y : Int) (h : y.tmod 4 = 0) : (y + 3) / 4 = y / 4 := by rw [tz] at h; omega
set_option maxHeartbeats 4000000 in
theorem lateJ (a0 : Int) (a1 : Int) (a2 : Int) (w0 : -2147483648 ≤ a0 ∧ a0 ≤ 2147483647) (hm : 2 ≤ a1 % 12) (w2 : -32768 ≤ a2 ∧ a2 ≤ 32767) (w1 : 0 ≤ a1 ∧ a1 ≤ 255) (w : World) :
    Calls Yba.prog 5 #[.int .i32 a0, .int .u8 a1, .int .i16 a2, .bool false] w fun e w' => e = .returned (.bool true) ∧ Grown w w' := by
  have hk : a1 % 12 = 2 ∨ a1 % 12 = 3 ∨ a1 % 12 = 4 ∨ a1 % 12 = 5 ∨ a1 % 12 = 6 ∨ a1 % 12 = 7 ∨ a1 % 12 = 8 ∨ a1 % 12 = 9 ∨ a1 % 12 = 10 ∨ a1 % 12 = 11 := by omega
  clear hm
  rcases hk with hm | hm | hm | hm | hm | hm | hm | hm | hm | hm
  all_goals
    go_enter Yba.func5, Yba.ntmps5
    go_wp2_with (first | (go_at_call 11; refine (floor11 _ _ _ (by omega) (by omega) (by omega) (by omega)).mono ?_; rintro e w' ⟨rfl, rfl⟩) | (go_at_call 12; refine (day_late _ _ _ _ _ (by omega) (by omega) (by omega) (by omega) (by omega) (by omega)).mono ?_; rintro e w' ⟨rfl, rfl⟩))
    all_goals
      go_ret
      refine ⟨ret_true ?_, (Grown.refl _).alloc _ _⟩
      first | have h := jleapN a0 ‹_› | have h := jleap4 a0 ‹_›
      simp only [dayN, if_false, beq_iff_eq, Bool.false_eq_true]
      generalize (a0 + 3) / 4 = A at *
      generalize a0 / 4 = p at *
      omega
set_option maxHeartbeats 4000000 in
theorem earlyJ (a0 : Int) (a1 : Int) (a2 : Int) (w0 : -2147483648 ≤ a0 ∧ a0 ≤ 2147483647) (hm : a1 % 12 < 2) (w2 : -32768 ≤ a2 ∧ a2 ≤ 32767) (w1 : 0 ≤ a1 ∧ a1 ≤ 255) (w : World) :
    Calls Yba.prog 5 #[.int .i32 a0, .int .u8 a1, .int .i16 a2, .bool false] w fun e w' => e = .returned (.bool true) ∧ Grown w w' := by
  have hk : a1 % 12 = 0 ∨ a1 % 12 = 1 := by omega
  clear hm
  rcases hk with hm | hm
  all_goals
    go_enter Yba.func5, Yba.ntmps5
    go_wp2_with (first | (go_at_call 11; refine (floor11 _ _ _ (by omega) (by omega) (by omega) (by omega)).mono ?_; rintro e w' ⟨rfl, rfl⟩) | (go_at_call 12; refine (day_early _ _ _ _ _ (by omega) (by omega) (by omega) (by omega) (by omega) (by omega)).mono ?_; rintro e w' ⟨rfl, rfl⟩))
    all_goals
      go_ret
      refine ⟨ret_true ?_, (Grown.refl _).alloc _ _⟩
      simp only [dayN, if_false, beq_iff_eq, Bool.false_eq_true, ear4]
      generalize (a0 + 3) / 4 = A at *
      generalize (a0 + 99) / 100 = B at *
      generalize (a0 + 399) / 400 = C at *
      omega
set_option maxHeartbeats 4000000 in
theorem earlyG (a0 : Int) (a1 : Int) (a2 : Int) (w0 : -2147483648 ≤ a0 ∧ a0 ≤ 2147483647) (hm : a1 % 12 < 2) (w2 : -32768 ≤ a2 ∧ a2 ≤ 32767) (w1 : 0 ≤ a1 ∧ a1 ≤ 255) (w : World) :
    Calls Yba.prog 5 #[.int .i32 a0, .int .u8 a1, .int .i16 a2, .bool true] w fun e w' => e = .returned (.bool true) ∧ Grown w w' := by
  have hk : a1 % 12 = 0 ∨ a1 % 12 = 1 := by omega
  clear hm
  rcases hk with hm | hm
  all_goals
    go_enter Yba.func5, Yba.ntmps5
    go_wp2_with (first | (go_at_call 11; refine (floor11 _ _ _ (by omega) (by omega) (by omega) (by omega)).mono ?_; rintro e w' ⟨rfl, rfl⟩) | (go_at_call 12; refine (day_early _ _ _ _ _ (by omega) (by omega) (by omega) (by omega) (by omega) (by omega)).mono ?_; rintro e w' ⟨rfl, rfl⟩))
    all_goals
      go_ret
      refine ⟨ret_true ?_, (Grown.refl _).alloc _ _⟩
      simp only [dayN, if_true, beq_iff_eq, ear4, ear100, ear400]
      generalize (a0 + 3) / 4 = A at *
      generalize (a0 + 99) / 100 = B at *
      generalize (a0 + 399) / 400 = C at *
      omega
end Go.Proofs.Ybulkcdzs
