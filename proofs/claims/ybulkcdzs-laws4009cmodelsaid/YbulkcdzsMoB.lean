import Derived.Test.YbulkcdzsMoA
namespace Go.Proofs.Ybulkcdzs
open Go.ChangeShapes Go.WideShapes Go.ChangeAt Go.RowKit
set_option linter.unusedVariables false
set_option maxHeartbeats 4000000 in
theorem lateG (a0 : Int) (a1 : Int) (a2 : Int) (w0 : -2147483648 ≤ a0 ∧ a0 ≤ 2147483647) (hm : 2 ≤ a1 % 12) (w2 : -32768 ≤ a2 ∧ a2 ≤ 32767) (w1 : 0 ≤ a1 ∧ a1 ≤ 255) (w : World) :
    Calls Yba.prog 5 #[.int .i32 a0, .int .u8 a1, .int .i16 a2, .bool true] w fun e w' => e = .returned (.bool true) ∧ Grown w w' := by
  have hk : a1 % 12 = 2 ∨ a1 % 12 = 3 ∨ a1 % 12 = 4 ∨ a1 % 12 = 5 ∨ a1 % 12 = 6 ∨ a1 % 12 = 7 ∨ a1 % 12 = 8 ∨ a1 % 12 = 9 ∨ a1 % 12 = 10 ∨ a1 % 12 = 11 := by omega
  clear hm
  rcases hk with hm | hm | hm | hm | hm | hm | hm | hm | hm | hm
  all_goals
    go_enter Yba.func5, Yba.ntmps5
    go_wp2_with (first | (go_at_call 11; refine (floor11 _ _ _ (by omega) (by omega) (by omega) (by omega)).mono ?_; rintro e w' ⟨rfl, rfl⟩) | (go_at_call 12; refine (day_late _ _ _ _ _ (by omega) (by omega) (by omega) (by omega) (by omega) (by omega)).mono ?_; rintro e w' ⟨rfl, rfl⟩))
    all_goals
      go_ret
      refine ⟨ret_true ?_, (Grown.refl _).alloc _ _⟩
      first | have h := leapN a0 ‹_› | have h := leap400 a0 ‹_› | have h := leap4 a0 ‹_› ‹_› | have h := leap100 a0 ‹_› ‹_›
      simp only [dayN, if_true, beq_iff_eq]
      generalize (a0 + 3) / 4 = A at *
      generalize (a0 + 99) / 100 = B at *
      generalize (a0 + 399) / 400 = C at *
      generalize a0 / 4 = p at *
      generalize a0 / 100 = q at *
      generalize a0 / 400 = r at *
      omega
end Go.Proofs.Ybulkcdzs
