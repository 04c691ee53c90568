import Derived.Test.YbulkcdzsRows
import Derived.WalkKit
import Derived.WalkSpells
import Derived.ProofKit
import Derived.OpenShut
import Derived.ShutString
namespace Go.Proofs.Ybulkcdzs
open Go.ChangeShapes Go.WideShapes Go.ChangeAt Go.RowKit
set_option linter.unusedVariables false

theorem ret_int {k : IntKind} {a b : Int} (h : a = b) : Ending.returned (.int k a) = .returned (.int k b) := by rw [h]

theorem tfacts (a b : Int) (h : 0 < b) : b * a.tdiv b + a.tmod b = a ∧ -b < a.tmod b ∧ a.tmod b < b :=
  ⟨Int.mul_tdiv_add_tmod a b, Int.lt_tmod_of_pos a h, Int.tmod_lt_of_pos a h⟩
theorem fd_neg (a b : Int) (h : 0 < b) (h1 : a.tmod b < 0) : a.tdiv b - 1 = a / b := by
  obtain ⟨e, l, u⟩ := tfacts a b h
  have : a = (a.tmod b + b) + b * (a.tdiv b - 1) := by rw [Int.mul_sub]; omega
  have e2 : a / b = ((a.tmod b + b) + b * (a.tdiv b - 1)) / b := by rw [← this]
  rw [e2, Int.add_mul_ediv_left _ _ (by omega), Int.ediv_eq_zero_of_lt (by omega) (by omega)]; omega
theorem fd_pos (a b : Int) (h : 0 < b) (h1 : ¬ a.tmod b < 0) : a.tdiv b = a / b := by
  obtain ⟨e, l, u⟩ := tfacts a b h
  have : a = a.tmod b + b * a.tdiv b := by omega
  have e2 : a / b = (a.tmod b + b * a.tdiv b) / b := by rw [← this]
  rw [e2, Int.add_mul_ediv_left _ _ (by omega), Int.ediv_eq_zero_of_lt (by omega) (by omega)]; omega

theorem tdiv_b (a b : Int) (h1 : -4000000000 ≤ a) (h2 : a ≤ 4000000000) (hb : 0 < b) : -4000000000 ≤ a / b ∧ a / b ≤ 4000000000 := by
  constructor
  · exact (Int.le_ediv_iff_mul_le hb).2 (by
      have : (-4000000000 : Int) * b ≤ -4000000000 * 1 := by omega
      omega)
  · have : a / b < 4000000001 := (Int.ediv_lt_iff_lt_mul hb).2 (by omega)
    omega
theorem tz (y b : Int) : y.tmod b = 0 ↔ y % b = 0 := by
  rw [← Int.dvd_iff_tmod_eq_zero, Int.dvd_iff_emod_eq_zero]
theorem up4 (y : Int) : (y % 4 = 0 ∧ (y + 3) / 4 = y / 4) ∨ (¬ y % 4 = 0 ∧ (y + 3) / 4 = y / 4 + 1) := by omega
theorem up100 (y : Int) : (y % 100 = 0 ∧ (y + 99) / 100 = y / 100) ∨ (¬ y % 100 = 0 ∧ (y + 99) / 100 = y / 100 + 1) := by omega
theorem up400 (y : Int) : (y % 400 = 0 ∧ (y + 399) / 400 = y / 400) ∨ (¬ y % 400 = 0 ∧ (y + 399) / 400 = y / 400 + 1) := by omega
theorem d1 (y : Int) (h : y % 100 = 0) : y % 4 = 0 := by omega
theorem d2 (y : Int) (h : y % 400 = 0) : y % 100 = 0 := by omega
theorem leapN (y : Int) (h : ¬ y.tmod 4 = 0) : (y + 3) / 4 - (y + 99) / 100 + (y + 399) / 400 = y / 4 - y / 100 + y / 400 + 1 := by
  rw [tz] at h
  rcases up4 y with ⟨a, a'⟩ | ⟨a, a'⟩ <;> rcases up100 y with ⟨b, b'⟩ | ⟨b, b'⟩ <;> rcases up400 y with ⟨c, c'⟩ | ⟨c, c'⟩ <;> rw [a', b', c'] <;> first | (exact absurd (d1 _ b) h) | (exact absurd (d1 _ (d2 _ c)) h) | (exact absurd a h) | (generalize y / 4 = p; generalize y / 100 = q; generalize y / 400 = r; omega)
theorem leap4 (y : Int) (h : y.tmod 4 = 0) (h' : ¬ y.tmod 100 = 0) : (y + 3) / 4 - (y + 99) / 100 + (y + 399) / 400 = y / 4 - y / 100 + y / 400 := by
  rw [tz] at h h'
  rcases up4 y with ⟨a, a'⟩ | ⟨a, a'⟩ <;> rcases up100 y with ⟨b, b'⟩ | ⟨b, b'⟩ <;> rcases up400 y with ⟨c, c'⟩ | ⟨c, c'⟩ <;> rw [a', b', c'] <;> first | (exact absurd h a) | (exact absurd b h') | (exact absurd (d2 _ c) h') | (generalize y / 4 = p; generalize y / 100 = q; generalize y / 400 = r; omega)
theorem leap100 (y : Int) (h' : y.tmod 100 = 0) (h : ¬ y.tmod 400 = 0) : (y + 3) / 4 - (y + 99) / 100 + (y + 399) / 400 = y / 4 - y / 100 + y / 400 + 1 := by
  rw [tz] at h h'
  rcases up4 y with ⟨a, a'⟩ | ⟨a, a'⟩ <;> rcases up100 y with ⟨b, b'⟩ | ⟨b, b'⟩ <;> rcases up400 y with ⟨c, c'⟩ | ⟨c, c'⟩ <;> rw [a', b', c'] <;> first | (exact absurd (d1 _ h') a) | (exact absurd h' b) | (exact absurd c h) | (generalize y / 4 = p; generalize y / 100 = q; generalize y / 400 = r; omega)
theorem leap400 (y : Int) (h : y.tmod 400 = 0) : (y + 3) / 4 - (y + 99) / 100 + (y + 399) / 400 = y / 4 - y / 100 + y / 400 := by
  rw [tz] at h
  rcases up4 y with ⟨a, a'⟩ | ⟨a, a'⟩ <;> rcases up100 y with ⟨b, b'⟩ | ⟨b, b'⟩ <;> rcases up400 y with ⟨c, c'⟩ | ⟨c, c'⟩ <;> rw [a', b', c'] <;> first | (exact absurd h c) | (exact absurd (d2 _ h) b) | (exact absurd (d1 _ (d2 _ h)) a) | (generalize y / 4 = p; generalize y / 100 = q; generalize y / 400 = r; omega)
theorem ear4 (y : Int) : (y - 1) / 4 = (y + 3) / 4 - 1 := by omega
theorem ear100 (y : Int) : (y - 1) / 100 = (y + 99) / 100 - 1 := by omega
theorem ear400 (y : Int) : (y - 1) / 400 = (y + 399) / 400 - 1 := by omega

set_option maxHeartbeats 400000 in
theorem floor15 (a b : Int) (w : World) (h1 : -4000000000 ≤ a) (h2 : a ≤ 4000000000) (hb : 0 < b) (hb2 : b ≤ 400) :
    Calls Yba.prog 15 #[.int .i64 a, .int .i64 b] w fun e w' => e = .returned (.int .i64 (a / b)) ∧ w' = w := by
  have hbd := tdiv_b a b h1 h2 hb
  by_cases h : a.tmod b < 0
  · have hx := fd_neg a b hb h
    go_enter Yba.func15, Yba.ntmps15
    go_wp2
    go_ret
    exact ⟨rfl, rfl⟩
  · have hx := fd_pos a b hb h
    go_enter Yba.func15, Yba.ntmps15
    go_wp2
    go_ret
    exact ⟨rfl, rfl⟩
set_option maxHeartbeats 400000 in
theorem floor11 (a b : Int) (w : World) (h1 : -4000000000 ≤ a) (h2 : a ≤ 4000000000) (hb : 0 < b) (hb2 : b ≤ 400) :
    Calls Yba.prog 11 #[.int .i64 a, .int .i64 b] w fun e w' => e = .returned (.int .i64 (a / b)) ∧ w' = w := by
  have hbd := tdiv_b a b h1 h2 hb
  by_cases h : a.tmod b < 0
  · have hx := fd_neg a b hb h
    go_enter Yba.func11, Yba.ntmps11
    go_wp2
    go_ret
    exact ⟨rfl, rfl⟩
  · have hx := fd_pos a b hb h
    go_enter Yba.func11, Yba.ntmps11
    go_wp2
    go_ret
    exact ⟨rfl, rfl⟩

/-- the day number, the year counted from March -/
def dayN (y m d : Int) (g : Bool) : Int :=
  if g then 365 * y + y / 4 + (153 * m + 2) / 5 + d - 1 - y / 100 + y / 400 + 1721120
  else 365 * y + y / 4 + (153 * m + 2) / 5 + d - 1 + 1721118

set_option maxHeartbeats 400000 in
theorem day_late (y mo d : Int) (g : Bool) (w : World) (h1 : -2147483649 ≤ y) (h2 : y ≤ 2147483647) (m1 : 3 ≤ mo) (m2 : mo ≤ 12) (d1 : -32768 ≤ d) (d2 : d ≤ 32767) :
    Calls Yba.prog 12 #[.int .i64 y, .int .i64 mo, .int .i64 d, .bool g] w fun e w' => e = .returned (.int .i64 (dayN y (mo - 3) d g)) ∧ w' = w := by
  cases g
  · go_enter Yba.func12, Yba.ntmps12
    go_wp2_with (go_at_call 15; refine (floor15 _ _ _ (by omega) (by omega) (by omega) (by omega)).mono ?_; rintro e w' ⟨rfl, rfl⟩)
    go_ret
    exact ⟨rfl, rfl⟩
  · go_enter Yba.func12, Yba.ntmps12
    go_wp2_with (go_at_call 15; refine (floor15 _ _ _ (by omega) (by omega) (by omega) (by omega)).mono ?_; rintro e w' ⟨rfl, rfl⟩)
    go_ret
    exact ⟨rfl, rfl⟩
set_option maxHeartbeats 400000 in
theorem day_early (y mo d : Int) (g : Bool) (w : World) (h1 : -2147483648 ≤ y) (h2 : y ≤ 2147483647) (m1 : 1 ≤ mo) (m2 : mo ≤ 2) (d1 : -32768 ≤ d) (d2 : d ≤ 32767) :
    Calls Yba.prog 12 #[.int .i64 y, .int .i64 mo, .int .i64 d, .bool g] w fun e w' => e = .returned (.int .i64 (dayN (y - 1) (mo - 3 + 12) d g)) ∧ w' = w := by
  cases g
  · go_enter Yba.func12, Yba.ntmps12
    go_wp2_with (go_at_call 15; refine (floor15 _ _ _ (by omega) (by omega) (by omega) (by omega)).mono ?_; rintro e w' ⟨rfl, rfl⟩)
    go_ret
    exact ⟨rfl, rfl⟩
  · go_enter Yba.func12, Yba.ntmps12
    go_wp2_with (go_at_call 15; refine (floor15 _ _ _ (by omega) (by omega) (by omega) (by omega)).mono ?_; rintro e w' ⟨rfl, rfl⟩)
    go_ret
    exact ⟨rfl, rfl⟩

end Go.Proofs.Ybulkcdzs
