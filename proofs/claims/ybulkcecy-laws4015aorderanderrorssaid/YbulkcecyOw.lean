import Derived.Test.YbulkcecyOv
namespace Go.Proofs.Ybulkcecy
open Go.ChangeShapes Go.WideShapes Go.ChangeAt Go.RowKit
set_option linter.unusedVariables false

theorem neq40 (w : World) : (binOp .neq 40 (.agg #[.int .u8 0, .int .u64 0, .string ⟨#[]⟩, .pointer none]) (.agg #[.int .u8 0, .int .u64 0, .string ⟨#[]⟩, .pointer none])).run Yba.prog w = .ok (.bool false) w := by kernel_rfl

theorem own_form {w : World} {base : Nat} {v : Value} {k : Nat} {xs : List Value} (h : OwnZ w base v (k + 1) xs) : ∃ g cap, v = .slice (some ⟨g, 0, none⟩) (k + 1) cap ∧ ∀ j, j < k + 1 → w.cell? ⟨g, j, none⟩ = xs[j]? := by
  rcases h with ⟨h0, _⟩ | q
  · omega
  · have q' := q
    obtain ⟨_, h0 | ⟨g, cap, cur, rfl, _⟩⟩ := q
    · exact absurd h0.2 (by omega)
    · exact ⟨g, cap, rfl, fun j hj => q'.cellAt j (by omega)⟩

abbrev W8 (w : World) (a0 a1 : Bool) (z : Int) : World :=
  (((((((w.alloc (Obj.cells #[.int .i64 z] 24)).alloc (Obj.cells #[.string ⟨#[108, 101, 102, 116]⟩] 57)).alloc (Obj.cells #[.string ⟨#[114, 105, 103, 104, 116]⟩] 57)).alloc (Obj.cells #[] 3)).alloc
    (Obj.cells #[.slice (some ⟨w.heap.size + 1 + 1 + 1, 0, none⟩) 0 0] 28)).alloc (Obj.cells #[.bool false] 4)).alloc
    (Obj.cells #[.int .i64 1, .bool a0, .iface 55 (.pointer (some ⟨w.heap.size + 1, 0, none⟩)), .iface 22 (.pointer (some ⟨w.heap.size, 0, none⟩)), .pointer (some ⟨w.heap.size + 1 + 1 + 1 + 1, 0, none⟩), .pointer (some ⟨w.heap.size + 1 + 1 + 1 + 1 + 1, 0, none⟩)] 35)).alloc
    (Obj.cells #[.int .i64 2, .bool a1, .iface 55 (.pointer (some ⟨w.heap.size + 1 + 1, 0, none⟩)), .iface 22 (.pointer (some ⟨w.heap.size, 0, none⟩)), .pointer (some ⟨w.heap.size + 1 + 1 + 1 + 1, 0, none⟩), .pointer (some ⟨w.heap.size + 1 + 1 + 1 + 1 + 1, 0, none⟩)] 35)

set_option maxHeartbeats 1600000 in
theorem start8 (w : World) (a0 a1 : Bool) (z : Int) : OInv w (w.heap.size + 1 + 1 + 1 + 1 + 1 + 1 + 1 + 1) w.heap.size w.heap.size (w.heap.size + 1 + 1 + 1 + 1) (w.heap.size + 1 + 1 + 1 + 1 + 1) (w.heap.size + 1 + 1 + 1 + 1 + 1 + 1) (w.heap.size + 1 + 1 + 1 + 1 + 1 + 1 + 1)
    (.iface 55 (.pointer (some ⟨w.heap.size + 1, 0, none⟩))) (.iface 55 (.pointer (some ⟨w.heap.size + 1 + 1, 0, none⟩))) a0 a1 0 [] (.slice (some ⟨w.heap.size + 1 + 1 + 1, 0, none⟩) 0 0) (W8 w a0 a1 z) := by
  refine ⟨⟨?_, ?_, ?_, ?_, ?_, ?_, ?_, ?_, ?_, ?_, ?_, ?_, ⟨by omega, by omega⟩, ⟨by omega, by omega⟩, ⟨by omega, by omega⟩, ⟨by omega, by omega⟩, by simp, ?_⟩, ?_, .inl ⟨rfl, rfl, _, rfl, by dsimp only; omega⟩⟩
  case refine_13 =>
    exact ((((((((Below.refl _ _).alloc (Nat.le_refl _) _).alloc (by simp) _).alloc (by simp; omega) _).alloc (by simp; omega) _).alloc (by simp; omega) _).alloc (by simp; omega) _).alloc (by simp; omega) _).alloc (by simp; omega) _
  all_goals simp [go_sem]

set_option maxHeartbeats 1600000 in
set_option maxRecDepth 100000 in
theorem walkL (a1 : Bool) (a2 : Int) (w : World) :
    Calls Yba.prog 3 #[.bool true, .bool a1, .int .u8 a2] w fun e w' => e = .returned (.bool true) ∧ Below w.heap.size w w' := by
  have n40 := neq40
  have e26 := eql26
  go_enter Yba.func3, Yba.ntmps3
  go_wp2_with (first | (go_at_call 5; refine (newErr _ _).mono ?_; rintro e w1 ⟨rfl, rfl⟩) | (
    go_at_call 6
    refine (both_L (start8 w true a1 _) (by omega)).mono ?_
    rintro e wb ⟨rfl, v', hI⟩
    obtain ⟨g, cap, rfl, hc⟩ := own_form hI.own
    have c0 : wb.cell? ⟨g, 0, none⟩ = some (.int .i64 1) := hc 0 (by omega)
    have lg : wb.cell? ⟨w.heap.size + 1 + 1 + 1 + 1, 0, none⟩ = some (.slice (some ⟨g, 0, none⟩) 1 cap) := hI.lg
    have bd := hI.b.bd
    have HI : Hid (Below w.heap.size w wb) := hI.b.bl
    have sz := hI.b.sz
    have s0 : w.heap.size + 1 + 1 + 1 < wb.heap.size := by omega
    have s1 : w.heap.size + 1 + 1 + 1 + 1 < wb.heap.size := by omega
    have s2 : w.heap.size + 1 + 1 + 1 + 1 + 1 < wb.heap.size := by omega
    have s3 : g < wb.heap.size := World.block_lt_of_cell? _ _ c0
    have s4 : g < wb.heap.size + 1 := by omega
    clear hI hc sz))
  go_ret
  exact ⟨rfl, (HI.out.alloc (by omega) _).alloc (by simp; omega) _⟩
set_option maxHeartbeats 1600000 in
set_option maxRecDepth 100000 in
theorem walkR (a2 : Int) (w : World) :
    Calls Yba.prog 3 #[.bool false, .bool true, .int .u8 a2] w fun e w' => e = .returned (.bool true) ∧ Below w.heap.size w w' := by
  have n40 := neq40
  have e26 := eql26
  go_enter Yba.func3, Yba.ntmps3
  go_wp2_with (first | (go_at_call 5; refine (newErr _ _).mono ?_; rintro e w1 ⟨rfl, rfl⟩) | (
    go_at_call 6
    refine (both_R (start8 w false true _) (by omega)).mono ?_
    rintro e wb ⟨rfl, v', hI⟩
    obtain ⟨g, cap, rfl, hc⟩ := own_form hI.own
    have c0 : wb.cell? ⟨g, 0, none⟩ = some (.int .i64 1) := hc 0 (by omega)
    have c1 : wb.cell? ⟨g, 1, none⟩ = some (.int .i64 2) := hc 1 (by omega)
    have lg : wb.cell? ⟨w.heap.size + 1 + 1 + 1 + 1, 0, none⟩ = some (.slice (some ⟨g, 0, none⟩) 2 cap) := hI.lg
    have bd := hI.b.bd
    have HI : Hid (Below w.heap.size w wb) := hI.b.bl
    have sz := hI.b.sz
    have s0 : w.heap.size + 1 + 1 + 1 < wb.heap.size := by omega
    have s1 : w.heap.size + 1 + 1 + 1 + 1 < wb.heap.size := by omega
    have s2 : w.heap.size + 1 + 1 + 1 + 1 + 1 < wb.heap.size := by omega
    have s3 : g < wb.heap.size := World.block_lt_of_cell? _ _ c0
    have s4 : g < wb.heap.size + 1 := by omega
    clear hI hc sz))
  go_ret
  exact ⟨rfl, (HI.out.alloc (by omega) _).alloc (by simp; omega) _⟩
set_option maxHeartbeats 1600000 in
set_option maxRecDepth 100000 in
theorem walkN (a2 : Int) (w : World) :
    Calls Yba.prog 3 #[.bool false, .bool false, .int .u8 a2] w fun e w' => e = .returned (.bool true) ∧ Below w.heap.size w w' := by
  have n40 := neq40
  have e26 := eql26
  go_enter Yba.func3, Yba.ntmps3
  go_wp2_with (first | (go_at_call 5; refine (newErr _ _).mono ?_; rintro e w1 ⟨rfl, rfl⟩) | (
    go_at_call 6
    refine (both_N (start8 w false false _) (by omega)).mono ?_
    rintro e wb ⟨rfl, v', hI⟩
    obtain ⟨g, cap, rfl, hc⟩ := own_form hI.own
    have c0 : wb.cell? ⟨g, 0, none⟩ = some (.int .i64 1) := hc 0 (by omega)
    have c1 : wb.cell? ⟨g, 1, none⟩ = some (.int .i64 2) := hc 1 (by omega)
    have lg : wb.cell? ⟨w.heap.size + 1 + 1 + 1 + 1, 0, none⟩ = some (.slice (some ⟨g, 0, none⟩) 2 cap) := hI.lg
    have bd := hI.b.bd
    have HI : Hid (Below w.heap.size w wb) := hI.b.bl
    have sz := hI.b.sz
    have s0 : w.heap.size + 1 + 1 + 1 < wb.heap.size := by omega
    have s1 : w.heap.size + 1 + 1 + 1 + 1 < wb.heap.size := by omega
    have s2 : w.heap.size + 1 + 1 + 1 + 1 + 1 < wb.heap.size := by omega
    have s3 : g < wb.heap.size := World.block_lt_of_cell? _ _ c0
    have s4 : g < wb.heap.size + 1 := by omega
    clear hI hc sz))
  go_ret
  exact ⟨rfl, (HI.out.alloc (by omega) _).alloc (by simp; omega) _⟩
end Go.Proofs.Ybulkcecy
