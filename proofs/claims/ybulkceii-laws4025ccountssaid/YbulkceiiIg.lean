import Derived.Test.YbulkceiiAt
namespace Go.Proofs.Ybulkceii
open Go.ChangeShapes Go.WideShapes Go.ChangeAt Go.RowKit
set_option linter.unusedVariables false

set_option maxHeartbeats 800000 in
theorem ignT (M C : Nat) (x : Int) (w : World) (hm : w.cell? ⟨M, 23, none⟩ = some (.pointer (some ⟨C, 0, none⟩))) (hc : w.cell? ⟨C, 4, none⟩ = some (.int .u64 x)) (hz : w.frozen? ⟨C, 4, none⟩ = false) :
    Calls Yba.prog 6 #[.pointer (some ⟨M, 0, none⟩), .bool true] w fun e w' => e = .returned (.tuple #[]) ∧ w' = w.setCell ⟨C, 4, none⟩ (.int .u64 (IntKind.u64.wrap (x + 1))) := by
  go_enter Yba.func6, Yba.ntmps6
  go_wp2_with (go_at_call 12; refine (add64 C 4 x 1 _ hc hz).mono ?_; rintro e w1 ⟨rfl, rfl⟩)
  refine bodyPost_ret (results_none rfl _ _ _) rfl ?_
  exact ⟨rfl, rfl⟩

set_option maxHeartbeats 800000 in
theorem ignF (M C : Nat) (x : Int) (w : World) (hm : w.cell? ⟨M, 23, none⟩ = some (.pointer (some ⟨C, 0, none⟩))) (hc : w.cell? ⟨C, 5, none⟩ = some (.int .u64 x)) (hz : w.frozen? ⟨C, 5, none⟩ = false) :
    Calls Yba.prog 6 #[.pointer (some ⟨M, 0, none⟩), .bool false] w fun e w' => e = .returned (.tuple #[]) ∧ w' = w.setCell ⟨C, 5, none⟩ (.int .u64 (IntKind.u64.wrap (x + 1))) := by
  go_enter Yba.func6, Yba.ntmps6
  go_wp2_with (go_at_call 12; refine (add64 C 5 x 1 _ hc hz).mono ?_; rintro e w1 ⟨rfl, rfl⟩)
  go_end0
  exact ⟨rfl, rfl⟩

theorem wrap_step (x : Int) (k : Nat) : IntKind.u64.wrap (IntKind.u64.wrap (x + k) + 1) = IntKind.u64.wrap (x + ((k + 1 : Nat) : Int)) := by
  simp only [IntKind.wrap_u64]
  simp
  omega

/-- the three blocks while the calls are counted -/
structure LInv (w : World) (d0 d1 d3 d4 d5 d6 d7 d8 d9 z : Int) (d2 : Bool) (e n : Nat) (wr : World) : Prop where
  s2 : wr.cell? ⟨w.heap.size, 2, none⟩ = some (.bool d2)
  s0 : wr.cell? ⟨w.heap.size, 0, none⟩ = some (.int .u64 d0)
  s1 : wr.cell? ⟨w.heap.size, 1, none⟩ = some (.int .u64 d1)
  s3 : wr.cell? ⟨w.heap.size, 3, none⟩ = some (.int .u64 d3)
  s4 : wr.cell? ⟨w.heap.size, 4, none⟩ = some (.int .u64 d4)
  s5 : wr.cell? ⟨w.heap.size, 5, none⟩ = some (.int .u64 d5)
  s6 : wr.cell? ⟨w.heap.size, 6, none⟩ = some (.int .u64 d6)
  s7 : wr.cell? ⟨w.heap.size, 7, none⟩ = some (.int .u64 d7)
  s8 : wr.cell? ⟨w.heap.size, 8, none⟩ = some (.int .u64 d8)
  s9 : wr.cell? ⟨w.heap.size, 9, none⟩ = some (.int .u64 d9)
  c0 : wr.cell? ⟨w.heap.size + 1, 0, none⟩ = some (.int .u64 d0)
  c1 : wr.cell? ⟨w.heap.size + 1, 1, none⟩ = some (.int .u64 d1)
  c2 : wr.cell? ⟨w.heap.size + 1, 2, none⟩ = some (.int .u32 z)
  c3 : wr.cell? ⟨w.heap.size + 1, 3, none⟩ = some (.int .u64 d3)
  c4 : wr.cell? ⟨w.heap.size + 1, 4, none⟩ = some (.int .u64 (IntKind.u64.wrap (d4 + e)))
  c5 : wr.cell? ⟨w.heap.size + 1, 5, none⟩ = some (.int .u64 (IntKind.u64.wrap (d5 + n)))
  c6 : wr.cell? ⟨w.heap.size + 1, 6, none⟩ = some (.int .u64 d6)
  c7 : wr.cell? ⟨w.heap.size + 1, 7, none⟩ = some (.int .u64 d7)
  c8 : wr.cell? ⟨w.heap.size + 1, 8, none⟩ = some (.int .u64 d8)
  c9 : wr.cell? ⟨w.heap.size + 1, 9, none⟩ = some (.int .u64 d9)
  f4 : wr.frozen? ⟨w.heap.size + 1, 4, none⟩ = false
  f5 : wr.frozen? ⟨w.heap.size + 1, 5, none⟩ = false
  m4 : wr.cell? ⟨w.heap.size + 1 + 1, 4, none⟩ = some (.int .i64 7)
  mc : wr.cell? ⟨w.heap.size + 1 + 1, 23, none⟩ = some (.pointer (some ⟨w.heap.size + 1, 0, none⟩))
  kd : wr.cell? ⟨w.heap.size + 1 + 1, 24, none⟩ = some (.bool d2)
  bl : Below w.heap.size w wr

theorem ocell (w : World) (b o b' o' : Nat) (u : Value) (h : b ≠ b' ∨ o ≠ o') : (w.setCell ⟨b, o, none⟩ u).cell? ⟨b', o', none⟩ = w.cell? ⟨b', o', none⟩ :=
  World.cell?_setCell_other _ _ _ _ (fun e => by simp only [Addr.mk.injEq] at e; omega)

theorem LInv.addE {w : World} {d0 d1 d3 d4 d5 d6 d7 d8 d9 z : Int} {d2 : Bool} {e n : Nat} {wr : World} (h : LInv w d0 d1 d3 d4 d5 d6 d7 d8 d9 z d2 e n wr) :
    LInv w d0 d1 d3 d4 d5 d6 d7 d8 d9 z d2 (e + 1) n (wr.setCell ⟨w.heap.size + 1, 4, none⟩ (.int .u64 (IntKind.u64.wrap (IntKind.u64.wrap (d4 + e) + 1)))) := by
  refine ⟨?_, ?_, ?_, ?_, ?_, ?_, ?_, ?_, ?_, ?_, ?_, ?_, ?_, ?_, ?_, ?_, ?_, ?_, ?_, ?_, ?_, ?_, ?_, ?_, ?_, h.bl.setCell (by dsimp only; omega) _⟩
  case refine_15 => rw [World.cell?_setCell_same _ _ _ h.c4, wrap_step]
  case refine_21 => simpa using h.f4
  case refine_22 => simpa using h.f5
  all_goals rw [ocell _ _ _ _ _ _ (by omega)]
  all_goals first | exact h.s2 | exact h.s0 | exact h.s1 | exact h.s3 | exact h.s4 | exact h.s5 | exact h.s6 | exact h.s7 | exact h.s8 | exact h.s9 | exact h.c0 | exact h.c1 | exact h.c2 | exact h.c3 | exact h.c4 | exact h.c5 | exact h.c6 | exact h.c7 | exact h.c8 | exact h.c9 | exact h.m4 | exact h.mc | exact h.kd
theorem LInv.addN {w : World} {d0 d1 d3 d4 d5 d6 d7 d8 d9 z : Int} {d2 : Bool} {e n : Nat} {wr : World} (h : LInv w d0 d1 d3 d4 d5 d6 d7 d8 d9 z d2 e n wr) :
    LInv w d0 d1 d3 d4 d5 d6 d7 d8 d9 z d2 e (n + 1) (wr.setCell ⟨w.heap.size + 1, 5, none⟩ (.int .u64 (IntKind.u64.wrap (IntKind.u64.wrap (d5 + n) + 1)))) := by
  refine ⟨?_, ?_, ?_, ?_, ?_, ?_, ?_, ?_, ?_, ?_, ?_, ?_, ?_, ?_, ?_, ?_, ?_, ?_, ?_, ?_, ?_, ?_, ?_, ?_, ?_, h.bl.setCell (by dsimp only; omega) _⟩
  case refine_16 => rw [World.cell?_setCell_same _ _ _ h.c5, wrap_step]
  case refine_21 => simpa using h.f4
  case refine_22 => simpa using h.f5
  all_goals rw [ocell _ _ _ _ _ _ (by omega)]
  all_goals first | exact h.s2 | exact h.s0 | exact h.s1 | exact h.s3 | exact h.s4 | exact h.s5 | exact h.s6 | exact h.s7 | exact h.s8 | exact h.s9 | exact h.c0 | exact h.c1 | exact h.c2 | exact h.c3 | exact h.c4 | exact h.c5 | exact h.c6 | exact h.c7 | exact h.c8 | exact h.c9 | exact h.m4 | exact h.mc | exact h.kd
end Go.Proofs.Ybulkceii
