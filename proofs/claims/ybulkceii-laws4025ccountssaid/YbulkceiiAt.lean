import Derived.Test.YbulkceiiRows
import Derived.WalkKit
import Derived.WalkSpells
import Derived.WalkLawsBesides
import Derived.ProofKit
import Derived.OpenShut
import Derived.WalkSmall
import Derived.OwnWalk
import Derived.Below
import Derived.Deep.QuietTactic
import Derived.BigQuiet
import Derived.Laws.LoneSync
import Derived.Deep.RegionHeld
import Derived.Deep.RegionWith
namespace Go.Proofs.Ybulkceii
open Go.ChangeShapes Go.WideShapes Go.ChangeAt Go.RowKit
set_option linter.unusedVariables false

theorem c9 {a : Addr} {y : Int} {u : Value} {w : World} (hc : w.cell? a = some u) (hz : w.frozen? a = false) : (callFunc 9 #[.pointer (some a), .int .u64 y]).run Yba.prog w = .ok (.value (.tuple #[])) (w.setCell a (.int .u64 y)) :=
  run_call_store Yba.func9 (by kernel_rfl) (by kernel_rfl) (by kernel_rfl) (by kernel_rfl) hc hz
theorem c10 {a : Addr} {y : Int} {u : Value} {w : World} (hc : w.cell? a = some u) (hz : w.frozen? a = false) : (callFunc 10 #[.pointer (some a), .int .u32 y]).run Yba.prog w = .ok (.value (.tuple #[])) (w.setCell a (.int .u32 y)) :=
  run_call_store Yba.func10 (by kernel_rfl) (by kernel_rfl) (by kernel_rfl) (by kernel_rfl) hc hz
theorem c13 {a : Addr} {x : Int} {w : World} (hc : w.cell? a = some (.int .u64 x)) : (callFunc 13 #[.pointer (some a)]).run Yba.prog w = .ok (.value (.int .u64 x)) w :=
  run_call_load Yba.func13 (by kernel_rfl) (by kernel_rfl) (by kernel_rfl) .u64 (by kernel_rfl) hc
theorem c14 {a : Addr} {x : Int} {w : World} (hc : w.cell? a = some (.int .u32 x)) : (callFunc 14 #[.pointer (some a)]).run Yba.prog w = .ok (.value (.int .u32 x)) w :=
  run_call_load Yba.func14 (by kernel_rfl) (by kernel_rfl) (by kernel_rfl) .u32 (by kernel_rfl) hc
theorem c15 {a : Addr} {x y : Int} {w : World} (hc : w.cell? a = some (.int .u64 x)) (hz : w.frozen? a = false) : (callFunc 15 #[.pointer (some a), .int .u64 y]).run Yba.prog w = .ok (.value (.int .u64 (IntKind.u64.wrap (x + y)))) (w.setCell a (.int .u64 (IntKind.u64.wrap (x + y)))) :=
  run_call_add Yba.func15 (by kernel_rfl) (by kernel_rfl) (by kernel_rfl) .u64 (by kernel_rfl) hc hz (by rfl)

theorem store64 (b o : Nat) (y : Int) (u : Value) (w : World) (hc : w.cell? ⟨b, o, none⟩ = some u) (hz : w.frozen? ⟨b, o, none⟩ = false) :
    Calls Yba.prog 4 #[.pointer (some ⟨b, o, none⟩), .int .u64 y] w fun e w' => e = .returned (.tuple #[]) ∧ w' = w.setCell ⟨b, o, none⟩ (.int .u64 y) := by
  have h := c9 (y := y) hc hz
  go_enter Yba.func4, Yba.ntmps4
  go_wp2
  go_end0
  exact ⟨rfl, rfl⟩

theorem b32_c (v : Bool) (w : World) : Calls Yba.prog 11 #[.bool v] w fun e w' => e = .returned (.int .u32 (if v then 1 else 0)) ∧ w' = w := by
  cases v
  · go_enter Yba.func11, Yba.ntmps11
    go_wp2
    go_ret
    exact ⟨rfl, rfl⟩
  · go_enter Yba.func11, Yba.ntmps11
    go_wp2
    go_ret
    exact ⟨rfl, rfl⟩

set_option maxHeartbeats 1600000 in
theorem storeB (b o : Nat) (y : Bool) (u : Value) (w : World) (hc : w.cell? ⟨b, o, none⟩ = some u) (hz : w.frozen? ⟨b, o, none⟩ = false) :
    Calls Yba.prog 5 #[.pointer (some ⟨b, o, none⟩), .bool y] w fun e w' => e = .returned (.tuple #[]) ∧ w' = (w.drew).setCell ⟨b, o, none⟩ (.int .u32 (if y then 1 else 0)) := by
  cases y
  · have h0 := c10 (y := 0) (w := w.drew) hc hz
    go_enter Yba.func5, Yba.ntmps5
    go_region_with (go_at_call 11; refine (b32_c false _).mono ?_; rintro e w1 ⟨rfl, rfl⟩)
    all_goals (try go_wp2_with fail)
    all_goals go_end0
    all_goals exact ⟨rfl, rfl⟩
  · have h0 := c10 (y := 1) (w := w.drew) hc hz
    go_enter Yba.func5, Yba.ntmps5
    go_region_with (go_at_call 11; refine (b32_c true _).mono ?_; rintro e w1 ⟨rfl, rfl⟩)
    all_goals (try go_wp2_with fail)
    all_goals go_end0
    all_goals exact ⟨rfl, rfl⟩

theorem load64 (b o : Nat) (x : Int) (w : World) (hc : w.cell? ⟨b, o, none⟩ = some (.int .u64 x)) :
    Calls Yba.prog 7 #[.pointer (some ⟨b, o, none⟩)] w fun e w' => e = .returned (.int .u64 x) ∧ w' = w := by
  have h := c13 hc
  go_enter Yba.func7, Yba.ntmps7
  go_wp2
  go_ret
  exact ⟨rfl, rfl⟩

theorem loadB (b o : Nat) (x : Int) (w : World) (hc : w.cell? ⟨b, o, none⟩ = some (.int .u32 x)) :
    Calls Yba.prog 8 #[.pointer (some ⟨b, o, none⟩)] w fun e w' => e = .returned (.bool (!(x == 0))) ∧ w' = w := by
  have h := c14 hc
  go_enter Yba.func8, Yba.ntmps8
  go_wp2
  go_ret
  exact ⟨rfl, rfl⟩

theorem add64 (b o : Nat) (x y : Int) (w : World) (hc : w.cell? ⟨b, o, none⟩ = some (.int .u64 x)) (hz : w.frozen? ⟨b, o, none⟩ = false) :
    Calls Yba.prog 12 #[.pointer (some ⟨b, o, none⟩), .int .u64 y] w fun e w' => e = .returned (.int .u64 (IntKind.u64.wrap (x + y))) ∧ w' = w.setCell ⟨b, o, none⟩ (.int .u64 (IntKind.u64.wrap (x + y))) := by
  have h := c15 (y := y) hc hz
  go_enter Yba.func12, Yba.ntmps12
  go_wp2
  go_ret
  exact ⟨rfl, rfl⟩

end Go.Proofs.Ybulkceii
