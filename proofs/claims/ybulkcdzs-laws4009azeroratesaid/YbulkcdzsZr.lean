import Derived.Test.YbulkcdzsMc
import Derived.Laws.NewFold
import Derived.Deep.QuietTactic
import Derived.BigQuiet
import Derived.WalkSmall
namespace Go.Proofs.Ybulkcdzs
open Go.ChangeShapes Go.WideShapes Go.ChangeAt Go.RowKit
set_option linter.unusedVariables false

/-- what a float operation gives: its bits, or (where the operation is invalid) those of a NaN that the tape names -/
def flVal (op : BinOp) (x y : Nat) (w : World) : Nat :=
  match floatBits op .f64 x y with
  | some r => r
  | none => (Question.nanBits .f64 x y).cut (w.tape w.drawn (.nanBits .f64 x y))
def flW (op : BinOp) (x y : Nat) (w : World) : World :=
  match floatBits op .f64 x y with
  | some _ => w
  | none => w.drew

theorem fl_run (op : BinOp) (hop : op = .add ∨ op = .sub ∨ op = .quo) (x y : Nat) (w : World) :
    (binOp op 25 (.float .f64 x) (.float .f64 y)).run Yba.prog w = .ok (.float .f64 (flVal op x y w)) (flW op x y w) := by
  cases h : floatBits op .f64 x y with
  | some r =>
    simp only [flVal, flW, h]
    exact run_float_arith w op 25 .f64 x y r h
  | none =>
    simp only [flVal, flW, h]
    unfold floatBits at h
    rcases hop with rfl | rfl | rfl <;> simp only at h <;> simp [binOp, Op.floatArith, h, Question.forced]
theorem cut_nan (x y t : Nat) : Flo.Bad ((Question.nanBits .f64 x y).cut t) := Flo.bad_nan t
theorem flVal_lt (op : BinOp) (x y : Nat) (w : World) : flVal op x y w < 18446744073709551616 := by
  unfold flVal
  split
  · rename_i r h
    have := floatBits_wf h
    simpa [Lit.wf] using this
  · exact (cut_nan x y _).1
theorem flVal_quo0 (x : Nat) (w : World) : Flo.Bad (flVal .quo x 0 w) := by
  unfold flVal
  have e : floatBits .quo .f64 x 0 = FloatKind.f64.format.div x 0 := rfl
  rw [e]
  rcases Flo.div_zero x with h | ⟨s, h, hb⟩
  · rw [h]; exact cut_nan x 0 _
  · rw [h]; exact hb

theorem st_flo (a : Addr) (x : Nat) (m : Mode) (w : World) : (store a (.float .f64 x) m).run Yba.prog w = stored Yba.prog w a (.float .f64 x) m := run_store Yba.prog w a _ m rfl

def Inv (w0 : World) (B j l k : Nat) (w : World) : Prop :=
  w.cell? ⟨B, 0, none⟩ = some (.float .f64 l) ∧ w.cell? ⟨B + 1, 0, none⟩ = some (.int .i64 k) ∧ w.cell? ⟨B + 1 + 1, 0, none⟩ = some (.int .u64 (if k = 0 then 0 else j : Nat)) ∧
  w.frozen? ⟨B + 1, 0, none⟩ = false ∧ w.frozen? ⟨B + 1 + 1, 0, none⟩ = false ∧ B + 1 + 1 < w.heap.size ∧ Below B w0 w

theorem ne1 (B : Nat) : (⟨B + 1 + 1, 0, none⟩ : Addr) ≠ ⟨B, 0, none⟩ := by intro h; simp only [Addr.mk.injEq] at h; omega
theorem ne2 (B : Nat) : (⟨B + 1, 0, none⟩ : Addr) ≠ ⟨B, 0, none⟩ := by intro h; simp only [Addr.mk.injEq] at h; omega
theorem ne3 (B : Nat) : (⟨B + 1, 0, none⟩ : Addr) ≠ ⟨B + 1 + 1, 0, none⟩ := by intro h; simp only [Addr.mk.injEq] at h; omega
theorem ne4 (B : Nat) : (⟨B + 1 + 1, 0, none⟩ : Addr) ≠ ⟨B + 1, 0, none⟩ := by intro h; simp only [Addr.mk.injEq] at h; omega

/-- the count goes up -/
theorem inv_n {w0 : World} {B j l k : Nat} {w : World} (hi : Inv w0 B j l k w) (hk : k ≠ 0) (o : Obj) : Inv w0 B j l (k + 1) ((w.setCell ⟨B + 1, 0, none⟩ (.int .i64 (k + 1))).alloc o) := by
  obtain ⟨c1, c2, c3, f1, f2, hs, hb⟩ := hi
  have a0 : ∀ a : Addr, a.block < w.heap.size → ((w.setCell ⟨B + 1, 0, none⟩ (.int .i64 (k + 1))).alloc o).cell? a = (w.setCell ⟨B + 1, 0, none⟩ (.int .i64 (k + 1))).cell? a := fun a h => World.cell?_alloc_lt _ _ _ (by simpa using h)
  refine ⟨?_, ?_, ?_, ?_, ?_, ?_, ?_⟩
  · rw [a0 _ (by show B < _; omega), World.cell?_setCell_other _ _ _ _ (ne2 B), c1]
  · rw [a0 _ (by show B + 1 < _; omega), World.cell?_setCell_same _ _ _ c2]; simp
  · rw [a0 _ (by show B + 1 + 1 < _; omega), World.cell?_setCell_other _ _ _ _ (ne3 B), c3]; simp [hk]
  · rw [World.frozen?_alloc_past _ _ _ (by simp; omega)]; simpa using f1
  · rw [World.frozen?_alloc_past _ _ _ (by simp; omega)]; simpa using f2
  · simp; omega
  · exact (hb.setCell (by show B ≤ B + 1; omega) _).alloc (by simp; omega) _

theorem inv_0 {w0 : World} {B j l : Nat} {w : World} (hi : Inv w0 B j l 0 w) (o : Obj) : Inv w0 B j l 1 (((w.setCell ⟨B + 1 + 1, 0, none⟩ (.int .u64 j)).setCell ⟨B + 1, 0, none⟩ (.int .i64 1)).alloc o) := by
  obtain ⟨c1, c2, c3, f1, f2, hs, hb⟩ := hi
  have a0 : ∀ a : Addr, a.block < w.heap.size → (((w.setCell ⟨B + 1 + 1, 0, none⟩ (.int .u64 j)).setCell ⟨B + 1, 0, none⟩ (.int .i64 1)).alloc o).cell? a = ((w.setCell ⟨B + 1 + 1, 0, none⟩ (.int .u64 j)).setCell ⟨B + 1, 0, none⟩ (.int .i64 1)).cell? a := fun a h => World.cell?_alloc_lt _ _ _ (by simpa using h)
  have c2' : (w.setCell ⟨B + 1 + 1, 0, none⟩ (.int .u64 j)).cell? ⟨B + 1, 0, none⟩ = some (.int .i64 0) := by rw [World.cell?_setCell_other _ _ _ _ (ne4 B), c2]; rfl
  refine ⟨?_, ?_, ?_, ?_, ?_, ?_, ?_⟩
  · rw [a0 _ (by show B < _; omega), World.cell?_setCell_other _ _ _ _ (ne2 B), World.cell?_setCell_other _ _ _ _ (ne1 B), c1]
  · rw [a0 _ (by show B + 1 < _; omega), World.cell?_setCell_same _ _ _ c2']; rfl
  · rw [a0 _ (by show B + 1 + 1 < _; omega), World.cell?_setCell_other _ _ _ _ (ne3 B), World.cell?_setCell_same _ _ _ c3]; simp
  · rw [World.frozen?_alloc_past _ _ _ (by simp; omega)]; simpa using f1
  · rw [World.frozen?_alloc_past _ _ _ (by simp; omega)]; simpa using f2
  · simp; omega
  · exact ((hb.setCell (by show B ≤ B + 1 + 1; omega) _).setCell (by show B ≤ B + 1; omega) _).alloc (by simp; omega) _

set_option maxHeartbeats 400000 in
theorem clo9 (w0 : World) (B j l k x : Nat) (w : World) (hk : k < 10) (hx : Hid (k = 0 → x = j)) (hi : Inv w0 B j l k w) :
    Calls Yba.prog 9 #[.float .f64 x, .pointer (some ⟨B + 1, 0, none⟩), .pointer (some ⟨B + 1 + 1, 0, none⟩), .pointer (some ⟨B, 0, none⟩)] w
      fun e w' => e = .returned (.tuple #[.agg #[.float .f64 l, .float .f64 0, .float .f64 0], .float .f64 0]) ∧ Inv w0 B j l (k + 1) w' := by
  have g1 := fbits
  have g3 := st_flo
  have HI : Hid (Inv w0 B j l k w) := hi
  obtain ⟨c1, c2, c3, f1, f2, hs, hb⟩ := hi
  have s1 : B < w.heap.size := by omega
  have s2 : B + 1 < w.heap.size := by omega
  by_cases h0 : k = 0
  · subst h0
    have e := hx.out rfl
    subst e
    replace c2 : w.cell? ⟨B + 1, 0, none⟩ = some (.int .i64 0) := c2
    replace c3 : w.cell? ⟨B + 1 + 1, 0, none⟩ = some (.int .u64 0) := c3
    go_enter Yba.func9, Yba.ntmps9
    go_wp2
    exact bodyPost_ret (v := .tuple #[.agg #[.float .f64 l, .float .f64 0, .float .f64 0], .float .f64 0]) (by simp [results, Yba.results9, go_sem]) rfl ⟨rfl, inv_0 HI.out _⟩
  · have hk0 : ((k : Int) == 0) = false := by rw [beq_eq_false_iff_ne]; omega
    go_enter Yba.func9, Yba.ntmps9
    go_wp2
    exact bodyPost_ret (v := .tuple #[.agg #[.float .f64 l, .float .f64 0, .float .f64 0], .float .f64 0]) (by simp [results, Yba.results9, go_sem]) rfl ⟨rfl, inv_n HI.out h0 _⟩

theorem inv_drew {w0 : World} {B j l k : Nat} {w : World} (hi : Inv w0 B j l k w) : Inv w0 B j l k w.drew := by
  obtain ⟨c1, c2, c3, f1, f2, hs, hb⟩ := hi
  exact ⟨c1, c2, c3, f1, f2, hs, hb.drew⟩
theorem inv_fl {w0 : World} {B j l k : Nat} {w : World} (hi : Inv w0 B j l k w) (op : BinOp) (x y : Nat) : Inv w0 B j l k (flW op x y w) := by
  unfold flW
  split
  · exact hi
  · exact inv_drew hi
theorem inv_alloc {w0 : World} {B j l k : Nat} {w : World} (hi : Inv w0 B j l k w) (o : Obj) : Inv w0 B j l k (w.alloc o) := by
  obtain ⟨c1, c2, c3, f1, f2, hs, hb⟩ := hi
  have a0 : ∀ a : Addr, a.block < w.heap.size → (w.alloc o).cell? a = w.cell? a := fun a h => World.cell?_alloc_lt _ _ _ h
  refine ⟨?_, ?_, ?_, ?_, ?_, ?_, ?_⟩
  · rw [a0 _ (by show B < _; omega), c1]
  · rw [a0 _ (by show B + 1 < _; omega), c2]
  · rw [a0 _ (by show B + 1 + 1 < _; omega), c3]
  · rw [World.frozen?_alloc_past _ _ _ (by omega), f1]
  · rw [World.frozen?_alloc_past _ _ _ (by omega), f2]
  · simp; omega
  · exact hb.alloc (by omega) _

set_option maxHeartbeats 400000 in
theorem newton0 (w0 : World) (B j lon l m : Nat) (w : World) (hi : Inv w0 B j l 0 w) :
    Calls Yba.prog 8 #[.func (Fn.func 9) #[] #[.pointer (some ⟨B + 1, 0, none⟩), .pointer (some ⟨B + 1 + 1, 0, none⟩), .pointer (some ⟨B, 0, none⟩)], .float .f64 j, .float .f64 lon, .float .f64 m] w
      fun e w' => e = .returned (.tuple #[.float .f64 0, .bool false]) ∧ Inv w0 B j l 10 w' := by
  have g1 := st_flo
  have g2 := fl_run .sub (by simp)
  have g3 := fl_run .quo (by simp)
  have g4 := fl_run .add (by simp)
  have g5 := fun (r : Nat) (W : World) => Flo.bad_lt (flVal .quo r 0 W) m (flVal_quo0 r W)
  go_enter Yba.func8, Yba.ntmps8
  go_wp2_with fail
  go_loopw [1, 13] (fun t i w => ∃ k x : Nat, k ≤ 10 ∧ i = .int .i64 k ∧ t = .float .f64 x ∧ Hid (k = 0 → x = j) ∧ Inv w0 B j l k w) (fun _ i _ => 10 - (intOf i).toNat)
  case atStart => exact ⟨0, j, by omega, rfl, rfl, fun _ => rfl, hi⟩
  case round =>
    obtain ⟨k, x, hk, rfl, rfl, hx, hv⟩ := hrel
    by_cases hlt : k < 10
    · go_wp2_with (first | (go_at_call 9; refine (clo9 w0 B j l k x _ hlt hx hv).mono ?_; rintro e w' ⟨rfl, hv'⟩) | (go_at_call 13; refine (Rem_any _ (flVal_lt _ _ _ _) _).mono ?_; rintro e w' ⟨r, rfl, _, rfl⟩) | (go_at_call 14; refine (abs_any _ (flVal_lt _ _ _ _) _).mono ?_; rintro e w' ⟨rfl, rfl⟩))
      go_roundw
      case rel => exact ⟨k + 1, _, by omega, by go_num, rfl, fun h => absurd h (by omega), inv_fl (inv_fl (inv_fl (inv_alloc hv' _) _ _ _) _ _ _) _ _ _⟩
      case measure => simp [intOf]; omega
    · have hk' : k = 10 := by omega
      subst hk'
      go_wp2
      go_ret2
      exact ⟨rfl, hv⟩

theorem inv_start (w : World) (j l : Nat) : Inv w w.heap.size j l 0 (((w.alloc (Obj.cells #[.float .f64 l] 25)).alloc (Obj.cells #[.int .i64 0] 3)).alloc (Obj.cells #[.int .u64 0] 36)) := by
  refine ⟨?_, ?_, ?_, ?_, ?_, ?_, ?_⟩
  · simp [go_sem]
  · simp [go_sem]
  · simp [go_sem]
  · simp [go_sem]
  · simp [go_sem]
  · simp
  · exact (((Below.refl _ _).alloc (Nat.le_refl _) _).alloc (by simp) _).alloc (by simp; omega) _

set_option maxHeartbeats 400000 in
theorem law4 (j l s m : Nat) (w : World) :
    Calls Yba.prog 4 #[.float .f64 j, .float .f64 l, .float .f64 s, .float .f64 m] w fun e w' => e = .returned (.bool true) ∧ Below w.heap.size w w' := by
  have g1 := fbits
  have g2 : (FloatKind.f64.format.order 0 0 == some .eq) = true := by decide +kernel
  go_enter Yba.func4, Yba.ntmps4
  go_wp2_with fail
  refine (newton0 w w.heap.size j l s m _ (inv_start w j s)).mono ?_
  rintro e w' ⟨rfl, hi⟩
  obtain ⟨c1, c2, c3, f1, f2, hs, hb⟩ := hi
  replace c3 : w'.cell? ⟨w.heap.size + 1 + 1, 0, none⟩ = some (.int .u64 j) := by simpa using c3
  replace c2 : w'.cell? ⟨w.heap.size + 1, 0, none⟩ = some (.int .i64 10) := c2
  go_wp2_with fail
  go_quiet (fail)
  go_wp2
  go_ret
  exact ⟨rfl, below_drewN hb nq⟩
end Go.Proofs.Ybulkcdzs
