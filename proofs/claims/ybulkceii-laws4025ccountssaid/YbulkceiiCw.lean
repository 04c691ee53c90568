import Derived.Test.YbulkceiiIg
import Derived.Test.YbulkceiiLx
import Derived.LaidEqlPtr
namespace Go.Proofs.Ybulkceii
open Go.ChangeShapes Go.WideShapes Go.ChangeAt Go.RowKit
set_option linter.unusedVariables false

def nE (f : Nat → Bool) : Nat → Nat
  | 0 => 0
  | k + 1 => if f k then nE f k + 1 else nE f k
def nN (f : Nat → Bool) : Nat → Nat
  | 0 => 0
  | k + 1 => if f k then nN f k else nN f k + 1
theorem nE_le (f : Nat → Bool) (k : Nat) : nE f k ≤ k := by
  induction k with
  | zero => exact Nat.le_refl _
  | succ k ih => simp only [nE]; split <;> omega
theorem nN_le (f : Nat → Bool) (k : Nat) : nN f k ≤ k := by
  induction k with
  | zero => exact Nat.le_refl _
  | succ k ih => simp only [nN]; split <;> omega
def IsB (w : World) (a : Option Addr) (n : Nat) (f : Nat → Bool) : Prop :=
  n = 0 ∨ ∃ b off, a = some ⟨b, off, none⟩ ∧ ∀ j, j < n → w.cell? ⟨b, off + j, none⟩ = some (.bool (f j))

theorem loadZ (z : Int) (b o : Nat) (d2 : Bool) (hzz : z = if d2 then 1 else 0) (w : World) (hc : w.cell? ⟨b, o, none⟩ = some (.int .u32 z)) :
    Calls Yba.prog 8 #[.pointer (some ⟨b, o, none⟩)] w fun e w' => e = .returned (.bool d2) ∧ w' = w := by
  refine (loadB b o z w hc).mono fun e w' h => ?_
  obtain ⟨rfl, rfl⟩ := h
  refine ⟨?_, rfl⟩
  rw [hzz]
  cases d2 <;> rfl
theorem eq26 (w : World) (a : Addr) : (binOp .eql 26 (.pointer (some a)) (.pointer (some a))).run Yba.prog w = .ok (.bool true) w := by
  have hinfo2 : (Yba.prog.info? 36).isSome = true := by kernel_rfl
  obtain ⟨j, hj⟩ := Option.isSome_iff_exists.1 hinfo2
  exact run_eql_ptr_same w a Yba.underlying26 hj

theorem storeZ (z : Int) (b o : Nat) (y : Bool) (hzz : z = if y then 1 else 0) (u : Value) (w : World) (hc : w.cell? ⟨b, o, none⟩ = some u) (hz : w.frozen? ⟨b, o, none⟩ = false) :
    Calls Yba.prog 5 #[.pointer (some ⟨b, o, none⟩), .bool y] w fun e w' => e = .returned (.tuple #[]) ∧ w' = (w.drew).setCell ⟨b, o, none⟩ (.int .u32 z) := by
  subst hzz
  exact storeB b o y u w hc hz

set_option maxHeartbeats 20000000 in
set_option maxRecDepth 100000 in
theorem law3 (d0 d1 d3 d4 d5 d6 d7 d8 d9 : Int) (d2 : Bool) (a1 : Option Addr) (n cap : Nat) (f : Nat → Bool) (w : World) (w1 : IsB w a1 n f) (hn : n ≤ 4096) (g4 : 0 ≤ d4 ∧ d4 < 18446744073709551616) (g5 : 0 ≤ d5 ∧ d5 < 18446744073709551616) :
    Calls Yba.prog 3 #[.agg #[.int .u64 d0, .int .u64 d1, .bool d2, .int .u64 d3, .int .u64 d4, .int .u64 d5, .int .u64 d6, .int .u64 d7, .int .u64 d8, .int .u64 d9], .slice a1 n cap] w fun e w' => e = .returned (.bool true) ∧ Below w.heap.size w w' := by
  have h' : (n : Int) ≤ 4096 := by omega
  obtain ⟨z, HZ⟩ : ∃ z : Int, Hid (z = if d2 then 1 else 0) := ⟨_, rfl⟩
  have HB : Hid (IsB w a1 n f) := w1
  have G4 : Hid (IntKind.u64.wrap (d4 + ((0 : Nat) : Int)) = d4) := by show IntKind.u64.wrap (d4 + ((0 : Nat) : Int)) = d4; rw [IntKind.wrap_u64]; omega
  have G5 : Hid (IntKind.u64.wrap (d5 + ((0 : Nat) : Int)) = d5) := by show IntKind.u64.wrap (d5 + ((0 : Nat) : Int)) = d5; rw [IntKind.wrap_u64]; omega
  clear w1 g4 g5
  go_enter Yba.func3, Yba.ntmps3
  go_wp2_with fail
  go_region_with ((
    go_at_call 4
    refine (store64 (w.heap.size + 1) _ _ (.int .u64 0) _ ?_ ?_).mono ?_
    · simp [go_sem]
    · simp [go_sem]
    rintro e w1 ⟨rfl, rfl⟩))
  go_wp2_with fail
  go_region_with ((
    go_at_call 4
    refine (store64 (w.heap.size + 1) _ _ (.int .u64 0) _ ?_ ?_).mono ?_
    · simp [go_sem]
    · simp [go_sem]
    rintro e w1 ⟨rfl, rfl⟩))
  go_wp2_with fail
  go_region_with ((
    go_at_call 5
    refine (storeZ z (w.heap.size + 1) _ _ HZ.out (.int .u32 0) _ ?_ ?_).mono ?_
    · simp [go_sem]
    · simp [go_sem]
    rintro e w1 ⟨rfl, rfl⟩))
  go_wp2_with fail
  go_region_with ((
    go_at_call 4
    refine (store64 (w.heap.size + 1) _ _ (.int .u64 0) _ ?_ ?_).mono ?_
    · simp [go_sem]
    · simp [go_sem]
    rintro e w1 ⟨rfl, rfl⟩))
  go_wp2_with fail
  go_region_with ((
    go_at_call 4
    refine (store64 (w.heap.size + 1) _ _ (.int .u64 0) _ ?_ ?_).mono ?_
    · simp [go_sem]
    · simp [go_sem]
    rintro e w1 ⟨rfl, rfl⟩))
  go_wp2_with fail
  go_region_with ((
    go_at_call 4
    refine (store64 (w.heap.size + 1) _ _ (.int .u64 0) _ ?_ ?_).mono ?_
    · simp [go_sem]
    · simp [go_sem]
    rintro e w1 ⟨rfl, rfl⟩))
  go_wp2_with fail
  go_region_with ((
    go_at_call 4
    refine (store64 (w.heap.size + 1) _ _ (.int .u64 0) _ ?_ ?_).mono ?_
    · simp [go_sem]
    · simp [go_sem]
    rintro e w1 ⟨rfl, rfl⟩))
  go_wp2_with fail
  go_region_with ((
    go_at_call 4
    refine (store64 (w.heap.size + 1) _ _ (.int .u64 0) _ ?_ ?_).mono ?_
    · simp [go_sem]
    · simp [go_sem]
    rintro e w1 ⟨rfl, rfl⟩))
  go_wp2_with fail
  go_region_with ((
    go_at_call 4
    refine (store64 (w.heap.size + 1) _ _ (.int .u64 0) _ ?_ ?_).mono ?_
    · simp [go_sem]
    · simp [go_sem]
    rintro e w1 ⟨rfl, rfl⟩))
  go_wp2_with fail
  go_region_with ((
    go_at_call 4
    refine (store64 (w.heap.size + 1) _ _ (.int .u64 0) _ ?_ ?_).mono ?_
    · simp [go_sem]
    · simp [go_sem]
    rintro e w1 ⟨rfl, rfl⟩))
  go_wp2_with fail
  go_loopw [7, 8, 83] (fun e m i wr => ∃ k : Nat, k ≤ n ∧ i = .int .i64 k ∧ e = .int .u64 (nE f k) ∧ m = .int .u64 (nN f k) ∧ LInv w d0 d1 d3 d4 d5 d6 d7 d8 d9 z d2 (nE f k) (nN f k) wr) (fun _ _ i _ => n - (intOf i).toNat)
  case atStart =>
    refine ⟨0, by omega, rfl, rfl, rfl, ?_⟩
    refine ⟨?_, ?_, ?_, ?_, ?_, ?_, ?_, ?_, ?_, ?_, ?_, ?_, ?_, ?_, ?_, ?_, ?_, ?_, ?_, ?_, ?_, ?_, ?_, ?_, ?_, ?_⟩
    case refine_26 => exact below_drewN ((((Below.refl _ _).alloc (Nat.le_refl _) _).alloc (by simp) _).alloc (by simp; omega) _) 11
    case refine_15 => rw [show nE f 0 = 0 from rfl, G4.out]; simp [go_sem]
    case refine_16 => rw [show nN f 0 = 0 from rfl, G5.out]; simp [go_sem]
    all_goals simp [go_sem]
  case round =>
    obtain ⟨k, hk, rfl, rfl, rfl, hI⟩ := hrel
    by_cases hlt : k < n
    · obtain ⟨b, off, ha, hc⟩ := HB.out.resolve_left (by omega)
      subst ha
      have hkI : (k : Int) < (n : Int) := by omega
      have hcell := hc k hlt
      have hcw : wr.cell? ⟨b, off + k, none⟩ = some (.bool (f k)) := (hI.bl.cell (World.block_lt_of_cell? _ _ hcell)).trans hcell
      clear hc hcell
      have hE := nE_le f k
      have hN := nN_le f k
      have u1 : IntKind.u64.wrap ((nE f k : Int) + 1) = ((nE f k + 1 : Nat) : Int) := by rw [IntKind.wrap_u64]; omega
      have u2 : IntKind.u64.wrap ((nN f k : Int) + 1) = ((nN f k + 1 : Nat) : Int) := by rw [IntKind.wrap_u64]; omega
      cases hf : f k with
      | true =>
        rw [hf] at hcw
        go_wp2_with (go_at_call 6; refine (ignT _ _ _ _ hI.mc hI.c4 hI.f4).mono ?_; rintro e wq ⟨rfl, rfl⟩)
        go_roundw
        case rel => exact ⟨k + 1, by omega, by go_num, by simp only [nE, hf]; first | go_num | simp [u1], by simp only [nN, hf]; rfl, by simp only [nE, nN, hf]; exact hI.addE⟩
        case measure => simp [intOf]; omega
      | false =>
        rw [hf] at hcw
        go_wp2_with (go_at_call 6; refine (ignF _ _ _ _ hI.mc hI.c5 hI.f5).mono ?_; rintro e wq ⟨rfl, rfl⟩)
        go_roundw
        case rel => exact ⟨k + 1, by omega, by go_num, by simp only [nE, hf]; rfl, by simp only [nN, hf]; first | go_num | simp [u2], by simp only [nE, nN, hf]; exact hI.addN⟩
        case measure => simp [intOf]; omega
    · have hkn : n = k := by omega
      subst hkn
      have heq := eq26
      have k1 := hI.s2
      have k2 := hI.s0
      have k3 := hI.s1
      have k4 := hI.s3
      have k5 := hI.s4
      have k6 := hI.s5
      have k7 := hI.s6
      have k8 := hI.s7
      have k9 := hI.s8
      have k10 := hI.s9
      have m1 := hI.m4
      have m2 := hI.mc
      have m3 := hI.kd
      have hzd : (!(z == 0)) = d2 := by rw [HZ.out]; cases d2 <;> rfl
      have HI : Hid (LInv w d0 d1 d3 d4 d5 d6 d7 d8 d9 z d2 (nE f n) (nN f n) wr) := hI
      have L0 : Hid (∀ q, Calls Yba.prog 7 #[.pointer (some ⟨w.heap.size + 1, 0, none⟩)] (wr.drewN q) fun e w'' => e = .returned (.int .u64 d0) ∧ ∃ m, w'' = wr.drewN m) := fun q => Calls.quiet_of_same (load64 (w.heap.size + 1) 0 _ _ HI.out.c0)
      have L1 : Hid (∀ q, Calls Yba.prog 7 #[.pointer (some ⟨w.heap.size + 1, 1, none⟩)] (wr.drewN q) fun e w'' => e = .returned (.int .u64 d1) ∧ ∃ m, w'' = wr.drewN m) := fun q => Calls.quiet_of_same (load64 (w.heap.size + 1) 1 _ _ HI.out.c1)
      have L3 : Hid (∀ q, Calls Yba.prog 7 #[.pointer (some ⟨w.heap.size + 1, 3, none⟩)] (wr.drewN q) fun e w'' => e = .returned (.int .u64 d3) ∧ ∃ m, w'' = wr.drewN m) := fun q => Calls.quiet_of_same (load64 (w.heap.size + 1) 3 _ _ HI.out.c3)
      have L4 : Hid (∀ q, Calls Yba.prog 7 #[.pointer (some ⟨w.heap.size + 1, 4, none⟩)] (wr.drewN q) fun e w'' => e = .returned (.int .u64 (IntKind.u64.wrap (d4 + nE f n))) ∧ ∃ m, w'' = wr.drewN m) := fun q => Calls.quiet_of_same (load64 (w.heap.size + 1) 4 _ _ HI.out.c4)
      have L5 : Hid (∀ q, Calls Yba.prog 7 #[.pointer (some ⟨w.heap.size + 1, 5, none⟩)] (wr.drewN q) fun e w'' => e = .returned (.int .u64 (IntKind.u64.wrap (d5 + nN f n))) ∧ ∃ m, w'' = wr.drewN m) := fun q => Calls.quiet_of_same (load64 (w.heap.size + 1) 5 _ _ HI.out.c5)
      have L6 : Hid (∀ q, Calls Yba.prog 7 #[.pointer (some ⟨w.heap.size + 1, 6, none⟩)] (wr.drewN q) fun e w'' => e = .returned (.int .u64 d6) ∧ ∃ m, w'' = wr.drewN m) := fun q => Calls.quiet_of_same (load64 (w.heap.size + 1) 6 _ _ HI.out.c6)
      have L7 : Hid (∀ q, Calls Yba.prog 7 #[.pointer (some ⟨w.heap.size + 1, 7, none⟩)] (wr.drewN q) fun e w'' => e = .returned (.int .u64 d7) ∧ ∃ m, w'' = wr.drewN m) := fun q => Calls.quiet_of_same (load64 (w.heap.size + 1) 7 _ _ HI.out.c7)
      have L8 : Hid (∀ q, Calls Yba.prog 7 #[.pointer (some ⟨w.heap.size + 1, 8, none⟩)] (wr.drewN q) fun e w'' => e = .returned (.int .u64 d8) ∧ ∃ m, w'' = wr.drewN m) := fun q => Calls.quiet_of_same (load64 (w.heap.size + 1) 8 _ _ HI.out.c8)
      have L9 : Hid (∀ q, Calls Yba.prog 7 #[.pointer (some ⟨w.heap.size + 1, 9, none⟩)] (wr.drewN q) fun e w'' => e = .returned (.int .u64 d9) ∧ ∃ m, w'' = wr.drewN m) := fun q => Calls.quiet_of_same (load64 (w.heap.size + 1) 9 _ _ HI.out.c9)
      have L2 : Hid (∀ q, Calls Yba.prog 8 #[.pointer (some ⟨w.heap.size + 1, 2, none⟩)] (wr.drewN q) fun e w'' => e = .returned (.bool d2) ∧ ∃ m, w'' = wr.drewN m) := fun q => Calls.quiet_of_same (loadZ z (w.heap.size + 1) 2 d2 HZ.out _ HI.out.c2)
      clear hI
      go_wp2_with fail
      simp only [List.append_eq, List.cons_append, List.nil_append]
      refine wp_quiet_lit 96 117 4 (by kernel_rfl) (by kernel_rfl) ?_
      repeat (go_big_quiet_step (first | (go_at_call 8; exact L2.out _) | (go_at_call 7; first | exact L0.out _ | exact L1.out _ | exact L3.out _ | exact L4.out _ | exact L5.out _ | exact L6.out _ | exact L7.out _ | exact L8.out _ | exact L9.out _)))
      refine wpQuiet_nil ?_
      intro _ hw'
      obtain ⟨nq, hw''⟩ := hw'
      subst hw''
      go_wp2_with fail
      go_ret
      exact ⟨rfl, below_drewN HI.out.bl _⟩
end Go.Proofs.Ybulkceii
