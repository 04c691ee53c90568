import Derived.Test.YbulkcdzsSc
namespace Go.Proofs.Ybulkcdzs
open Go.ChangeShapes Go.WideShapes Go.ChangeAt Go.RowKit
set_option linter.unusedVariables false

/-- the k-th step, in quarter days -/
def sOf (z2 : List Int) (len2 : Nat) (z3 : List Int) (len3 k : Nat) : Int := dOf z2 len2 k * (4 / rOf z3 len3 k)
/-- the instant after k steps, in quarter days -/
def qOf (z2 : List Int) (len2 : Nat) (z3 : List Int) (len3 : Nat) (q0 : Int) : Nat → Int
  | 0 => q0
  | k + 1 => qOf z2 len2 z3 len3 q0 k + sOf z2 len2 z3 len3 k

theorem sOf_b (z2 : List Int) (len2 : Nat) (z3 : List Int) (len3 k : Nat) : -12 ≤ sOf z2 len2 z3 len3 k ∧ sOf z2 len2 z3 len3 k ≤ 12 := by
  unfold sOf
  have h := dOf_b z2 len2 k
  rcases rOf_b z3 len3 k with e | e | e <;> rw [e] <;> simp <;> omega
theorem qOf_b (z2 : List Int) (len2 : Nat) (z3 : List Int) (len3 : Nat) (q0 : Int) (h : -131072 ≤ q0 ∧ q0 ≤ 131072) (k : Nat) : -131072 - 12 * (k : Int) ≤ qOf z2 len2 z3 len3 q0 k ∧ qOf z2 len2 z3 len3 q0 k ≤ 131072 + 12 * (k : Int) := by
  induction k with
  | zero => simp [qOf]; omega
  | succ k ih =>
    have := sOf_b z2 len2 z3 len3 k
    simp only [qOf]; omega
theorem qOf_succ (z2 : List Int) (len2 : Nat) (z3 : List Int) (len3 : Nat) (q0 : Int) (k : Nat) : qOf z2 len2 z3 len3 q0 k + sOf z2 len2 z3 len3 k = qOf z2 len2 z3 len3 q0 (k + 1) := rfl

/-- the instants that are asked -/
def askd (z2 : List Int) (len2 : Nat) (z3 : List Int) (len3 : Nat) (q0 : Int) (k : Nat) : List Nat := (List.range k).map fun i => Flo.F (qOf z2 len2 z3 len3 q0 i)
theorem askd_succ (z2 : List Int) (len2 : Nat) (z3 : List Int) (len3 : Nat) (q0 : Int) (k : Nat) : askd z2 len2 z3 len3 q0 k ++ [Flo.F (qOf z2 len2 z3 len3 q0 k)] = askd z2 len2 z3 len3 q0 (k + 1) := by
  unfold askd; rw [List.range_succ, List.map_append]; rfl

theorem f_sub (lon d : Int) (hl : -32768 ≤ lon ∧ lon ≤ 32767) (hd : -3 ≤ d ∧ d ≤ 3) (w : World) : (binOp .sub 25 (.float .f64 (Flo.F (4 * lon))) (.float .f64 (Flo.F (4 * (lon - d))))).run Yba.prog w = .ok (.float .f64 (Flo.F (4 * d))) w := by
  have e : 4 * d = 4 * lon - 4 * (lon - d) := by omega
  rw [e]
  exact run_float_arith w .sub 25 .f64 _ _ _ (Flo.sub_F _ _ (by omega) (by omega))
theorem f_quo (d r : Int) (hd : -3 ≤ d ∧ d ≤ 3) (hr : r = 1 ∨ r = 2 ∨ r = 4) (w : World) : (binOp .quo 25 (.float .f64 (Flo.F (4 * d))) (.float .f64 (Flo.F (4 * r)))).run Yba.prog w = .ok (.float .f64 (Flo.F (d * (4 / r)))) w :=
  run_float_arith w .quo 25 .f64 _ _ _ (Flo.div_F d r hd hr)
theorem f_add (a b : Int) (ha : a.natAbs < 1000000) (hb : b.natAbs < 1000000) (w : World) : (binOp .add 25 (.float .f64 (Flo.F a)) (.float .f64 (Flo.F b))).run Yba.prog w = .ok (.float .f64 (Flo.F (a + b))) w :=
  run_float_arith w .add 25 .f64 _ _ _ (Flo.add_F _ _ (by omega) (by omega))
theorem f_lss (a b : Int) (ha : a.natAbs < 1000000) (hb : b.natAbs < 1000000) : (FloatKind.f64.format.order (Flo.F a) (Flo.F b) == some .lt) = decide (a < b) := by
  rw [Flo.order_F a b (by omega) (by omega)]
  rcases Int.lt_trichotomy a b with h | h | h
  · rw [Flo.icmp_lt h]; simp [h]
  · subst h; rw [Flo.icmp_eq]; simp
  · rw [Flo.icmp_gt h]; have : ¬ a < b := by omega
    simp [this]

theorem InvS.alloc {w0 : World} {B : Nat} {lon : Int} {a2 : Option Addr} {len2 cap2 : Nat} {a3 : Option Addr} {len3 cap3 : Nat} {k : Nat} {cs : List Nat} {v : Value} {w : World}
    (hi : InvS w0 B lon a2 len2 cap2 a3 len3 cap3 k cs v w) (o : Obj) : InvS w0 B lon a2 len2 cap2 a3 len3 cap3 k cs v (w.alloc o) := by
  obtain ⟨c0, c1, c2, c3, c4, f3, f4, hown, hs, hb⟩ := hi
  have a0 : ∀ j i : Nat, j < w.heap.size → (w.alloc o).cell? ⟨j, i, none⟩ = w.cell? ⟨j, i, none⟩ := fun j i h => World.cell?_alloc_lt _ _ _ h
  refine ⟨?_, ?_, ?_, ?_, ?_, ?_, ?_, hown.alloc o, ?_, ?_⟩
  · rw [a0 _ _ (by omega), c0]
  · rw [a0 _ _ (by omega), c1]
  · rw [a0 _ _ (by omega), c2]
  · rw [a0 _ _ (by omega), c3]
  · rw [a0 _ _ (by omega), c4]
  · rw [World.frozen?_alloc_past _ _ _ (by omega), f3]
  · rw [World.frozen?_alloc_past _ _ _ (by omega), f4]
  · simp; omega
  · exact hb.alloc (by omega) _

theorem no_succ {P : Nat → Prop} {k : Nat} (h : ∀ i, i < k → P i) (hk : P k) : ∀ i, i < k + 1 → P i := by
  intro i hi
  by_cases e : i = k
  · rw [e]; exact hk
  · exact h i (by omega)

set_option maxHeartbeats 800000 in
theorem newtonS (w0 : World) (B : Nat) (lon q0 lq : Int) (a2 : Option Addr) (len2 cap2 : Nat) (z2 : List Int) (a3 : Option Addr) (len3 cap3 : Nat) (z3 : List Int) (v : Value) (w : World)
    (w2 : IsRow .i8 w0 a2 len2 cap2 z2) (w3 : IsRow .u8 w0 a3 len3 cap3 z3) (hl2 : len2 ≤ 1024) (hl3 : len3 ≤ 1024) (hB : B = w0.heap.size) (hlon : -32768 ≤ lon ∧ lon ≤ 32767) (hq0 : -131072 ≤ q0 ∧ q0 ≤ 131072) (hlq : 0 ≤ lq ∧ lq ≤ 3)
    (hi : InvS w0 B lon a2 len2 cap2 a3 len3 cap3 0 [] v w) :
    Calls Yba.prog 8 #[.func (Fn.func 6) #[] #[.pointer (some ⟨B + 1 + 1 + 1, 0, none⟩), .pointer (some ⟨B + 1, 0, none⟩), .pointer (some ⟨B + 1 + 1, 0, none⟩), .pointer (some ⟨B + 1 + 1 + 1 + 1, 0, none⟩), .pointer (some ⟨B, 0, none⟩)], .float .f64 (Flo.F q0), .float .f64 (Flo.F (4 * lon)), .float .f64 (Flo.F (4 * lq))] w
      fun e w' => ∃ (n : Nat), (∃ (v' : Value), InvS w0 B lon a2 len2 cap2 a3 len3 cap3 n (askd z2 len2 z3 len3 q0 n) v' w') ∧
        ((∃ m, n = m + 1 ∧ n ≤ 10 ∧ e = .returned (.tuple #[.float .f64 (Flo.F (qOf z2 len2 z3 len3 q0 n)), .bool true]) ∧ ((sOf z2 len2 z3 len3 m).natAbs : Int) < 4 * lq ∧ ∀ i, i < m → 4 * lq ≤ ((sOf z2 len2 z3 len3 i).natAbs : Int)) ∨
         (n = 10 ∧ e = .returned (.tuple #[.float .f64 0, .bool false]) ∧ ∀ i, i < 10 → 4 * lq ≤ ((sOf z2 len2 z3 len3 i).natAbs : Int))) := by
  have g1 := st_flo
  have HB : Hid (B = w0.heap.size) := hB
  clear hB
  go_enter Yba.func8, Yba.ntmps8
  go_wp2_with fail
  go_loopw [1, 13] (fun t i w => ∃ (k : Nat) (v' : Value), k ≤ 10 ∧ i = .int .i64 k ∧ t = .float .f64 (Flo.F (qOf z2 len2 z3 len3 q0 k)) ∧ Hid (∀ i, i < k → 4 * lq ≤ ((sOf z2 len2 z3 len3 i).natAbs : Int)) ∧ InvS w0 B lon a2 len2 cap2 a3 len3 cap3 k (askd z2 len2 z3 len3 q0 k) v' w) (fun _ i _ => 10 - (intOf i).toNat)
  case atStart => exact ⟨0, v, by omega, rfl, rfl, fun i h => absurd h (by omega), hi⟩
  case round =>
    obtain ⟨k, v', hk, rfl, rfl, hno, hv⟩ := hrel
    by_cases hlt : k < 10
    · have hD := dOf_b z2 len2 k
      have hR := rOf_b z3 len3 k
      have hS := sOf_b z2 len2 z3 len3 k
      have hQ := qOf_b z2 len2 z3 len3 q0 hq0 k
      have g2 := f_sub lon (dOf z2 len2 k) hlon hD
      have g3 := f_quo (dOf z2 len2 k) (rOf z3 len3 k) hD hR
      have g4 := f_add (qOf z2 len2 z3 len3 q0 k) (sOf z2 len2 z3 len3 k) (by omega) (by omega)
      rw [qOf_succ] at g4
      rw [show dOf z2 len2 k * (4 / rOf z3 len3 k) = sOf z2 len2 z3 len3 k from rfl] at g3
      have g5 := f_lss ((sOf z2 len2 z3 len3 k).natAbs : Int) (4 * lq) (by omega) (by omega)
      have hsm := Flo.F_small (dOf z2 len2 k) hD
      have g6 := Flo.F_abs (sOf z2 len2 z3 len3 k) (by omega)
      clear hD hR hQ
      have HL : Hid (k < 10) := hlt
      by_cases hc : ((sOf z2 len2 z3 len3 k).natAbs : Int) < 4 * lq
      · rw [decide_eq_true hc] at g5
        go_wp2_with (first | (go_at_call 6; refine (clo6 w0 B lon a2 len2 cap2 z2 a3 len3 cap3 z3 k _ (askd z2 len2 z3 len3 q0 k) v' _ w2 w3 hl2 hl3 HB.out hlon hlt hv).mono ?_; rintro e w' ⟨rfl, v1, hv'⟩; rw [askd_succ] at hv') | (go_at_call 13; refine (Rem_any _ (Flo.F_lt _) _).mono ?_; rintro e w' ⟨r, rfl, hr, rfl⟩; obtain rfl := hr.out hsm; clear hr) | (go_at_call 14; refine (abs_any _ (Flo.F_lt _) _).mono ?_; rintro e w' ⟨rfl, rfl⟩))
        go_ret2
        exact ⟨k + 1, ⟨v1, hv'.alloc _⟩, .inl ⟨k, rfl, by omega, rfl, hc, hno.out⟩⟩
      · rw [decide_eq_false hc] at g5
        go_wp2_with (first | (go_at_call 6; refine (clo6 w0 B lon a2 len2 cap2 z2 a3 len3 cap3 z3 k _ (askd z2 len2 z3 len3 q0 k) v' _ w2 w3 hl2 hl3 HB.out hlon hlt hv).mono ?_; rintro e w' ⟨rfl, v1, hv'⟩; rw [askd_succ] at hv') | (go_at_call 13; refine (Rem_any _ (Flo.F_lt _) _).mono ?_; rintro e w' ⟨r, rfl, hr, rfl⟩; obtain rfl := hr.out hsm; clear hr) | (go_at_call 14; refine (abs_any _ (Flo.F_lt _) _).mono ?_; rintro e w' ⟨rfl, rfl⟩))
        go_roundw
        case rel => exact ⟨k + 1, v1, by omega, by go_num, rfl, no_succ hno.out hc, hv'.alloc _⟩
        case measure => simp [intOf]; omega
    · have hk' : k = 10 := by omega
      subst hk'
      go_wp2
      go_ret2
      exact ⟨10, ⟨v', hv⟩, .inr ⟨rfl, rfl, hno.out⟩⟩
end Go.Proofs.Ybulkcdzs
