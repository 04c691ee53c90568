import Derived.Test.YbulkcdzsNw
namespace Go.Proofs.Ybulkcdzs
open Go.ChangeShapes Go.WideShapes Go.ChangeAt Go.RowKit
set_option linter.unusedVariables false

theorem InvS.below {w0 : World} {B : Nat} {lon : Int} {a2 : Option Addr} {len2 cap2 : Nat} {a3 : Option Addr} {len3 cap3 : Nat} {k : Nat} {cs : List Nat} {v : Value} {w w' : World}
    (hi : InvS w0 B lon a2 len2 cap2 a3 len3 cap3 k cs v w) (hw : Below w.heap.size w w') : InvS w0 B lon a2 len2 cap2 a3 len3 cap3 k cs v w' := by
  obtain ⟨c0, c1, c2, c3, c4, f3, f4, hown, hs, hb⟩ := hi
  have a0 : ∀ j i : Nat, j < w.heap.size → w'.cell? ⟨j, i, none⟩ = w.cell? ⟨j, i, none⟩ := fun j i h => hw.cell h
  refine ⟨?_, ?_, ?_, ?_, ?_, ?_, ?_, ?_, ?_, ?_⟩
  · rw [a0 _ _ (by omega), c0]
  · rw [a0 _ _ (by omega), c1]
  · rw [a0 _ _ (by omega), c2]
  · rw [a0 _ _ (by omega), c3]
  · rw [a0 _ _ (by omega), c4]
  · rw [hw.frozen (by dsimp only; omega), f3]
  · rw [hw.frozen (by dsimp only; omega), f4]
  · obtain ⟨hx, h | ⟨g, cap, cur, hv, hbg, hcell, h1⟩⟩ := hown
    · exact ⟨hx, .inl h⟩
    · refine ⟨hx, .inr ⟨g, cap, cur, hv, hbg, ?_, h1⟩⟩
      have hlt : g < w.heap.size := by
        rcases Nat.lt_or_ge g w.heap.size with h | h
        · exact h
        · rw [Array.getElem?_eq_none h] at hcell; cases hcell
      rw [hw.block g hlt, hcell]
  · have := hw.size; omega
  · exact hb.trans (hw.mono (by omega))

theorem inv_begin (w : World) (lon : Int) (a2 : Option Addr) (len2 cap2 : Nat) (a3 : Option Addr) (len3 cap3 : Nat) :
    InvS w w.heap.size lon a2 len2 cap2 a3 len3 cap3 0 [] (.slice none 0 0) (((((w.alloc (Obj.cells #[.int .i16 lon] 22)).alloc (Obj.cells #[.slice a2 len2 cap2] 23)).alloc (Obj.cells #[.slice a3 len3 cap3] 24)).alloc (Obj.cells #[.slice none 0 0] 26)).alloc (Obj.cells #[.int .i64 0] 3)) := by
  refine ⟨?_, ?_, ?_, ?_, ?_, ?_, ?_, ?_, ?_, ?_⟩
  · simp [go_sem]
  · simp [go_sem]
  · simp [go_sem]
  · simp [go_sem]
  · simp [go_sem]
  · simp [go_sem]
  · simp [go_sem]
  · exact World.ownsRow_nil _ _ _ _
  · simp
  · exact (((((Below.refl _ _).alloc (Nat.le_refl _) _).alloc (by simp) _).alloc (by simp; omega) _).alloc (by simp; omega) _).alloc (by simp; omega) _

/-- the instants that the law expects -/
def exps (z2 : List Int) (len2 : Nat) (z3 : List Int) (len3 : Nat) (q0 : Int) (k : Nat) : List Value := (List.range k).map fun i => Value.int .i64 (qOf z2 len2 z3 len3 q0 i)
theorem exps_succ (z2 : List Int) (len2 : Nat) (z3 : List Int) (len3 : Nat) (q0 : Int) (k : Nat) : exps z2 len2 z3 len3 q0 k ++ [Value.int .i64 (qOf z2 len2 z3 len3 q0 k)] = exps z2 len2 z3 len3 q0 (k + 1) := by
  unfold exps; rw [List.range_succ, List.map_append]; rfl
theorem exps_at (z2 : List Int) (len2 : Nat) (z3 : List Int) (len3 : Nat) (q0 : Int) (k i : Nat) (h : i < k) : (exps z2 len2 z3 len3 q0 k)[i]? = some (.int .i64 (qOf z2 len2 z3 len3 q0 i)) := by
  unfold exps; simp [h]
theorem askd_at (z2 : List Int) (len2 : Nat) (z3 : List Int) (len3 : Nat) (q0 : Int) (k i : Nat) (h : i < k) : ((askd z2 len2 z3 len3 q0 k).map (Value.float .f64))[i]? = some (.float .f64 (Flo.F (qOf z2 len2 z3 len3 q0 i))) := by
  unfold askd; simp [h]

theorem own_form {w : World} {base : Nat} {e : TypeId} {v : Value} {n : Nat} {xs : List Value} (h : w.ownsRow base e 1 v n xs) (hn : 0 < n) :
    ∃ g cap, v = .slice (some ⟨g, 0, none⟩) n cap ∧ base ≤ g ∧ ∀ j, j < n → w.cell? ⟨g, j, none⟩ = xs[j]? := by
  have h' := h
  obtain ⟨hx, h1 | ⟨g, cap, cur, hv, hbg, hcell, h1, h2, h3, h4⟩⟩ := h
  · omega
  · subst hv
    exact ⟨g, cap, rfl, hbg, fun j hj => h'.cellAt j (by omega)⟩

theorem f_quo4 (n : Int) (h : n.natAbs < 1000000) (w : World) : (binOp .quo 25 (.float .f64 (Flo.F (4 * n))) (.float .f64 4616189618054758400)).run Yba.prog w = .ok (.float .f64 (Flo.F n)) w :=
  run_float_arith w .quo 25 .f64 _ _ _ (Flo.div4_F n (by omega))
theorem f_neq (n : Int) (h : n.natAbs < 1000000) : (FloatKind.f64.format.order (Flo.F n) (Flo.F n) != some .eq) = false := by
  rw [Flo.order_F n n (by omega) (by omega), Flo.icmp_eq]; rfl
theorem f_eql (n : Int) (h : n.natAbs < 1000000) : (FloatKind.f64.format.order (Flo.F n) (Flo.F n) == some .eq) = true := by
  rw [Flo.order_F n n (by omega) (by omega), Flo.icmp_eq]; rfl

set_option maxHeartbeats 800000 in
theorem long2 (a0 a1 : Int) (a2 : Option Addr) (len2 cap2 : Nat) (a3 : Option Addr) (len3 cap3 : Nat) (a4 : Int) (w : World) (h : 1024 < len2 ∨ 1024 < len3) :
    Calls Yba.prog 3 #[.int .i16 a0, .int .i16 a1, .slice a2 len2 cap2, .slice a3 len3 cap3, .int .u8 a4] w fun e w' => e = .returned (.bool true) ∧ Below w.heap.size w w' := by
  by_cases h2 : 1024 < len2
  · have h2' : (1024 : Int) < (len2 : Int) := by omega
    go_enter Yba.func3, Yba.ntmps3
    go_wp2
    go_ret
    exact ⟨rfl, (((Below.refl _ _).alloc (Nat.le_refl _) _).alloc (by simp) _).alloc (by simp; omega) _⟩
  · have h2' : (len2 : Int) ≤ 1024 := by omega
    have h3' : (1024 : Int) < (len3 : Int) := by omega
    go_enter Yba.func3, Yba.ntmps3
    go_wp2
    go_ret
    exact ⟨rfl, (((Below.refl _ _).alloc (Nat.le_refl _) _).alloc (by simp) _).alloc (by simp; omega) _⟩

set_option maxHeartbeats 800000 in
theorem walk3 (a0 a1 : Int) (a2 : Option Addr) (len2 cap2 : Nat) (z2 : List Int) (a3 : Option Addr) (len3 cap3 : Nat) (z3 : List Int) (a4 : Int) (w : World) (w0 : -32768 ≤ a0 ∧ a0 ≤ 32767) (w1 : -32768 ≤ a1 ∧ a1 ≤ 32767)
    (w2 : IsRow .i8 w a2 len2 cap2 z2) (w3 : IsRow .u8 w a3 len3 cap3 z3) (w4 : 0 ≤ a4 ∧ a4 ≤ 255) (hl2 : len2 ≤ 1024) (hl3 : len3 ≤ 1024) :
    Calls Yba.prog 3 #[.int .i16 a0, .int .i16 a1, .slice a2 len2 cap2, .slice a3 len3 cap3, .int .u8 a4] w fun e w' => e = .returned (.bool true) ∧ Below w.heap.size w w' := by
  have h2' : (len2 : Int) ≤ 1024 := by omega
  have h3' : (len3 : Int) ≤ 1024 := by omega
  have e1 := Flo.F_int a0 (by omega)
  have e2 := Flo.F_int a1 (by omega)
  have e3 := Flo.F_int (a4 % 4) (by omega)
  go_enter Yba.func3, Yba.ntmps3
  go_wp2_with fail
  refine (newtonS w w.heap.size a1 (4 * a0) (a4 % 4) a2 len2 cap2 z2 a3 len3 cap3 z3 (.slice none 0 0) _ w2 w3 hl2 hl3 rfl w1 (by omega) (by omega) (inv_begin w a1 a2 len2 cap2 a3 len3 cap3)).mono ?_
  rintro e wn ⟨n, ⟨v, hi⟩, ⟨m, rfl, hn, rfl, hst, hno⟩ | ⟨rfl, rfl, hno⟩⟩
  · obtain ⟨g, cap, hvf, _, _⟩ := own_form hi.2.2.2.2.2.2.2.1 (by omega)
    subst hvf
    have hi' : Hid (InvS w w.heap.size a1 a2 len2 cap2 a3 len3 cap3 (m + 1) (askd z2 len2 z3 len3 (4 * a0) (m + 1)) (.slice (some ⟨g, 0, none⟩) (m + 1) cap) wn) := hi
    obtain ⟨i0, hi0, hz0, hz1, hz2⟩ := info_parts info3
    have HN : Hid (∀ i, i < m → 4 * (a4 % 4) ≤ ((sOf z2 len2 z3 len3 i).natAbs : Int)) := hno
    clear hno
    clear hi
    go_wp2_with fail
    go_loopw [18, 19, 20, 21] (fun q x o i wr => ∃ k : Nat, k ≤ m ∧ i = .int .i64 k ∧ q = .int .i64 (qOf z2 len2 z3 len3 (4 * a0) k) ∧ o = .bool false ∧ wr.ownsRow wn.heap.size 3 1 x k (exps z2 len2 z3 len3 (4 * a0) k) ∧ Below wn.heap.size wn wr) (fun _ _ _ i _ => 10 - (intOf i).toNat)
    case atStart => exact ⟨0, by omega, rfl, rfl, rfl, World.ownsRow_nil _ _ _ _, Below.refl _ _⟩
    case round =>
      obtain ⟨k, hk, rfl, rfl, rfl, hown, hbl⟩ := hrel
      have hlt : k < 10 := by omega
      go_wp2_with (at_builtin; refine wpList_append_own _ rfl _ _ 34 rfl wn.heap.size 3 i0 (.int .i64 0) 1 8 Yba.underlying34 hi0 hz0 hz1 hz2 rfl (by decide) _ _ _ rfl (hown.alloc _) ⟨wr.heap.size, 0, none⟩ 1 1 [.int .i64 (qOf z2 len2 z3 len3 (4 * a0) k)] rfl rfl ?c1 ?c2 ?c3 ?c4 ?c5 ?_)
      case c1 =>
        intro j u hj
        match j, hj with
        | 0, hj => simp at hj; subst hj; simp [Addr.add, go_sem]
      case c2 => intro u hu; simp at hu; subst hu; rfl
      case c3 => unfold maxLen; omega
      case c4 => omega
      case c5 => have := hbl.size; simp; omega
      intro v' w1 hown' hgrow _
      rw [exps_succ] at hown'
      have hb1 : Below wn.heap.size wn w1 := (hbl.alloc hbl.size _).grown hgrow (by have := hbl.size; simp; omega) (fun j hj => (hown.lt j hj).1)
      obtain ⟨c0, c1, c2, c3, c4, _, _, hownC, hs, hbw⟩ := hi'.out.below hb1
      have HC : Hid (w1.ownsRow (w.heap.size + 5) 25 1 (.slice (some ⟨g, 0, none⟩) (m + 1) cap) (m + 1) ((askd z2 len2 z3 len3 (4 * a0) (m + 1)).map (Value.float .f64))) := hownC
      have HW : Hid (Below w.heap.size w w1) := hbw
      have HO : Hid (w1.ownsRow wn.heap.size 3 1 v' (k + 1) (exps z2 len2 z3 len3 (4 * a0) (k + 1))) := hown'
      have r2 := w2.below hbw
      have r3 := w3.below hbw
      have hD := dOf_b z2 len2 k
      have hR : 1 ≤ rOf z3 len3 k ∧ rOf z3 len3 k ≤ 4 := by rcases rOf_b z3 len3 k with e | e | e <;> omega
      have hS := sOf_b z2 len2 z3 len3 k
      have hQ := qOf_b z2 len2 z3 len3 (4 * a0) (by omega) k
      have gS : dOf z2 len2 k * (4 / rOf z3 len3 k) = sOf z2 len2 z3 len3 k := rfl
      have gS' : -12 ≤ dOf z2 len2 k * (4 / rOf z3 len3 k) ∧ dOf z2 len2 k * (4 / rOf z3 len3 k) ≤ 12 := hS
      have gQ := qOf_succ z2 len2 z3 len3 (4 * a0) k
      clear hgrow hown hbl c0 c4 hownC hown' hbw
      by_cases km : k < m
      · have hn := HN.out k km
        clear hst
        by_cases hneg : sOf z2 len2 z3 len3 k < 0
        · have hn' : 4 * (a4 % 4) ≤ -sOf z2 len2 z3 len3 k := by omega
          clear hn
          go_wp2_with (go_at_call 7; refine (step7 a2 len2 cap2 z2 a3 len3 cap3 z3 k _ r2 r3 (by omega) hl2 hl3).mono ?_; rintro e w' ⟨rfl, rfl⟩)
          go_roundw
          case rel => exact ⟨k + 1, by omega, by go_num, rfl, rfl, HO.out, hb1⟩
          case measure => simp [intOf]; omega
        · have hn' : 4 * (a4 % 4) ≤ sOf z2 len2 z3 len3 k := by omega
          clear hn
          go_wp2_with (go_at_call 7; refine (step7 a2 len2 cap2 z2 a3 len3 cap3 z3 k _ r2 r3 (by omega) hl2 hl3).mono ?_; rintro e w' ⟨rfl, rfl⟩)
          go_roundw
          case rel => exact ⟨k + 1, by omega, by go_num, rfl, rfl, HO.out, hb1⟩
          case measure => simp [intOf]; omega
      · have hkm : k = m := by omega
        subst hkm
        obtain ⟨g2, cap2', hv', _, hes⟩ := own_form HO.out (by omega)
        rw [hv']
        have HE : Hid (∀ j, j < k + 1 → w1.cell? ⟨g2, j, none⟩ = (exps z2 len2 z3 len3 (4 * a0) (k + 1))[j]?) := hes
        clear hes HO hv' km
        have hgo : (sOf z2 len2 z3 len3 k < 0 ∧ -sOf z2 len2 z3 len3 k < 4 * (a4 % 4)) ∨ (0 ≤ sOf z2 len2 z3 len3 k ∧ sOf z2 len2 z3 len3 k < 4 * (a4 % 4)) := by omega
        clear hst
        rcases hgo with ⟨hneg, hst⟩ | ⟨hneg, hst⟩
        all_goals
          go_wp2_with (go_at_call 7; refine (step7 a2 len2 cap2 z2 a3 len3 cap3 z3 k _ r2 r3 (by omega) hl2 hl3).mono ?_; rintro e w' ⟨rfl, rfl⟩)
          have hQ1 := qOf_b z2 len2 z3 len3 (4 * a0) (by omega) (k + 1)
          have t1 := Flo.F_int (qOf z2 len2 z3 len3 (4 * a0) (k + 1)) (by omega)
          have t2 := f_quo4 (qOf z2 len2 z3 len3 (4 * a0) (k + 1)) (by omega)
          have t3 := f_eql (qOf z2 len2 z3 len3 (4 * a0) (k + 1)) (by omega)
          clear gS gS' gQ hD hR hS hneg hst
          go_loopw [25] (fun i wr => ∃ j nq : Nat, j ≤ k + 1 ∧ i = .int .i64 j ∧ wr = w'.drewN nq) (fun i _ => k + 1 - (intOf i).toNat)
          case atStart => exact ⟨0, 0, by omega, rfl, rfl⟩
          case round =>
            obtain ⟨j, nq, hj, rfl, rfl⟩ := hrel
            by_cases hjl : j < k + 1
            · have k1 : w'.cell? ⟨g, j, none⟩ = some (.float .f64 (Flo.F (qOf z2 len2 z3 len3 (4 * a0) j))) := by rw [HC.out.cellAt j (by omega), askd_at _ _ _ _ _ _ _ hjl]
              have k2 : w'.cell? ⟨g2, j, none⟩ = some (.int .i64 (qOf z2 len2 z3 len3 (4 * a0) j)) := by rw [HE.out j hjl, exps_at _ _ _ _ _ _ _ hjl]
              have hQj := qOf_b z2 len2 z3 len3 (4 * a0) (by omega) j
              have u1 := Flo.F_int (qOf z2 len2 z3 len3 (4 * a0) j) (by omega)
              have u2 := f_quo4 (qOf z2 len2 z3 len3 (4 * a0) j) (by omega)
              have u3 := f_neq (qOf z2 len2 z3 len3 (4 * a0) j) (by omega)
              have hjI : (j : Int) < (k : Int) + 1 := by omega
              go_wp2_with fail
              go_quiet (fail)
              go_wp2
              go_roundw
              case rel => exact ⟨j + 1, _, by omega, by go_num, rfl⟩
              case measure => simp [intOf]; omega
            · have hjk : j = k + 1 := by omega
              subst hjk
              go_wp2
              go_ret
              exact ⟨rfl, below_drewN HW.out _⟩
  · obtain ⟨g, cap, hvf, _, _⟩ := own_form hi.2.2.2.2.2.2.2.1 (by omega)
    subst hvf
    have hi' : Hid (InvS w w.heap.size a1 a2 len2 cap2 a3 len3 cap3 10 (askd z2 len2 z3 len3 (4 * a0) 10) (.slice (some ⟨g, 0, none⟩) 10 cap) wn) := hi
    obtain ⟨i0, hi0, hz0, hz1, hz2⟩ := info_parts info3
    have HN : Hid (∀ i, i < 10 → 4 * (a4 % 4) ≤ ((sOf z2 len2 z3 len3 i).natAbs : Int)) := hno
    clear hno
    clear hi
    go_wp2_with fail
    go_loopw [18, 19, 20, 21] (fun q x o i wr => ∃ k : Nat, k ≤ 10 ∧ i = .int .i64 k ∧ q = .int .i64 (qOf z2 len2 z3 len3 (4 * a0) k) ∧ o = .bool false ∧ wr.ownsRow wn.heap.size 3 1 x k (exps z2 len2 z3 len3 (4 * a0) k) ∧ Below wn.heap.size wn wr) (fun _ _ _ i _ => 10 - (intOf i).toNat)
    case atStart => exact ⟨0, by omega, rfl, rfl, rfl, World.ownsRow_nil _ _ _ _, Below.refl _ _⟩
    case round =>
      obtain ⟨k, hk, rfl, rfl, rfl, hown, hbl⟩ := hrel
      by_cases hlt : k < 10
      · go_wp2_with (at_builtin; refine wpList_append_own _ rfl _ _ 34 rfl wn.heap.size 3 i0 (.int .i64 0) 1 8 Yba.underlying34 hi0 hz0 hz1 hz2 rfl (by decide) _ _ _ rfl (hown.alloc _) ⟨wr.heap.size, 0, none⟩ 1 1 [.int .i64 (qOf z2 len2 z3 len3 (4 * a0) k)] rfl rfl ?c1 ?c2 ?c3 ?c4 ?c5 ?_)
        case c1 =>
          intro j u hj
          match j, hj with
          | 0, hj => simp at hj; subst hj; simp [Addr.add, go_sem]
        case c2 => intro u hu; simp at hu; subst hu; rfl
        case c3 => unfold maxLen; omega
        case c4 => omega
        case c5 => have := hbl.size; simp; omega
        intro v' w1 hown' hgrow _
        rw [exps_succ] at hown'
        have hb1 : Below wn.heap.size wn w1 := (hbl.alloc hbl.size _).grown hgrow (by have := hbl.size; simp; omega) (fun j hj => (hown.lt j hj).1)
        obtain ⟨c0, c1, c2, c3, c4, _, _, hownC, hs, hbw⟩ := hi'.out.below hb1
        have HO : Hid (w1.ownsRow wn.heap.size 3 1 v' (k + 1) (exps z2 len2 z3 len3 (4 * a0) (k + 1))) := hown'
        have r2 := w2.below hbw
        have r3 := w3.below hbw
        have hD := dOf_b z2 len2 k
        have hR : 1 ≤ rOf z3 len3 k ∧ rOf z3 len3 k ≤ 4 := by rcases rOf_b z3 len3 k with e | e | e <;> omega
        have hS := sOf_b z2 len2 z3 len3 k
        have hQ := qOf_b z2 len2 z3 len3 (4 * a0) (by omega) k
        have gS : dOf z2 len2 k * (4 / rOf z3 len3 k) = sOf z2 len2 z3 len3 k := rfl
        have gS' : -12 ≤ dOf z2 len2 k * (4 / rOf z3 len3 k) ∧ dOf z2 len2 k * (4 / rOf z3 len3 k) ≤ 12 := hS
        have gQ := qOf_succ z2 len2 z3 len3 (4 * a0) k
        clear hgrow hown hbl c0 c3 c4 hownC hown' hbw
        have hn := HN.out k hlt
        by_cases hneg : sOf z2 len2 z3 len3 k < 0
        · have hn' : 4 * (a4 % 4) ≤ -sOf z2 len2 z3 len3 k := by omega
          clear hn
          go_wp2_with (go_at_call 7; refine (step7 a2 len2 cap2 z2 a3 len3 cap3 z3 k _ r2 r3 (by omega) hl2 hl3).mono ?_; rintro e w' ⟨rfl, rfl⟩)
          go_roundw
          case rel => exact ⟨k + 1, by omega, by go_num, rfl, rfl, HO.out, hb1⟩
          case measure => simp [intOf]; omega
        · have hn' : 4 * (a4 % 4) ≤ sOf z2 len2 z3 len3 k := by omega
          clear hn
          go_wp2_with (go_at_call 7; refine (step7 a2 len2 cap2 z2 a3 len3 cap3 z3 k _ r2 r3 (by omega) hl2 hl3).mono ?_; rintro e w' ⟨rfl, rfl⟩)
          go_roundw
          case rel => exact ⟨k + 1, by omega, by go_num, rfl, rfl, HO.out, hb1⟩
          case measure => simp [intOf]; omega
      · have hkk : k = 10 := by omega
        subst hkk
        obtain ⟨c0, c1, c2, c3, c4, _, _, hownC, hs, hbw⟩ := hi'.out.below hbl
        have HC : Hid (wr.ownsRow (w.heap.size + 5) 25 1 (.slice (some ⟨g, 0, none⟩) 10 cap) 10 ((askd z2 len2 z3 len3 (4 * a0) 10).map (Value.float .f64))) := hownC
        have HW : Hid (Below w.heap.size w wr) := hbw
        obtain ⟨g2, cap2', hv', _, hes⟩ := own_form hown (by omega)
        subst hv'
        have HE : Hid (∀ j, j < 10 → wr.cell? ⟨g2, j, none⟩ = (exps z2 len2 z3 len3 (4 * a0) 10)[j]?) := hes
        clear hes hown hownC c0 c1 c2 c4 hbw hbl
        have t3 : (FloatKind.f64.format.order 0 0 == some .eq) = true := by decide +kernel
        go_wp2
        go_loopw [25] (fun i wz => ∃ j nq : Nat, j ≤ 10 ∧ i = .int .i64 j ∧ wz = wr.drewN nq) (fun i _ => 10 - (intOf i).toNat)
        case atStart => exact ⟨0, 0, by omega, rfl, rfl⟩
        case round =>
          obtain ⟨j, nq, hj, rfl, rfl⟩ := hrel
          by_cases hjl : j < 10
          · have k1 : wr.cell? ⟨g, j, none⟩ = some (.float .f64 (Flo.F (qOf z2 len2 z3 len3 (4 * a0) j))) := by rw [HC.out.cellAt j (by omega), askd_at _ _ _ _ _ _ _ hjl]
            have k2 : wr.cell? ⟨g2, j, none⟩ = some (.int .i64 (qOf z2 len2 z3 len3 (4 * a0) j)) := by rw [HE.out j hjl, exps_at _ _ _ _ _ _ _ hjl]
            have hQj := qOf_b z2 len2 z3 len3 (4 * a0) (by omega) j
            have u1 := Flo.F_int (qOf z2 len2 z3 len3 (4 * a0) j) (by omega)
            have u2 := f_quo4 (qOf z2 len2 z3 len3 (4 * a0) j) (by omega)
            have u3 := f_neq (qOf z2 len2 z3 len3 (4 * a0) j) (by omega)
            have hjI : (j : Int) < 10 := by omega
            go_wp2_with fail
            go_quiet (fail)
            go_wp2
            go_roundw
            case rel => exact ⟨j + 1, _, by omega, by go_num, rfl⟩
            case measure => simp [intOf]; omega
          · have hjk : j = 10 := by omega
            subst hjk
            go_wp2
            go_ret
            exact ⟨rfl, below_drewN HW.out _⟩
end Go.Proofs.Ybulkcdzs
