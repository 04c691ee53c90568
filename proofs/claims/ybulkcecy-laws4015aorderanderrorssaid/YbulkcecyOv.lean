import Derived.Test.YbulkcecyOe
namespace Go.Proofs.Ybulkcecy
open Go.ChangeShapes Go.WideShapes Go.ChangeAt Go.RowKit
set_option linter.unusedVariables false

theorem meth (a : Addr) (w : World) : (method 184 29 (.pointer (some a)) "example.com/operant/operant/internal/lang.eval").run Yba.prog w = .ok (24, .pointer (some a)) w := by kernel_rfl

abbrev setZ (w : World) (N : Nat) : World :=
  (((w.setCell ⟨N, 0, none⟩ (.int .u8 0)).setCell ⟨N, 1, none⟩ (.int .u64 0)).setCell ⟨N, 2, none⟩ (.string ⟨#[]⟩)).setCell ⟨N, 3, none⟩ (.pointer none)

theorem set_blk {w : World} {b o : Nat} {c : Array Value} {e : TypeId} {f : Nat × Nat} (u : Value) (h : w.heap[b]? = some (.cells c e f)) : (w.setCell ⟨b, o, none⟩ u).heap[b]? = some (.cells (c.setIfInBounds o u) e f) := by
  simp [World.setCell, Array.getElem?_modify, h]
theorem setZ_blk {w : World} {N : Nat} (h : w.heap[N]? = some (.cells ZV 40)) : (setZ w N).heap[N]? = some (.cells ZV 40) := by
  unfold setZ
  rw [set_blk _ (set_blk _ (set_blk _ (set_blk _ h)))]
  rfl
theorem setZ_far {w : World} {N j : Nat} (h : j ≠ N) : (setZ w N).heap[j]? = w.heap[j]? := by
  unfold setZ
  rw [grow_far (by dsimp only; exact h), grow_far (by dsimp only; exact h), grow_far (by dsimp only; exact h), grow_far (by dsimp only; exact h)]

theorem own_lt {w : World} {base : Nat} {v : Value} {k : Nat} {xs : List Value} (h : OwnZ w base v k xs) (hb : base ≤ w.heap.size) : ∀ j, v.ownBlock = some j → j < w.heap.size := by
  intro j hj
  rcases h with ⟨_, _, y, rfl, hy⟩ | q
  · simp [Value.ownBlock] at hj; omega
  · exact (q.lt j hj).2
theorem own_ne {w : World} {base : Nat} {v : Value} {k : Nat} {xs : List Value} (h : OwnZ w base v k xs) {N : Nat} (hN : base ≤ N) (hc : w.heap[N]? = some (.cells ZV 40)) : some N ≠ v.ownBlock := by
  intro e
  rcases h with ⟨_, _, y, rfl, hy⟩ | ⟨_, q | ⟨g, cap, cur, rfl, hbg, hcell, _⟩⟩
  · simp [Value.ownBlock] at e; omega
  · rw [q.1] at e; simp [Value.ownBlock] at e
  · simp [Value.ownBlock] at e
    subst e
    rw [hc] at hcell
    simp at hcell

theorem OInv.setZ {w0 : World} {base B D LG BD L R : Nat} {EL ER : Value} {a0 a1 : Bool} {k : Nat} {xs : List Value} {v : Value} {w : World} (h : OInv w0 base B D LG BD L R EL ER a0 a1 k xs v w) {N : Nat} (hN : base ≤ N) (hc : w.heap[N]? = some (.cells ZV 40)) :
    OInv w0 base B D LG BD L R EL ER a0 a1 k xs v (setZ w N) := by
  have hG := h.b.nG
  have hne := own_ne h.own hN hc
  have far : ∀ j, j < base → (Ybulkcecy.setZ w N).heap[j]? = w.heap[j]? := fun j hj => setZ_far (by omega)
  have f1 : (Ybulkcecy.setZ w N).frozen? ⟨LG, 0, none⟩ = false := by
    have := World.frozen?_of_block (a := ⟨LG, 0, none⟩) (far LG hG.1)
    rw [this]; exact h.b.lf
  have f2 : (Ybulkcecy.setZ w N).cell? ⟨LG, 0, none⟩ = some v := by
    have := World.cell?_of_block (a := ⟨LG, 0, none⟩) (far LG hG.1)
    rw [this]; exact h.lg
  refine ⟨h.b.next (fun j hj _ => far j hj) f1 (by simp) ((((h.b.bl.setCell (by dsimp only; omega) _).setCell (by dsimp only; omega) _).setCell (by dsimp only; omega) _).setCell (by dsimp only; omega) _), f2, ?_⟩
  rcases h.own with q | q
  · exact .inl q
  · right
    have hne' : v.ownBlock ≠ some N := fun e => hne e.symm
    exact (((q.kept (grow_set _ _ _) (.inr hne')).kept (grow_set _ _ _) (.inr hne')).kept (grow_set _ _ _) (.inr hne')).kept (grow_set _ _ _) (.inr hne')

theorem locs {w : World} {N : Nat} (h : w.heap[N]? = some (.cells ZV 40)) :
    w.cell? ⟨N, 0, none⟩ = some (.int .u8 0) ∧ w.cell? ⟨N, 1, none⟩ = some (.int .u64 0) ∧ w.cell? ⟨N, 2, none⟩ = some (.string ⟨#[]⟩) ∧ w.cell? ⟨N, 3, none⟩ = some (.pointer none) ∧
    w.frozen? ⟨N, 0, none⟩ = false ∧ w.frozen? ⟨N, 1, none⟩ = false ∧ w.frozen? ⟨N, 2, none⟩ = false ∧ w.frozen? ⟨N, 3, none⟩ = false := by
  refine ⟨?_, ?_, ?_, ?_, ?_, ?_, ?_, ?_⟩
  all_goals simp [World.cell?, World.frozen?, h]

/-- what the first asking leaves of the two results' places -/
theorem blk_alloc2 (w : World) : ((w.alloc (.cells ZV 40)).alloc (.cells ZV 40)).heap[w.heap.size]? = some (.cells ZV 40) ∧ ((w.alloc (.cells ZV 40)).alloc (.cells ZV 40)).heap[w.heap.size + 1]? = some (.cells ZV 40) := by
  constructor
  · rw [Below.heap_alloc _ _ _ (by simp)]
    show (w.heap.push _)[w.heap.size]? = _
    rw [Array.getElem?_push_size]
  · show ((w.heap.push _).push _)[w.heap.size + 1]? = _
    rw [show w.heap.size + 1 = (w.heap.push (Obj.cells ZV 40)).size by simp, Array.getElem?_push_size]

theorem after1 {w0 : World} {base B D LG BD L R : Nat} {EL ER : Value} {a0 a1 : Bool} {k : Nat} {xs : List Value} {v : Value} {w w1 : World} (h : OInv w0 base B D LG BD L R EL ER a0 a1 k xs v w)
    (hk1 : ∀ j, j < ((w.alloc (.cells ZV 40)).alloc (.cells ZV 40)).heap.size → j ≠ LG → some j ≠ v.ownBlock → w1.heap[j]? = ((w.alloc (.cells ZV 40)).alloc (.cells ZV 40)).heap[j]?) :
    w1.heap[w.heap.size]? = some (.cells ZV 40) ∧ w1.heap[w.heap.size + 1]? = some (.cells ZV 40) := by
  have hG := h.b.nG
  have hsz := h.b.sz
  have hlt := own_lt h.own h.b.sz
  constructor
  · rw [hk1 _ (by rw [World.size_alloc, World.size_alloc]; omega) (by omega) (fun e => by have := hlt _ e.symm; omega)]; exact (blk_alloc2 w).1
  · rw [hk1 _ (by rw [World.size_alloc, World.size_alloc]; omega) (by omega) (fun e => by have := hlt _ e.symm; omega)]; exact (blk_alloc2 w).2

theorem after2 {w0 : World} {base B D LG BD L R : Nat} {EL ER : Value} {a0 a1 : Bool} {k : Nat} {xs : List Value} {v : Value} {w1 w2 : World} {N : Nat} (h : OInv w0 base B D LG BD L R EL ER a0 a1 k xs v w1) (hN : base ≤ N)
    (b : w1.heap[N]? = some (.cells ZV 40) ∧ w1.heap[N + 1]? = some (.cells ZV 40))
    (hk : ∀ j, j < (setZ w1 N).heap.size → j ≠ LG → some j ≠ v.ownBlock → w2.heap[j]? = (setZ w1 N).heap[j]?) :
    w2.heap[N]? = some (.cells ZV 40) ∧ w2.heap[N + 1]? = some (.cells ZV 40) := by
  have hG := h.b.nG
  have s1 := setZ_blk b.1
  have s2 : (setZ w1 N).heap[N + 1]? = some (.cells ZV 40) := (setZ_far (by omega)).trans b.2
  constructor
  · rw [hk N (Array.getElem?_eq_some_iff.1 s1).1 (by omega) (own_ne h.own hN b.1)]; exact s1
  · rw [hk (N + 1) (Array.getElem?_eq_some_iff.1 s2).1 (by omega) (own_ne h.own (by omega) b.2)]; exact s2

set_option maxHeartbeats 3200000 in
set_option maxRecDepth 100000 in
theorem both_L {w0 : World} {base B D LG BD L R : Nat} {eL : Addr} {ER : Value} {a1 : Bool} {k : Nat} {xs : List Value} {v : Value} {w : World} (h : OInv w0 base B D LG BD L R (.iface 55 (.pointer (some eL))) ER true a1 k xs v w) (hk : k ≤ 8) :
    Calls Yba.prog 6 #[.iface 22 (.pointer (some ⟨D, 0, none⟩)), .iface 29 (.pointer (some ⟨L, 0, none⟩)), .iface 29 (.pointer (some ⟨R, 0, none⟩))] w fun e w' => e = .returned (.tuple #[.agg ZV, .agg ZV, .iface 55 (.pointer (some eL))]) ∧
      ∃ v', OInv w0 base B D LG BD L R (.iface 55 (.pointer (some eL))) ER true a1 (k + 1) (xs ++ [.int .i64 1]) v' w' := by
  have hm := meth
  have HA : Hid (OInv w0 base B D LG BD L R (.iface 55 (.pointer (some eL))) ER true a1 k xs v ((w.alloc (.cells ZV 40)).alloc (.cells ZV 40))) := (h.alloc (.cells ZV 40)).alloc (.cells ZV 40)
  have HW : Hid (OInv w0 base B D LG BD L R (.iface 55 (.pointer (some eL))) ER true a1 k xs v w) := h
  have hbN := h.b.sz
  clear h
  go_enter Yba.func6, Yba.ntmps6
  go_wp2_with ((
    go_at_call 24
    refine (eval_c HA.out hk L 1 true (.iface 55 (.pointer (some eL))) HA.out.b.nL.1 HA.out.b.nL.2 HA.out.b.l0 HA.out.b.l1 HA.out.b.l2 HA.out.b.l3 HA.out.b.l4).mono ?_
    rintro e w1 ⟨rfl, v1, hI1, hs1, hk1⟩
    have HB : Hid (w1.heap[w.heap.size]? = some (.cells ZV 40) ∧ w1.heap[w.heap.size + 1]? = some (.cells ZV 40)) := after1 HW.out hk1
    have HI1 : Hid (OInv w0 base B D LG BD L R (.iface 55 (.pointer (some eL))) ER true a1 (k + 1) (xs ++ [.int .i64 1]) v1 w1) := hI1
    obtain ⟨q0, q1, q2, q3, q4, q5, q6, q7⟩ := locs HB.out.1
    obtain ⟨r0, r1, r2, r3, r4, r5, r6, r7⟩ := locs HB.out.2
    clear hI1 hs1 hk1))
  have zz : OInv w0 base B D LG BD L R (.iface 55 (.pointer (some eL))) ER true a1 (k + 1) (xs ++ [.int .i64 1]) v1 (setZ (setZ (setZ w1 w.heap.size) w.heap.size) (w.heap.size + 1)) := ((HI1.out.setZ hbN HB.out.1).setZ hbN (setZ_blk HB.out.1)).setZ (Nat.le_succ_of_le hbN) ((setZ_far (by omega)).trans ((setZ_far (by omega)).trans HB.out.2))
  have bN : (setZ (setZ (setZ w1 w.heap.size) w.heap.size) (w.heap.size + 1)).heap[w.heap.size]? = some (.cells ZV 40) := (setZ_far (by omega)).trans (setZ_blk (setZ_blk HB.out.1))
  have bM : (setZ (setZ (setZ w1 w.heap.size) w.heap.size) (w.heap.size + 1)).heap[w.heap.size + 1]? = some (.cells ZV 40) := setZ_blk ((setZ_far (by omega)).trans ((setZ_far (by omega)).trans HB.out.2))
  change bodyPost _ _ _ _ _ (setZ (setZ (setZ w1 w.heap.size) w.heap.size) (w.heap.size + 1))
  generalize setZ (setZ (setZ w1 w.heap.size) w.heap.size) (w.heap.size + 1) = WW at zz bN bM ⊢
  obtain ⟨z0, z1, z2, z3, _⟩ := locs bN
  obtain ⟨y0, y1, y2, y3, _⟩ := locs bM
  exact bodyPost_ret (v := .tuple #[.agg ZV, .agg ZV, .iface 55 (.pointer (some eL))]) (by simp [results, Yba.results6, go_sem, z0, z1, z2, z3, y0, y1, y2, y3]) rfl ⟨rfl, v1, zz⟩

set_option maxHeartbeats 3200000 in
set_option maxRecDepth 100000 in
theorem both_R {w0 : World} {base B D LG BD L R : Nat} {EL : Value} {eR : Addr} {k : Nat} {xs : List Value} {v : Value} {w : World} (h : OInv w0 base B D LG BD L R EL (.iface 55 (.pointer (some eR))) false true k xs v w) (hk : k ≤ 7) :
    Calls Yba.prog 6 #[.iface 22 (.pointer (some ⟨D, 0, none⟩)), .iface 29 (.pointer (some ⟨L, 0, none⟩)), .iface 29 (.pointer (some ⟨R, 0, none⟩))] w fun e w' => e = .returned (.tuple #[.agg ZV, .agg ZV, .iface 55 (.pointer (some eR))]) ∧
      ∃ v', OInv w0 base B D LG BD L R EL (.iface 55 (.pointer (some eR))) false true (k + 1 + 1) (xs ++ [.int .i64 1] ++ [.int .i64 2]) v' w' := by
  have hm := meth
  have HA : Hid (OInv w0 base B D LG BD L R EL (.iface 55 (.pointer (some eR))) false true k xs v ((w.alloc (.cells ZV 40)).alloc (.cells ZV 40))) := (h.alloc (.cells ZV 40)).alloc (.cells ZV 40)
  have HW : Hid (OInv w0 base B D LG BD L R EL (.iface 55 (.pointer (some eR))) false true k xs v w) := h
  have hbN := h.b.sz
  clear h
  go_enter Yba.func6, Yba.ntmps6
  go_wp2_with (first
   | (
    go_at_call 24
    refine (eval_c HI1.out (by omega) R 2 true (.iface 55 (.pointer (some eR))) HI1.out.b.nR.1 HI1.out.b.nR.2 HI1.out.b.r0 HI1.out.b.r1 HI1.out.b.r2 HI1.out.b.r3 HI1.out.b.r4).mono ?_
    rintro e w2 ⟨rfl, v2, hI2, hs2, hk2⟩
    have HB2 : Hid (w2.heap[w.heap.size]? = some (.cells ZV 40) ∧ w2.heap[w.heap.size + 1]? = some (.cells ZV 40)) := after2 HI0.out hbN HB.out hk2
    have HI2 : Hid (OInv w0 base B D LG BD L R EL (.iface 55 (.pointer (some eR))) false true (k + 1 + 1) (xs ++ [.int .i64 1] ++ [.int .i64 2]) v2 w2) := hI2
    obtain ⟨s0, s1, s2, s3, s4, s5, s6, s7⟩ := locs HB2.out.1
    obtain ⟨t0, t1, t2, t3, t4, t5, t6, t7⟩ := locs HB2.out.2
    clear hI2 hs2 hk2 q0 q1 q2 q3 q4 q5 q6 q7)
   | (
    go_at_call 24
    refine (eval_c HA.out (by omega) L 1 false EL HA.out.b.nL.1 HA.out.b.nL.2 HA.out.b.l0 HA.out.b.l1 HA.out.b.l2 HA.out.b.l3 HA.out.b.l4).mono ?_
    rintro e w1 ⟨rfl, v1, hI1, hs1, hk1⟩
    have HB : Hid (w1.heap[w.heap.size]? = some (.cells ZV 40) ∧ w1.heap[w.heap.size + 1]? = some (.cells ZV 40)) := after1 HW.out hk1
    have HI0 : Hid (OInv w0 base B D LG BD L R EL (.iface 55 (.pointer (some eR))) false true (k + 1) (xs ++ [.int .i64 1]) v1 w1) := hI1
    have HI1 : Hid (OInv w0 base B D LG BD L R EL (.iface 55 (.pointer (some eR))) false true (k + 1) (xs ++ [.int .i64 1]) v1 (setZ w1 w.heap.size)) := hI1.setZ hbN HB.out.1
    obtain ⟨q0, q1, q2, q3, q4, q5, q6, q7⟩ := locs HB.out.1
    clear hI1 hs1 hk1))
  have zz : OInv w0 base B D LG BD L R EL (.iface 55 (.pointer (some eR))) false true (k + 1 + 1) (xs ++ [.int .i64 1] ++ [.int .i64 2]) v2 (setZ (setZ (setZ w2 (w.heap.size + 1)) w.heap.size) (w.heap.size + 1)) := ((HI2.out.setZ (Nat.le_succ_of_le hbN) HB2.out.2).setZ hbN ((setZ_far (by omega)).trans HB2.out.1)).setZ (Nat.le_succ_of_le hbN) ((setZ_far (by omega)).trans (setZ_blk HB2.out.2))
  have bN : (setZ (setZ (setZ w2 (w.heap.size + 1)) w.heap.size) (w.heap.size + 1)).heap[w.heap.size]? = some (.cells ZV 40) := (setZ_far (by omega)).trans (setZ_blk ((setZ_far (by omega)).trans HB2.out.1))
  have bM : (setZ (setZ (setZ w2 (w.heap.size + 1)) w.heap.size) (w.heap.size + 1)).heap[w.heap.size + 1]? = some (.cells ZV 40) := setZ_blk ((setZ_far (by omega)).trans (setZ_blk HB2.out.2))
  change bodyPost _ _ _ _ _ (setZ (setZ (setZ w2 (w.heap.size + 1)) w.heap.size) (w.heap.size + 1))
  generalize setZ (setZ (setZ w2 (w.heap.size + 1)) w.heap.size) (w.heap.size + 1) = WW at zz bN bM ⊢
  obtain ⟨z0, z1, z2, z3, _⟩ := locs bN
  obtain ⟨y0, y1, y2, y3, _⟩ := locs bM
  exact bodyPost_ret (v := .tuple #[.agg ZV, .agg ZV, .iface 55 (.pointer (some eR))]) (by simp [results, Yba.results6, go_sem, z0, z1, z2, z3, y0, y1, y2, y3]) rfl ⟨rfl, v2, zz⟩

set_option maxHeartbeats 3200000 in
set_option maxRecDepth 100000 in
theorem both_N {w0 : World} {base B D LG BD L R : Nat} {EL : Value} {eR : Addr} {k : Nat} {xs : List Value} {v : Value} {w : World} (h : OInv w0 base B D LG BD L R EL (.iface 55 (.pointer (some eR))) false false k xs v w) (hk : k ≤ 7) :
    Calls Yba.prog 6 #[.iface 22 (.pointer (some ⟨D, 0, none⟩)), .iface 29 (.pointer (some ⟨L, 0, none⟩)), .iface 29 (.pointer (some ⟨R, 0, none⟩))] w fun e w' => e = .returned (.tuple #[.agg ZV, .agg ZV, .nilIface]) ∧
      ∃ v', OInv w0 base B D LG BD L R EL (.iface 55 (.pointer (some eR))) false false (k + 1 + 1) (xs ++ [.int .i64 1] ++ [.int .i64 2]) v' w' := by
  have hm := meth
  have HA : Hid (OInv w0 base B D LG BD L R EL (.iface 55 (.pointer (some eR))) false false k xs v ((w.alloc (.cells ZV 40)).alloc (.cells ZV 40))) := (h.alloc (.cells ZV 40)).alloc (.cells ZV 40)
  have HW : Hid (OInv w0 base B D LG BD L R EL (.iface 55 (.pointer (some eR))) false false k xs v w) := h
  have hbN := h.b.sz
  clear h
  go_enter Yba.func6, Yba.ntmps6
  go_wp2_with (first
   | (
    go_at_call 24
    refine (eval_c HI1.out (by omega) R 2 false (.iface 55 (.pointer (some eR))) HI1.out.b.nR.1 HI1.out.b.nR.2 HI1.out.b.r0 HI1.out.b.r1 HI1.out.b.r2 HI1.out.b.r3 HI1.out.b.r4).mono ?_
    rintro e w2 ⟨rfl, v2, hI2, hs2, hk2⟩
    have HB2 : Hid (w2.heap[w.heap.size]? = some (.cells ZV 40) ∧ w2.heap[w.heap.size + 1]? = some (.cells ZV 40)) := after2 HI0.out hbN HB.out hk2
    have HI2 : Hid (OInv w0 base B D LG BD L R EL (.iface 55 (.pointer (some eR))) false false (k + 1 + 1) (xs ++ [.int .i64 1] ++ [.int .i64 2]) v2 w2) := hI2
    obtain ⟨s0, s1, s2, s3, s4, s5, s6, s7⟩ := locs HB2.out.1
    obtain ⟨t0, t1, t2, t3, t4, t5, t6, t7⟩ := locs HB2.out.2
    clear hI2 hs2 hk2 q0 q1 q2 q3 q4 q5 q6 q7)
   | (
    go_at_call 24
    refine (eval_c HA.out (by omega) L 1 false EL HA.out.b.nL.1 HA.out.b.nL.2 HA.out.b.l0 HA.out.b.l1 HA.out.b.l2 HA.out.b.l3 HA.out.b.l4).mono ?_
    rintro e w1 ⟨rfl, v1, hI1, hs1, hk1⟩
    have HB : Hid (w1.heap[w.heap.size]? = some (.cells ZV 40) ∧ w1.heap[w.heap.size + 1]? = some (.cells ZV 40)) := after1 HW.out hk1
    have HI0 : Hid (OInv w0 base B D LG BD L R EL (.iface 55 (.pointer (some eR))) false false (k + 1) (xs ++ [.int .i64 1]) v1 w1) := hI1
    have HI1 : Hid (OInv w0 base B D LG BD L R EL (.iface 55 (.pointer (some eR))) false false (k + 1) (xs ++ [.int .i64 1]) v1 (setZ w1 w.heap.size)) := hI1.setZ hbN HB.out.1
    obtain ⟨q0, q1, q2, q3, q4, q5, q6, q7⟩ := locs HB.out.1
    clear hI1 hs1 hk1))
  have zx : Hid (OInv w0 base B D LG BD L R EL (.iface 55 (.pointer (some eR))) false false (k + 1 + 1) (xs ++ [.int .i64 1] ++ [.int .i64 2]) v2 (setZ w2 (w.heap.size + 1))) := HI2.out.setZ (Nat.le_succ_of_le hbN) HB2.out.2
  have bN : Hid ((setZ w2 (w.heap.size + 1)).heap[w.heap.size]? = some (.cells ZV 40)) := (setZ_far (by omega)).trans HB2.out.1
  have bM : Hid ((setZ w2 (w.heap.size + 1)).heap[w.heap.size + 1]? = some (.cells ZV 40)) := setZ_blk HB2.out.2
  change Code.wp _ _ _ _ (setZ w2 (w.heap.size + 1))
  generalize setZ w2 (w.heap.size + 1) = wx at zx bN bM ⊢
  clear HB2 HI2 s0 s1 s2 s3 s4 s5 s6 s7 t0 t1 t2 t3 t4 t5 t6 t7
  obtain ⟨z0, z1, z2, z3, z4, z5, z6, z7⟩ := locs bN.out
  obtain ⟨y0, y1, y2, y3, y4, y5, y6, y7⟩ := locs bM.out
  go_region
  all_goals (try go_wp2_with fail)
  have zz : OInv w0 base B D LG BD L R EL (.iface 55 (.pointer (some eR))) false false (k + 1 + 1) (xs ++ [.int .i64 1] ++ [.int .i64 2]) v2 (setZ (setZ wx w.heap.size) (w.heap.size + 1)) := (zx.out.setZ hbN bN.out).setZ (Nat.le_succ_of_le hbN) ((setZ_far (by omega)).trans bM.out)
  have dN : (setZ (setZ wx w.heap.size) (w.heap.size + 1)).heap[w.heap.size]? = some (.cells ZV 40) := (setZ_far (by omega)).trans (setZ_blk bN.out)
  have dM : (setZ (setZ wx w.heap.size) (w.heap.size + 1)).heap[w.heap.size + 1]? = some (.cells ZV 40) := setZ_blk ((setZ_far (by omega)).trans bM.out)
  change bodyPost _ _ _ _ _ (setZ (setZ wx w.heap.size) (w.heap.size + 1)).drew
  generalize setZ (setZ wx w.heap.size) (w.heap.size + 1) = WW at zz dN dM ⊢
  obtain ⟨p0, p1, p2, p3, _⟩ := locs dN
  obtain ⟨o0, o1, o2, o3, _⟩ := locs dM
  exact bodyPost_ret (v := .tuple #[.agg ZV, .agg ZV, .nilIface]) (by simp [results, Yba.results6, go_sem, p0, p1, p2, p3, o0, o1, o2, o3]) rfl ⟨rfl, v2, zz.same rfl rfl rfl rfl⟩
end Go.Proofs.Ybulkcecy
