import Derived.Test.YbulkcecyIx
import Derived.LaidEql
import Derived.Laws.AppendOwn
import Derived.Laws.OwnMore
import Derived.ArgAppend
import Derived.Deep.RegionHeldLaw
namespace Go.Proofs.Ybulkcecy
open Go.ChangeShapes Go.WideShapes Go.ChangeAt Go.RowKit
set_option linter.unusedVariables false

theorem info3 : (Yba.prog.info? 3).map (fun i => (i.zero, i.size, i.bytes)) = some (some (.int .i64 0), 1, 8) := by kernel_rfl

/-- the log: still the empty literal, or a row of one's own -/
def OwnZ (w : World) (base : Nat) (v : Value) (k : Nat) (xs : List Value) : Prop :=
  (k = 0 ∧ xs = [] ∧ ∃ x, v = .slice (some x) 0 0 ∧ x.block < base) ∨ w.ownsRow base 3 1 v k xs

theorem rebase {w : World} {b1 b2 e size : Nat} {v : Value} {n : Nat} {xs : List Value} (h : w.ownsRow b1 e size v n xs) (hb : b2 ≤ b1) : w.ownsRow b2 e size v n xs := by
  obtain ⟨h1, h2 | ⟨g, cap, cur, q1, q2, q3⟩⟩ := h
  · exact ⟨h1, .inl h2⟩
  · exact ⟨h1, .inr ⟨g, cap, cur, q1, by omega, q3⟩⟩

theorem run_append_z {w : World} {base : Nat} {v : Value} {k : Nat} {xs : List Value} (ty : TypeId) (h : OwnZ w base v k xs) (hb : base ≤ w.heap.size) (hk : k ≤ 8) (ad : Addr) (x : Value) (hx : x.oneCell' = true) (hc : w.cell? ad = some x) :
    ∃ v' w' row, (Builtin.append_ #[28, 28] ty #[v, .slice (some ad) 1 1]).run Yba.prog w = .ok v' w' ∧ w'.ownsRow base 3 1 v' (k + 1) (xs ++ [x]) ∧ w.grownBy w' row ∧ (∀ j, row = some j → base ≤ j ∧ v.ownBlock = some j) := by
  obtain ⟨i0, hi0, hz0, hz1, hz2⟩ := info_parts info3
  have hc' : ∀ j u, [x][j]? = some u → w.cell? (ad.add j) = some u := by
    intro j u hj
    match j, hj with
    | 0, hj => simp at hj; subst hj; simpa [Addr.add] using hc
  rcases h with ⟨rfl, rfl, y, rfl, _⟩ | h
  · obtain ⟨v', w', h1, h2, h3⟩ := run_append_arg_grows (P := Yba.prog) w 28 ty 3 i0 (.int .i64 0) 1 8 Yba.underlying28 hi0 hz0 hz1 hz2 rfl (by decide) y 0 0 [] rfl (by intro j u hj; simp at hj) ad 1 1 [x] rfl hc' (by omega) (by unfold maxLen; omega) (by omega)
    exact ⟨v', w', none, h1, rebase h2 hb, h3, fun j hj => by cases hj⟩
  · obtain ⟨v', w', h1, h2, h3, _⟩ := run_append_own (P := Yba.prog) w base 28 ty 3 i0 (.int .i64 0) 1 8 Yba.underlying28 hi0 hz0 hz1 hz2 rfl (by decide) v k xs h ad 1 1 [x] rfl hc' (by intro u hu; simp at hu; subst hu; exact hx) (by unfold maxLen; omega) (by omega) hb
    exact ⟨v', w', v.ownBlock, h1, h2, h3, fun j hj => ⟨(h.lt j hj).1, hj⟩⟩

theorem step_append_z {ops : Array Oper} {o : Oper} {a : Act} {w : World} {K : Act → World → Prop} {Q : Exit → Act → World → Prop} {E : Prop}
    (hg : o.guard = none) (s x : Operand) (hop : o.op = Op.call { callee := Callee.builtin Builtin.append, args := #[s, x], argTypes := #[28, 28] })
    (base : Nat) (v : Value) (k : Nat) (xs : List Value) (hs : a.eval s = v) (ad : Addr) (u : Value) (hx : a.eval x = .slice (some ad) 1 1) (hu : u.oneCell' = true)
    (h : OwnZ w base v k xs) (hb : base ≤ w.heap.size) (hk : k ≤ 8) (hc : w.cell? ad = some u)
    (hK : ∀ v' w' row, w'.ownsRow base 3 1 v' (k + 1) (xs ++ [u]) → w.grownBy w' row → (∀ j, row = some j → base ≤ j ∧ v.ownBlock = some j) → K (a.put o.dst v') w') :
    if Region.wanted o (yielded ops a.tmps) = true then Oper.wp Yba.prog o a w K Q else E := by
  have hw : Region.wanted o (yielded ops a.tmps) = true := by simp [Region.wanted, hg]
  rw [if_pos hw]
  obtain ⟨v', w', row, h1, h2, h3, h4⟩ := run_append_z o.type h hb hk ad u hu hc
  unfold Oper.wp
  simp [execOp, hop, resolve, invoke, builtin, hs, hx, h1, Result.andThen]
  exact hK v' w' row h2 h3 h4

theorem neq33 (w : World) (a : Addr) : (binOp .neq 33 (.iface 22 (.pointer (some a))) (.iface 22 (.pointer (some a)))).run Yba.prog w = .ok (.bool false) w := by
  have hinfo : (Yba.prog.info? 22).map (·.comparable) = some true := by kernel_rfl
  have hinfo2 : (Yba.prog.info? 24).isSome = true := by kernel_rfl
  obtain ⟨i, hi, hc⟩ := Option.map_eq_some_iff.1 hinfo
  obtain ⟨j, hj⟩ := Option.isSome_iff_exists.1 hinfo2
  simp only [binOp]
  simp [Op.equal, Op.maxDepth, run_equalIn_iface_ptr_same w 9998 a Yba.underlying33 Yba.underlying22 hi hc hj]
theorem eql26 (w : World) (a : Addr) : (binOp .eql 26 (.iface 55 (.pointer (some a))) (.iface 55 (.pointer (some a)))).run Yba.prog w = .ok (.bool true) w := by
  have hinfo : (Yba.prog.info? 55).map (·.comparable) = some true := by kernel_rfl
  have hinfo2 : (Yba.prog.info? 57).isSome = true := by kernel_rfl
  obtain ⟨i, hi, hc⟩ := Option.map_eq_some_iff.1 hinfo
  obtain ⟨j, hj⟩ := Option.isSome_iff_exists.1 hinfo2
  exact run_eql_iface_ptr_same w a Yba.underlying26 Yba.underlying55 hi hc hj

set_option maxHeartbeats 1600000 in
set_option maxRecDepth 100000 in
theorem newErr (s : ByteArray) (w : World) : Calls Yba.prog 5 #[.string s] w fun e w' => e = .returned (.iface 55 (.pointer (some ⟨w.heap.size, 0, none⟩))) ∧ w' = w.alloc (Obj.cells #[.string s] 57) := by
  go_enter Yba.func5, Yba.ntmps5
  go_wp2
  go_ret
  exact ⟨rfl, rfl⟩

abbrev ZV : Array Value := #[.int .u8 0, .int .u64 0, .string ⟨#[]⟩, .pointer none]

/-- the nodes and the flag -/
structure OBase (w0 : World) (base B D LG BD L R : Nat) (EL ER : Value) (a0 a1 : Bool) (w : World) : Prop where
  l0 : w.cell? ⟨L, 0, none⟩ = some (.int .i64 1)
  l1 : w.cell? ⟨L, 1, none⟩ = some (.bool a0)
  l2 : w.cell? ⟨L, 2, none⟩ = some EL
  l3 : w.cell? ⟨L, 3, none⟩ = some (.iface 22 (.pointer (some ⟨D, 0, none⟩)))
  l4 : w.cell? ⟨L, 4, none⟩ = some (.pointer (some ⟨LG, 0, none⟩))
  r0 : w.cell? ⟨R, 0, none⟩ = some (.int .i64 2)
  r1 : w.cell? ⟨R, 1, none⟩ = some (.bool a1)
  r2 : w.cell? ⟨R, 2, none⟩ = some ER
  r3 : w.cell? ⟨R, 3, none⟩ = some (.iface 22 (.pointer (some ⟨D, 0, none⟩)))
  r4 : w.cell? ⟨R, 4, none⟩ = some (.pointer (some ⟨LG, 0, none⟩))
  bd : w.cell? ⟨BD, 0, none⟩ = some (.bool false)
  lf : w.frozen? ⟨LG, 0, none⟩ = false
  nL : L < base ∧ L ≠ LG
  nR : R < base ∧ R ≠ LG
  nB : BD < base ∧ BD ≠ LG
  nG : LG < base ∧ B ≤ LG
  sz : base ≤ w.heap.size
  bl : Below B w0 w

structure OInv (w0 : World) (base B D LG BD L R : Nat) (EL ER : Value) (a0 a1 : Bool) (k : Nat) (xs : List Value) (v : Value) (w : World) : Prop where
  b : OBase w0 base B D LG BD L R EL ER a0 a1 w
  lg : w.cell? ⟨LG, 0, none⟩ = some v
  own : OwnZ w base v k xs

theorem OBase.next {w0 : World} {base B D LG BD L R : Nat} {EL ER : Value} {a0 a1 : Bool} {w w' : World} (h : OBase w0 base B D LG BD L R EL ER a0 a1 w)
    (hs : ∀ j, j < base → j ≠ LG → w'.heap[j]? = w.heap[j]?) (hf : w'.frozen? ⟨LG, 0, none⟩ = false) (hz : w.heap.size ≤ w'.heap.size) (hb : Below B w0 w') : OBase w0 base B D LG BD L R EL ER a0 a1 w' := by
  have kL : ∀ o, w'.cell? ⟨L, o, none⟩ = w.cell? ⟨L, o, none⟩ := fun o => World.cell?_of_block (hs L h.nL.1 h.nL.2)
  have kR : ∀ o, w'.cell? ⟨R, o, none⟩ = w.cell? ⟨R, o, none⟩ := fun o => World.cell?_of_block (hs R h.nR.1 h.nR.2)
  have kB : ∀ o, w'.cell? ⟨BD, o, none⟩ = w.cell? ⟨BD, o, none⟩ := fun o => World.cell?_of_block (hs BD h.nB.1 h.nB.2)
  exact ⟨(kL _).trans h.l0, (kL _).trans h.l1, (kL _).trans h.l2, (kL _).trans h.l3, (kL _).trans h.l4, (kR _).trans h.r0, (kR _).trans h.r1, (kR _).trans h.r2, (kR _).trans h.r3, (kR _).trans h.r4, (kB _).trans h.bd, hf, h.nL, h.nR, h.nB, h.nG, Nat.le_trans h.sz hz, hb⟩

theorem OInv.alloc {w0 : World} {base B D LG BD L R : Nat} {EL ER : Value} {a0 a1 : Bool} {k : Nat} {xs : List Value} {v : Value} {w : World} (h : OInv w0 base B D LG BD L R EL ER a0 a1 k xs v w) (o : Obj) : OInv w0 base B D LG BD L R EL ER a0 a1 k xs v (w.alloc o) := by
  have hsz := h.b.sz
  have hg := h.b.nG
  refine ⟨h.b.next (fun j hj _ => Below.heap_alloc _ _ _ (by omega)) ?_ (by simp) (h.b.bl.alloc (by omega) o), ?_, ?_⟩
  · rw [World.frozen?_alloc_past _ _ _ (by omega)]; exact h.b.lf
  · rw [World.cell?_alloc_lt _ _ _ (by dsimp only; omega)]; exact h.lg
  · rcases h.own with q | q
    · exact .inl q
    · exact .inr (q.alloc o)

/-- what the append leaves: the old blocks; the two new ones -/
theorem app_z {w0 : World} {base B D LG BD L R : Nat} {EL ER : Value} {a0 a1 : Bool} {k : Nat} {xs ys : List Value} {v v' : Value} {w w1 : World} {o2 : Obj} {row : Option Nat}
    (h : OInv w0 base B D LG BD L R EL ER a0 a1 k xs v w) (hown : w1.ownsRow base 3 1 v' (k + 1) ys) (hg : ((w.alloc (Obj.cells ZV 40)).alloc o2).grownBy w1 row) (hr : ∀ j, row = some j → base ≤ j ∧ v.ownBlock = some j) :
    (∀ j, j < w.heap.size → j ≠ LG → some j ≠ v.ownBlock → w1.heap[j]? = w.heap[j]?) ∧ (∀ j, j < base → w1.heap[j]? = w.heap[j]?) ∧ w1.heap[w.heap.size]? = some (Obj.cells ZV 40) ∧ (∃ g cap, v' = .slice (some ⟨g, 0, none⟩) (k + 1) cap ∧ base ≤ g ∧ g ≠ w.heap.size) ∧ w.heap.size + 1 < w1.heap.size ∧ Below B w0 w1 := by
  have hsz := h.b.sz
  have hG := h.b.nG
  have hlt : ∀ j, row = some j → j < w.heap.size := by
    intro j hj
    obtain ⟨q1, q2⟩ := hr j hj
    rcases h.own with ⟨_, _, y, hv, hy⟩ | q
    · rw [hv] at q2
      simp [Value.ownBlock] at q2
      omega
    · exact (q.lt j q2).2
  have n0 : some w.heap.size ≠ row := fun e => by have := hlt _ e.symm; omega
  have hs1 : w.heap.size + 1 < w1.heap.size := by have := hg.size; simp at this; omega
  have old : ∀ j, j < w.heap.size → some j ≠ row → w1.heap[j]? = w.heap[j]? := by
    intro j hj hn
    rw [hg.block j (by simp; omega) hn, Below.heap_alloc _ _ _ (by simp; omega), Below.heap_alloc _ _ _ hj]
  have mine : w1.heap[w.heap.size]? = some (Obj.cells ZV 40) := by
    rw [hg.block _ (by simp; omega) n0, Below.heap_alloc _ _ _ (by simp)]
    show (w.heap.push _)[w.heap.size]? = _
    rw [Array.getElem?_push_size]
  refine ⟨fun j hj _ hn => old j hj (fun e => hn (hr j e.symm).2.symm), fun j hj => old j (by omega) (fun e => by have := (hr j e.symm).1; omega), mine, ?_, hs1, ?_⟩
  · obtain ⟨hx, q | ⟨g, cap, cur, hv, hbg, hcell, h1, h2, h3, h4⟩⟩ := hown
    · exact absurd q.2 (by omega)
    · refine ⟨g, cap, hv, hbg, fun e => ?_⟩
      rw [e, mine] at hcell
      simp at hcell
  · exact Below.grown ((h.b.bl.alloc (by omega) _).alloc (by simp; omega) _) hg (by simp; omega) (fun j hj => by have := (hr j hj).1; omega)

theorem grow_far {w : World} {a : Addr} {u : Value} {j : Nat} (h : j ≠ a.block) : (w.setCell a u).heap[j]? = w.heap[j]? := Below.heap_setCell w a u j h

/-- after one node has been asked -/
theorem inv_z {w0 : World} {base B D LG BD L R : Nat} {EL ER : Value} {a0 a1 : Bool} {k g cap : Nat} {xs ys : List Value} {v : Value} {w w1 : World} (u0 u1 u2 u3 : Value)
    (h : OInv w0 base B D LG BD L R EL ER a0 a1 k xs v w) (hown : w1.ownsRow base 3 1 (.slice (some ⟨g, 0, none⟩) (k + 1) cap) (k + 1) ys)
    (hold : ∀ j, j < base → w1.heap[j]? = w.heap[j]?) (hg : base ≤ g) (hgn : g ≠ w.heap.size) (hs1 : w.heap.size + 1 < w1.heap.size) (hb1 : Below B w0 w1) :
    OInv w0 base B D LG BD L R EL ER a0 a1 (k + 1) ys (.slice (some ⟨g, 0, none⟩) (k + 1) cap)
      (((((w1.setCell ⟨LG, 0, none⟩ (.slice (some ⟨g, 0, none⟩) (k + 1) cap)).setCell ⟨w.heap.size, 0, none⟩ u0).setCell ⟨w.heap.size, 1, none⟩ u1).setCell ⟨w.heap.size, 2, none⟩ u2).setCell ⟨w.heap.size, 3, none⟩ u3) := by
  have hsz := h.b.sz
  have hG := h.b.nG
  refine ⟨h.b.next (fun j hj hne => ?_) ?_ (by simp; omega) (((((hb1.setCell (by dsimp only; omega) _).setCell (by dsimp only; omega) _).setCell (by dsimp only; omega) _).setCell (by dsimp only; omega) _).setCell (by dsimp only; omega) _), ?_, ?_⟩
  · rw [grow_far (by dsimp only; omega), grow_far (by dsimp only; omega), grow_far (by dsimp only; omega), grow_far (by dsimp only; omega), grow_far (by dsimp only; exact hne), hold j hj]
  · have : w1.frozen? ⟨LG, 0, none⟩ = false := by rw [World.frozen?_of_block (hold LG hG.1)]; exact h.b.lf
    simpa using this
  · have hc : w1.cell? ⟨LG, 0, none⟩ = some v := by rw [World.cell?_of_block (hold LG hG.1)]; exact h.lg
    rw [World.cell?_of_block (grow_far (by dsimp only; omega)), World.cell?_of_block (grow_far (by dsimp only; omega)), World.cell?_of_block (grow_far (by dsimp only; omega)), World.cell?_of_block (grow_far (by dsimp only; omega)), World.cell?_setCell_same _ _ _ hc]
  · right
    have q1 := hown.kept (grow_set w1 ⟨LG, 0, none⟩ (.slice (some ⟨g, 0, none⟩) (k + 1) cap)) (.inr (by simp [Value.ownBlock]; omega))
    have q2 := q1.kept (grow_set _ ⟨w.heap.size, 0, none⟩ u0) (.inr (by simp [Value.ownBlock]; omega))
    have q3 := q2.kept (grow_set _ ⟨w.heap.size, 1, none⟩ u1) (.inr (by simp [Value.ownBlock]; omega))
    have q4 := q3.kept (grow_set _ ⟨w.heap.size, 2, none⟩ u2) (.inr (by simp [Value.ownBlock]; omega))
    exact q4.kept (grow_set _ ⟨w.heap.size, 3, none⟩ u3) (.inr (by simp [Value.ownBlock]; omega))
end Go.Proofs.Ybulkcecy
