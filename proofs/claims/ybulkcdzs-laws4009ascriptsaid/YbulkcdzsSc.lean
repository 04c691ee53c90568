import Derived.Test.YbulkcdzsSt
import Derived.Laws.NewFold
import Derived.Deep.QuietTactic
import Derived.BigQuiet
import Derived.WalkSmall
import Derived.OwnWalk
namespace Go.Proofs.Ybulkcdzs
open Go.ChangeShapes Go.WideShapes Go.ChangeAt Go.RowKit
set_option linter.unusedVariables false
theorem info25 : (Yba.prog.info? 25).map (fun i => (i.zero, i.size, i.bytes)) = some (some (.float .f64 0), 1, 8) := by kernel_rfl
theorem info3 : (Yba.prog.info? 3).map (fun i => (i.zero, i.size, i.bytes)) = some (some (.int .i64 0), 1, 8) := by kernel_rfl

theorem st_flo (a : Addr) (x : Nat) (m : Mode) (w : World) : (store a (.float .f64 x) m).run Yba.prog w = stored Yba.prog w a (.float .f64 x) m := run_store Yba.prog w a _ m rfl

/-- what lies in the call's own memory while the scripted Sun is asked: the longitude, the two scripts, the instants asked so far, the count -/
def InvS (w0 : World) (B : Nat) (lon : Int) (a2 : Option Addr) (len2 cap2 : Nat) (a3 : Option Addr) (len3 cap3 : Nat) (k : Nat) (cs : List Nat) (v : Value) (w : World) : Prop :=
  w.cell? ⟨B, 0, none⟩ = some (.int .i16 lon) ∧ w.cell? ⟨B + 1, 0, none⟩ = some (.slice a2 len2 cap2) ∧ w.cell? ⟨B + 1 + 1, 0, none⟩ = some (.slice a3 len3 cap3) ∧
  w.cell? ⟨B + 1 + 1 + 1, 0, none⟩ = some v ∧ w.cell? ⟨B + 1 + 1 + 1 + 1, 0, none⟩ = some (.int .i64 k) ∧
  w.frozen? ⟨B + 1 + 1 + 1, 0, none⟩ = false ∧ w.frozen? ⟨B + 1 + 1 + 1 + 1, 0, none⟩ = false ∧
  w.ownsRow (B + 5) 25 1 v k (cs.map (Value.float .f64)) ∧ B + 1 + 1 + 1 + 1 < w.heap.size ∧ Below B w0 w

theorem grownBy_setCell (w : World) (a : Addr) (u : Value) : w.grownBy (w.setCell a u) (some a.block) :=
  ⟨rfl, rfl, rfl, by simp, fun k hk hne => Below.heap_setCell w a u k (fun e => hne (by rw [e]))⟩

theorem InvS.blk {w0 : World} {B : Nat} {lon : Int} {a2 : Option Addr} {len2 cap2 : Nat} {a3 : Option Addr} {len3 cap3 : Nat} {k : Nat} {cs : List Nat} {v : Value} {w : World}
    (hi : InvS w0 B lon a2 len2 cap2 a3 len3 cap3 k cs v w) (j : Nat) (hj : j < B + 5) : some j ≠ v.ownBlock := by
  obtain ⟨c0, c1, c2, c3, c4, f3, f4, hown, hs, hb⟩ := hi
  intro h
  have := (hown.lt j h.symm).1
  omega

/-- what the append leaves -/
theorem app_facts {w0 : World} {B : Nat} {lon : Int} {a2 : Option Addr} {len2 cap2 : Nat} {a3 : Option Addr} {len3 cap3 : Nat} {k : Nat} {cs : List Nat} {v : Value} {w : World}
    (hi : InvS w0 B lon a2 len2 cap2 a3 len3 cap3 k cs v w) {o2 : Obj} {v' : Value} {w1 : World} {xs : List Value}
    (hg : ((w.alloc (Obj.cells #[.float .f64 0, .float .f64 0, .float .f64 0] 28)).alloc o2).grownBy w1 v.ownBlock) (hown' : w1.ownsRow (B + 5) 25 1 v' (k + 1) xs) :
    ∃ g cap, v' = .slice (some ⟨g, 0, none⟩) (k + 1) cap ∧ B + 5 ≤ g ∧ g ≠ w.heap.size ∧ 
      w1.cell? ⟨B, 0, none⟩ = some (.int .i16 lon) ∧ w1.cell? ⟨B + 1, 0, none⟩ = some (.slice a2 len2 cap2) ∧ w1.cell? ⟨B + 1 + 1, 0, none⟩ = some (.slice a3 len3 cap3) ∧
      w1.cell? ⟨B + 1 + 1 + 1, 0, none⟩ = some v ∧ w1.cell? ⟨B + 1 + 1 + 1 + 1, 0, none⟩ = some (.int .i64 k) ∧
      w1.frozen? ⟨B + 1 + 1 + 1, 0, none⟩ = false ∧ w1.frozen? ⟨B + 1 + 1 + 1 + 1, 0, none⟩ = false ∧
      w1.cell? ⟨w.heap.size, 0, none⟩ = some (.float .f64 0) ∧ w1.cell? ⟨w.heap.size, 1, none⟩ = some (.float .f64 0) ∧ w1.cell? ⟨w.heap.size, 2, none⟩ = some (.float .f64 0) ∧
      w1.frozen? ⟨w.heap.size, 0, none⟩ = false ∧ w1.frozen? ⟨w.heap.size, 1, none⟩ = false ∧ w1.frozen? ⟨w.heap.size, 2, none⟩ = false ∧
      w.heap.size + 1 < w1.heap.size ∧ Below B w0 w1 := by
  have hblk := hi.blk
  obtain ⟨c0, c1, c2, c3, c4, f3, f4, hown, hs, hb⟩ := hi
  have hsz : w.heap.size + 2 ≤ w1.heap.size := by have := hg.size; simpa using this
  have hne : some w.heap.size ≠ v.ownBlock := by
    intro h; have := (hown.lt _ h.symm).2; omega
  have old : ∀ j, j < w.heap.size → some j ≠ v.ownBlock → w1.heap[j]? = w.heap[j]? := by
    intro j hj hn
    rw [hg.block j (by simp; omega) hn, Below.heap_alloc _ _ _ (by simp; omega), Below.heap_alloc _ _ _ hj]
  have mine : w1.heap[w.heap.size]? = some (Obj.cells #[.float .f64 0, .float .f64 0, .float .f64 0] 28) := by
    rw [hg.block _ (by simp; omega) hne, Below.heap_alloc _ _ _ (by simp)]
    show (w.heap.push _)[w.heap.size]? = _
    rw [Array.getElem?_push_size]
  obtain ⟨hx, h | ⟨g, cap, cur, hv, hbg, hcell, h1, h2, h3, h4⟩⟩ := hown'
  · exact absurd h.2 (by omega)
  refine ⟨g, cap, hv, hbg, ?_, ?_, ?_, ?_, ?_, ?_, ?_, ?_, ?_, ?_, ?_, ?_, ?_, ?_, by omega, ?_⟩
  · intro e; rw [e, mine] at hcell; simp at hcell
  · rw [World.cell?_of_block (old B (by omega) (hblk _ (by omega))), c0]
  · rw [World.cell?_of_block (old (B + 1) (by omega) (hblk _ (by omega))), c1]
  · rw [World.cell?_of_block (old (B + 1 + 1) (by omega) (hblk _ (by omega))), c2]
  · rw [World.cell?_of_block (old (B + 1 + 1 + 1) (by omega) (hblk _ (by omega))), c3]
  · rw [World.cell?_of_block (old (B + 1 + 1 + 1 + 1) (by omega) (hblk _ (by omega))), c4]
  · rw [World.frozen?_of_block (old (B + 1 + 1 + 1) (by omega) (hblk _ (by omega))), f3]
  · rw [World.frozen?_of_block (old (B + 1 + 1 + 1 + 1) (by omega) (hblk _ (by omega))), f4]
  · simp [World.cell?, mine]
  · simp [World.cell?, mine]
  · simp [World.cell?, mine]
  · simp [World.frozen?, mine]
  · simp [World.frozen?, mine]
  · simp [World.frozen?, mine]
  · refine Below.grown ((hb.alloc (by omega) _).alloc (by simp; omega) _) hg (by simp; omega) ?_
    intro j hj; have := (hown.lt j hj).1; omega

theorem ncell (w : World) (a b : Addr) (u : Value) (h : a.block ≠ b.block) : (w.setCell a u).cell? b = w.cell? b :=
  World.cell?_setCell_other _ _ _ _ (fun e => h (by rw [e]))

/-- the Sun has been asked once more -/
theorem inv_next {w0 : World} {B : Nat} {lon : Int} {a2 : Option Addr} {len2 cap2 : Nat} {a3 : Option Addr} {len3 cap3 : Nat} {k x N g cap : Nat} {cs : List Nat} {v : Value} {w1 : World} (u0 u1 u2 : Value)
    (hown' : w1.ownsRow (B + 5) 25 1 (.slice (some ⟨g, 0, none⟩) (k + 1) cap) (k + 1) (cs.map (Value.float .f64) ++ [.float .f64 x]))
    (hg5 : B + 5 ≤ g) (hgne : g ≠ N) (hN : B + 4 < N) (hN2 : N + 1 < w1.heap.size)
    (d0 : w1.cell? ⟨B, 0, none⟩ = some (.int .i16 lon)) (d1 : w1.cell? ⟨B + 1, 0, none⟩ = some (.slice a2 len2 cap2)) (d2 : w1.cell? ⟨B + 1 + 1, 0, none⟩ = some (.slice a3 len3 cap3))
    (d3 : w1.cell? ⟨B + 1 + 1 + 1, 0, none⟩ = some v) (d4 : w1.cell? ⟨B + 1 + 1 + 1 + 1, 0, none⟩ = some (.int .i64 k))
    (q3 : w1.frozen? ⟨B + 1 + 1 + 1, 0, none⟩ = false) (q4 : w1.frozen? ⟨B + 1 + 1 + 1 + 1, 0, none⟩ = false) (hb1 : Below B w0 w1) :
    InvS w0 B lon a2 len2 cap2 a3 len3 cap3 (k + 1) (cs ++ [x]) (.slice (some ⟨g, 0, none⟩) (k + 1) cap)
      (((((w1.setCell ⟨B + 1 + 1 + 1, 0, none⟩ (.slice (some ⟨g, 0, none⟩) (k + 1) cap)).setCell ⟨B + 1 + 1 + 1 + 1, 0, none⟩ (.int .i64 ((k : Int) + 1))).setCell ⟨N, 0, none⟩ u0).setCell ⟨N, 1, none⟩ u1).setCell ⟨N, 2, none⟩ u2) := by
  have n0 : ∀ (j i : Nat), j ≠ N → ∀ W : World, (((W.setCell ⟨N, 0, none⟩ u0).setCell ⟨N, 1, none⟩ u1).setCell ⟨N, 2, none⟩ u2).cell? ⟨j, i, none⟩ = W.cell? ⟨j, i, none⟩ := by
    intro j i h W
    rw [ncell _ _ _ _ (fun e => h e.symm), ncell _ _ _ _ (fun e => h e.symm), ncell _ _ _ _ (fun e => h e.symm)]
  refine ⟨?_, ?_, ?_, ?_, ?_, ?_, ?_, ?_, ?_, ?_⟩
  · rw [n0 _ _ (by omega), ncell _ _ _ _ (by dsimp only; omega), ncell _ _ _ _ (by dsimp only; omega), d0]
  · rw [n0 _ _ (by omega), ncell _ _ _ _ (by dsimp only; omega), ncell _ _ _ _ (by dsimp only; omega), d1]
  · rw [n0 _ _ (by omega), ncell _ _ _ _ (by dsimp only; omega), ncell _ _ _ _ (by dsimp only; omega), d2]
  · rw [n0 _ _ (by omega), ncell _ _ _ _ (by dsimp only; omega), World.cell?_setCell_same _ _ _ d3]
  · rw [n0 _ _ (by omega), World.cell?_setCell_same _ _ _ (u := .int .i64 k) (by rw [ncell _ _ _ _ (by dsimp only; omega), d4])]; simp
  · simpa using q3
  · simpa using q4
  · have h1 := hown'.kept (grownBy_setCell w1 ⟨B + 1 + 1 + 1, 0, none⟩ (.slice (some ⟨g, 0, none⟩) (k + 1) cap)) (.inr (by simp [Value.ownBlock]; omega))
    have h2 := h1.kept (grownBy_setCell _ ⟨B + 1 + 1 + 1 + 1, 0, none⟩ (.int .i64 ((k : Int) + 1))) (.inr (by simp [Value.ownBlock]; omega))
    have h3 := h2.kept (grownBy_setCell _ ⟨N, 0, none⟩ u0) (.inr (by simp [Value.ownBlock]; omega))
    have h4 := h3.kept (grownBy_setCell _ ⟨N, 1, none⟩ u1) (.inr (by simp [Value.ownBlock]; omega))
    have h5 := h4.kept (grownBy_setCell _ ⟨N, 2, none⟩ u2) (.inr (by simp [Value.ownBlock]; omega))
    rw [List.map_append]
    exact h5
  · simp; omega
  · exact ((((hb1.setCell (by show B ≤ B + 1 + 1 + 1; omega) _).setCell (by show B ≤ B + 1 + 1 + 1 + 1; omega) _).setCell (by show B ≤ N; omega) _).setCell (by show B ≤ N; omega) _).setCell (by show B ≤ N; omega) _

set_option maxHeartbeats 400000 in
theorem clo6 (w0 : World) (B : Nat) (lon : Int) (a2 : Option Addr) (len2 cap2 : Nat) (z2 : List Int) (a3 : Option Addr) (len3 cap3 : Nat) (z3 : List Int) (k x : Nat) (cs : List Nat) (v : Value) (w : World)
    (w2 : IsRow .i8 w0 a2 len2 cap2 z2) (w3 : IsRow .u8 w0 a3 len3 cap3 z3) (hl2 : len2 ≤ 1024) (hl3 : len3 ≤ 1024) (hB : B = w0.heap.size) (hlon : -32768 ≤ lon ∧ lon ≤ 32767)
    (hk : k < 10) (hi : InvS w0 B lon a2 len2 cap2 a3 len3 cap3 k cs v w) :
    Calls Yba.prog 6 #[.float .f64 x, .pointer (some ⟨B + 1 + 1 + 1, 0, none⟩), .pointer (some ⟨B + 1, 0, none⟩), .pointer (some ⟨B + 1 + 1, 0, none⟩), .pointer (some ⟨B + 1 + 1 + 1 + 1, 0, none⟩), .pointer (some ⟨B, 0, none⟩)] w
      fun e w' => e = .returned (.tuple #[.agg #[.float .f64 (Flo.F (4 * (lon - dOf z2 len2 k))), .float .f64 0, .float .f64 0], .float .f64 (Flo.F (4 * rOf z3 len3 k))]) ∧ ∃ v', InvS w0 B lon a2 len2 cap2 a3 len3 cap3 (k + 1) (cs ++ [x]) v' w' := by
  have g3 := st_flo
  have HI : Hid (InvS w0 B lon a2 len2 cap2 a3 len3 cap3 k cs v w) := hi
  have HB : Hid (B = w0.heap.size) := hB
  clear hB
  obtain ⟨c0, c1, c2, c3, c4, f3, f4, hown, hs, hb⟩ := hi
  have s0 : B < w.heap.size := by omega
  have s1 : B + 1 < w.heap.size := by omega
  have s2 : B + 1 + 1 < w.heap.size := by omega
  have s3 : B + 1 + 1 + 1 < w.heap.size := by omega
  obtain ⟨i0, hi0, hz0, hz1, hz2⟩ := info_parts info25
  go_enter Yba.func6, Yba.ntmps6
  go_wp2_with (at_builtin; refine wpList_append_own _ rfl _ _ 26 rfl (B + 5) 25 i0 (.float .f64 0) 1 8 Yba.underlying26 hi0 hz0 hz1 hz2 rfl (by decide) _ _ _ rfl ((hown.alloc _).alloc _) ⟨w.heap.size + 1, 0, none⟩ 1 1 [.float .f64 x] rfl rfl ?c1 ?c2 ?c3 ?c4 ?c5 ?_)
  case c1 =>
    intro j u hj
    match j, hj with
    | 0, hj => simp at hj; subst hj; simp [Addr.add, go_sem]
  case c2 => intro u hu; simp at hu; subst hu; rfl
  case c3 => unfold maxLen; omega
  case c4 => omega
  case c5 => simp; omega
  intro v' w1 hown' hgrow _
  obtain ⟨g, cap, hv, hg5, hgne, d0, d1, d2, d3, d4, q3, q4, e0, e1, e2, p0, p1, p2, hs1, hb1⟩ := app_facts HI.out hgrow hown'
  have r2 : IsRow .i8 (w1.setCell ⟨B + 1 + 1 + 1, 0, none⟩ v') a2 len2 cap2 z2 := w2.below ((show Below w0.heap.size w0 w1 from HB.out ▸ hb1).setCell (by rw [← HB.out]; show B ≤ B + 1 + 1 + 1; omega) _)
  have r3 : IsRow .u8 (w1.setCell ⟨B + 1 + 1 + 1, 0, none⟩ v') a3 len3 cap3 z3 := w3.below ((show Below w0.heap.size w0 w1 from HB.out ▸ hb1).setCell (by rw [← HB.out]; show B ≤ B + 1 + 1 + 1; omega) _)
  have hD := dOf_b z2 len2 k
  have hR := rOf_b z3 len3 k
  rw [hv] at r2 r3
  rw [hv]
  go_wp2_with (go_at_call 7; refine (step7 a2 len2 cap2 z2 a3 len3 cap3 z3 k _ (by exact r2) (by exact r3) (by omega) hl2 hl3).mono ?_; rintro e w' ⟨rfl, rfl⟩)
  have f1 := Flo.F_int (lon - dOf z2 len2 k) (by omega)
  have f2 := Flo.F_int (rOf z3 len3 k) (by omega)
  rw [hv] at hown'
  have hfin := inv_next (.float .f64 (floatOfInt .f64 (lon - dOf z2 len2 k))) (.float .f64 0) (.float .f64 0) hown' hg5 hgne (by omega) hs1 d0 d1 d2 d3 d4 q3 q4 hb1
  exact bodyPost_ret (v := .tuple #[.agg #[.float .f64 (floatOfInt .f64 (lon - dOf z2 len2 k)), .float .f64 0, .float .f64 0], .float .f64 (floatOfInt .f64 (rOf z3 len3 k))]) (by simp [results, Yba.results6, go_sem, e0, e1, e2]) rfl ⟨by rw [f1, f2], _, hfin⟩
end Go.Proofs.Ybulkcdzs
