import Derived.Test.YbulkcecyOa
import Derived.Deep.RegionLaw
import Derived.Deep.DeepCutAuto
namespace Go.Proofs.Ybulkcecy
open Go.ChangeShapes Go.WideShapes Go.ChangeAt Go.RowKit
set_option linter.unusedVariables false

/-- the world behind one asking -/
abbrev after_z (w w1 : World) (LG : Nat) (v' : Value) : World :=
  ((((w1.setCell ⟨LG, 0, none⟩ v').setCell ⟨w.heap.size, 0, none⟩ (.int .u8 0)).setCell ⟨w.heap.size, 1, none⟩ (.int .u64 0)).setCell ⟨w.heap.size, 2, none⟩ (.string ⟨#[]⟩)).setCell ⟨w.heap.size, 3, none⟩ (.pointer none)

theorem app_z2 {w0 : World} {base B D LG BD L R : Nat} {EL ER : Value} {a0 a1 : Bool} {k : Nat} {xs ys : List Value} {v v' : Value} {w w1 : World} {o2 : Obj} {row : Option Nat}
    (h : OInv w0 base B D LG BD L R EL ER a0 a1 k xs v w) (hown : w1.ownsRow base 3 1 v' (k + 1) ys) (hg : ((w.alloc (Obj.cells ZV 40)).alloc o2).grownBy w1 row) (hr : ∀ j, row = some j → base ≤ j ∧ v.ownBlock = some j) :
    ∃ g cap, v' = .slice (some ⟨g, 0, none⟩) (k + 1) cap ∧ (∀ P o, P < base → w1.cell? ⟨P, o, none⟩ = w.cell? ⟨P, o, none⟩) ∧ w1.cell? ⟨LG, 0, none⟩ = some v ∧ w1.frozen? ⟨LG, 0, none⟩ = false ∧
      w1.cell? ⟨w.heap.size, 0, none⟩ = some (.int .u8 0) ∧ w1.cell? ⟨w.heap.size, 1, none⟩ = some (.int .u64 0) ∧ w1.cell? ⟨w.heap.size, 2, none⟩ = some (.string ⟨#[]⟩) ∧ w1.cell? ⟨w.heap.size, 3, none⟩ = some (.pointer none) ∧
      w1.frozen? ⟨w.heap.size, 0, none⟩ = false ∧ w1.frozen? ⟨w.heap.size, 1, none⟩ = false ∧ w1.frozen? ⟨w.heap.size, 2, none⟩ = false ∧ w1.frozen? ⟨w.heap.size, 3, none⟩ = false ∧
      Hid (OInv w0 base B D LG BD L R EL ER a0 a1 (k + 1) ys v' (after_z w w1 LG v') ∧ w.heap.size ≤ (after_z w w1 LG v').heap.size ∧ (∀ j, j < w.heap.size → j ≠ LG → some j ≠ v.ownBlock → (after_z w w1 LG v').heap[j]? = w.heap[j]?)) := by
  obtain ⟨f1, f2, f3, ⟨g, cap, rfl, f4, f5⟩, f6, f7⟩ := app_z h hown hg hr
  have hG := h.b.nG
  refine ⟨g, cap, rfl, fun P o hP => World.cell?_of_block (f2 P hP), (World.cell?_of_block (f2 LG hG.1)).trans h.lg, (World.frozen?_of_block (f2 LG hG.1)).trans h.b.lf, ?_, ?_, ?_, ?_, ?_, ?_, ?_, ?_, ?_⟩
  · simp [World.cell?, f3]
  · simp [World.cell?, f3]
  · simp [World.cell?, f3]
  · simp [World.cell?, f3]
  · simp [World.frozen?, f3]
  · simp [World.frozen?, f3]
  · simp [World.frozen?, f3]
  · simp [World.frozen?, f3]
  · refine (show _ ∧ _ ∧ _ from ⟨inv_z _ _ _ _ h hown f2 f4 f5 f6 f7, by simp; omega, fun j hj hne hnv => ?_⟩)
    rw [grow_far (by dsimp only; omega), grow_far (by dsimp only; omega), grow_far (by dsimp only; omega), grow_far (by dsimp only; omega), grow_far (by dsimp only; exact hne), f1 j hj hne hnv]

theorem OInv.same {w0 : World} {base B D LG BD L R : Nat} {EL ER : Value} {a0 a1 : Bool} {k : Nat} {xs : List Value} {v : Value} {w w' : World} (h : OInv w0 base B D LG BD L R EL ER a0 a1 k xs v w)
    (hh : w'.heap = w.heap) (ho : w'.os = w.os) (ht : w'.tape = w.tape) (hu : w'.output = w.output) : OInv w0 base B D LG BD L R EL ER a0 a1 k xs v w' := by
  have hb := h.b.bl
  have hblk : ∀ j : Nat, w'.heap[j]? = w.heap[j]? := fun j => by rw [hh]
  refine ⟨h.b.next (fun j _ _ => hblk j) ((World.frozen?_of_block (hblk _)).trans h.b.lf) (by rw [hh]; exact Nat.le_refl _) (hb.trans ⟨ho, ht, hu, by rw [hh]; exact Nat.le_refl _, fun k _ => hblk k⟩), (World.cell?_of_block (hblk _)).trans h.lg, ?_⟩
  rcases h.own with q | q
  · exact .inl q
  · exact .inr (by unfold World.ownsRow at q ⊢; rw [hh]; exact q)

set_option maxHeartbeats 3200000 in
set_option maxRecDepth 100000 in
theorem eval_c {w0 : World} {base B D LG BD L R : Nat} {EL ER : Value} {a0 a1 : Bool} {k : Nat} {xs : List Value} {v : Value} {w : World} (h : OInv w0 base B D LG BD L R EL ER a0 a1 k xs v w) (hk : k ≤ 8)
    (P : Nat) (id : Int) (fail : Bool) (E : Value) (hP : P < base) (hPL : P ≠ LG) (c0 : w.cell? ⟨P, 0, none⟩ = some (.int .i64 id)) (c1 : w.cell? ⟨P, 1, none⟩ = some (.bool fail)) (c2 : w.cell? ⟨P, 2, none⟩ = some E)
    (c3 : w.cell? ⟨P, 3, none⟩ = some (.iface 22 (.pointer (some ⟨D, 0, none⟩)))) (c4 : w.cell? ⟨P, 4, none⟩ = some (.pointer (some ⟨LG, 0, none⟩))) :
    Calls Yba.prog 24 #[.pointer (some ⟨P, 0, none⟩), .iface 22 (.pointer (some ⟨D, 0, none⟩))] w fun e w' => e = .returned (.tuple #[.agg ZV, if fail then E else .nilIface]) ∧
      ∃ v', OInv w0 base B D LG BD L R EL ER a0 a1 (k + 1) (xs ++ [.int .i64 id]) v' w' ∧ w.heap.size ≤ w'.heap.size ∧ (∀ j, j < w.heap.size → j ≠ LG → some j ≠ v.ownBlock → w'.heap[j]? = w.heap[j]?) := by
  have hn33 := neq33
  have lg := h.lg
  have lf := h.b.lf
  have HI : Hid (OInv w0 base B D LG BD L R EL ER a0 a1 k xs v w) := h
  have hsz := h.b.sz
  have hG := h.b.nG
  have hPs : P < w.heap.size := by omega
  have hGs : LG < w.heap.size := by omega
  clear h
  go_enter Yba.func24, Yba.ntmps24
  go_upto_region 1 with fail
  go_cut [] (fun wx => ∃ v' w1, wx = w1.setCell ⟨LG, 0, none⟩ v' ∧ (∀ Q o, Q < base → w1.cell? ⟨Q, o, none⟩ = w.cell? ⟨Q, o, none⟩) ∧ w1.cell? ⟨LG, 0, none⟩ = some v ∧ w1.frozen? ⟨LG, 0, none⟩ = false ∧
      w1.cell? ⟨w.heap.size, 0, none⟩ = some (.int .u8 0) ∧ w1.cell? ⟨w.heap.size, 1, none⟩ = some (.int .u64 0) ∧ w1.cell? ⟨w.heap.size, 2, none⟩ = some (.string ⟨#[]⟩) ∧ w1.cell? ⟨w.heap.size, 3, none⟩ = some (.pointer none) ∧
      w1.frozen? ⟨w.heap.size, 0, none⟩ = false ∧ w1.frozen? ⟨w.heap.size, 1, none⟩ = false ∧ w1.frozen? ⟨w.heap.size, 2, none⟩ = false ∧ w1.frozen? ⟨w.heap.size, 3, none⟩ = false ∧
      Hid (OInv w0 base B D LG BD L R EL ER a0 a1 (k + 1) (xs ++ [.int .i64 id]) v' (after_z w w1 LG v') ∧ w.heap.size ≤ (after_z w w1 LG v').heap.size ∧ (∀ j, j < w.heap.size → j ≠ LG → some j ≠ v.ownBlock → (after_z w w1 LG v').heap[j]? = w.heap[j]?)))
  case first =>
    go_region_law ((
        refine step_append_z rfl (.tmp 15) (.tmp 20) rfl base v k xs ?_ ⟨w.heap.size + 1, 0, none⟩ (.int .i64 id) ?_ rfl ?_ ?_ hk ?_ ?_
        · simp [Act.eval]
        · simp [Act.eval]
        · exact ((HI.out.alloc (Obj.cells ZV 40)).alloc (Obj.cells #[.int .i64 id] 3)).own
        · first | (simp; done) | (simp; omega)
        · simp [go_sem]
        intro v' w1 row hown hg hr
        obtain ⟨g, cap, rfl, ek, elg, elf, q0, q1, q2, q3, p0, p1, p2, p3, FIN⟩ := app_z2 (o2 := Obj.cells #[.int .i64 id] 3) HI.out hown ⟨hg.1, hg.2, hg.3, hg.4, hg.5⟩ hr
        have e0 := (ek P 0 hP).trans c0
        have e1 := (ek P 1 hP).trans c1
        have e2 := (ek P 2 hP).trans c2
        have e3 := (ek P 3 hP).trans c3
        have e4 := (ek P 4 hP).trans c4
        clear hown hg hr))
    all_goals (try go_wp2_with fail)
    all_goals (go_meet; exact ⟨_, w1, rfl, ek, elg, elf, q0, q1, q2, q3, p0, p1, p2, p3, FIN⟩)
  case rest =>
    obtain ⟨v', w1, rfl, ek, elg, elf, q0, q1, q2, q3, p0, p1, p2, p3, FIN⟩ := hcut
    have e1 := (ek P 1 hP).trans c1
    have e2 := (ek P 2 hP).trans c2
    have e3 := (ek P 3 hP).trans c3
    have hNG : w.heap.size ≠ LG := by omega
    have hNP : w.heap.size ≠ P := by omega
    clear ek
    cases fail with
    | true =>
      go_wp2_with fail
      go_region
      all_goals (try go_wp2_with fail)
      all_goals exact bodyPost_ret (v := .tuple #[.agg ZV, E]) (by simp [results, Yba.results24, go_sem, q0, q1, q2, q3]) rfl ⟨rfl, ⟨v', FIN.out.1.same rfl rfl rfl rfl⟩, FIN.out.2.1, FIN.out.2.2⟩
    | false =>
      go_wp2_with fail
      exact bodyPost_ret (v := .tuple #[.agg ZV, .nilIface]) (by simp [results, Yba.results24, go_sem, q0, q1, q2, q3]) rfl ⟨rfl, ⟨v', FIN.out.1.same rfl rfl rfl rfl⟩, FIN.out.2.1, FIN.out.2.2⟩
end Go.Proofs.Ybulkcecy
