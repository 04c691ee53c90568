import Derived.Test.YbulkceagMo
import Derived.Test.YbulkceagLn
namespace Go.Proofs.Ybulkceag
open Go.ChangeShapes Go.WideShapes Go.ChangeAt Go.RowKit
set_option linter.unusedVariables false

theorem info24 : (Yba.prog.info? 24).map (fun i => (i.zero, i.size, i.bytes)) = some (some (.int .i64 0), 1, 8) := by kernel_rfl
theorem info9 : (Yba.prog.info? 9).map (fun i => (i.zero, i.size, i.bytes)) = some (some (.string ⟨#[]⟩), 1, 16) := by kernel_rfl

/-- the law's own memory: the table, the kinds, the texts, the tokens; kk, kt, ko of them are set -/
structure EInv (w : World) (gk gt go n : Nat) (K : Nat → Int) (X : Nat → ByteArray) (kk kt ko : Nat) (wr : World) : Prop where
  kc : ∀ j, j ≤ n → wr.cell? ⟨gk, j, none⟩ = some (.int .i64 (if j < kk then K j else 0))
  kf : ∀ j, wr.frozen? ⟨gk, j, none⟩ = false
  tc : ∀ j, j ≤ n → wr.cell? ⟨gt, j, none⟩ = some (.string (if j < kt then X j else ⟨#[]⟩))
  tf : ∀ j, wr.frozen? ⟨gt, j, none⟩ = false
  o0 : ∀ j, j ≤ n → wr.cell? ⟨go, j * 4, none⟩ = some (.int .i64 (if j < ko then K j else 0))
  o1 : ∀ j, j ≤ n → wr.cell? ⟨go, j * 4 + 1, none⟩ = some (.string (if j < ko then X j else ⟨#[]⟩))
  o2 : ∀ j, j ≤ n → wr.cell? ⟨go, j * 4 + 2, none⟩ = some (.int .i64 (if j < ko then (j : Int) + 1 else 0))
  o3 : ∀ j, j ≤ n → wr.cell? ⟨go, j * 4 + 3, none⟩ = some (.int .i64 (if j < ko then 1 else 0))
  of : ∀ j, wr.frozen? ⟨go, j, none⟩ = false
  tb : wr.cell? ⟨w.heap.size, 0, none⟩ = some (.int .i64 1) ∧ wr.cell? ⟨w.heap.size, 1, none⟩ = some (.int .i64 2) ∧ wr.cell? ⟨w.heap.size, 2, none⟩ = some (.int .i64 3) ∧ wr.cell? ⟨w.heap.size, 3, none⟩ = some (.int .i64 4) ∧ wr.cell? ⟨w.heap.size, 4, none⟩ = some (.int .i64 5) ∧ wr.cell? ⟨w.heap.size, 5, none⟩ = some (.int .i64 6) ∧ wr.cell? ⟨w.heap.size, 6, none⟩ = some (.int .i64 2) ∧ wr.cell? ⟨w.heap.size, 7, none⟩ = some (.int .i64 1)
  h1 : w.heap.size < gk
  h2 : gk < gt
  h3 : gt < go
  bl : Below w.heap.size w wr

section
variable {w : World} {gk gt go n : Nat} {K : Nat → Int} {X : Nat → ByteArray} {kk kt ko : Nat} {wr : World}

theorem ncell (w : World) (a b : Addr) (u : Value) (h : a.block ≠ b.block) : (w.setCell a u).cell? b = w.cell? b :=
  World.cell?_setCell_other _ _ _ _ (fun e => h (by rw [e]))
theorem mcell (w : World) (g i j : Nat) (u : Value) (h : i ≠ j) : (w.setCell ⟨g, i, none⟩ u).cell? ⟨g, j, none⟩ = w.cell? ⟨g, j, none⟩ :=
  World.cell?_setCell_other _ _ _ _ (fun e => h (by simp only [Addr.mk.injEq] at e; exact e.2.1))

theorem EInv.drewN (h : EInv w gk gt go n K X kk kt ko wr) (q : Nat) : EInv w gk gt go n K X kk kt ko (wr.drewN q) :=
  ⟨h.kc, h.kf, h.tc, h.tf, h.o0, h.o1, h.o2, h.o3, h.of, h.tb, h.h1, h.h2, h.h3, below_drewN h.bl q⟩

/-- a store into a block of the law's own other than the table -/
theorem EInv.tabKept (h : EInv w gk gt go n K X kk kt ko wr) (g i : Nat) (u : Value) (hg : w.heap.size < g) :
    let wz := wr.setCell ⟨g, i, none⟩ u
    wz.cell? ⟨w.heap.size, 0, none⟩ = some (.int .i64 1) ∧ wz.cell? ⟨w.heap.size, 1, none⟩ = some (.int .i64 2) ∧ wz.cell? ⟨w.heap.size, 2, none⟩ = some (.int .i64 3) ∧ wz.cell? ⟨w.heap.size, 3, none⟩ = some (.int .i64 4) ∧ wz.cell? ⟨w.heap.size, 4, none⟩ = some (.int .i64 5) ∧ wz.cell? ⟨w.heap.size, 5, none⟩ = some (.int .i64 6) ∧ wz.cell? ⟨w.heap.size, 6, none⟩ = some (.int .i64 2) ∧ wz.cell? ⟨w.heap.size, 7, none⟩ = some (.int .i64 1) := by
  intro wz
  have q : ∀ o, wz.cell? ⟨w.heap.size, o, none⟩ = wr.cell? ⟨w.heap.size, o, none⟩ := fun o => ncell _ _ _ _ (by dsimp only; omega)
  obtain ⟨a, b, c, d, e, f, g', i'⟩ := h.tb
  exact ⟨(q _).trans a, (q _).trans b, (q _).trans c, (q _).trans d, (q _).trans e, (q _).trans f, (q _).trans g', (q _).trans i'⟩

theorem EInv.setK (h : EInv w gk gt go n K X kk kt ko wr) (hk : kk ≤ n) : EInv w gk gt go n K X (kk + 1) kt ko (wr.setCell ⟨gk, kk, none⟩ (.int .i64 (K kk))) := by
  have h1 := h.h1; have h2 := h.h2; have h3 := h.h3
  have qt : ∀ o, (wr.setCell ⟨gk, kk, none⟩ (.int .i64 (K kk))).cell? ⟨gt, o, none⟩ = wr.cell? ⟨gt, o, none⟩ := fun o => ncell _ _ _ _ (by dsimp only; omega)
  have qo : ∀ o, (wr.setCell ⟨gk, kk, none⟩ (.int .i64 (K kk))).cell? ⟨go, o, none⟩ = wr.cell? ⟨go, o, none⟩ := fun o => ncell _ _ _ _ (by dsimp only; omega)
  refine ⟨fun j hj => ?_, fun j => by simpa using h.kf j, fun j hj => (qt _).trans (h.tc j hj), fun j => by simpa using h.tf j, fun j hj => (qo _).trans (h.o0 j hj), fun j hj => (qo _).trans (h.o1 j hj), fun j hj => (qo _).trans (h.o2 j hj), fun j hj => (qo _).trans (h.o3 j hj), fun j => by simpa using h.of j, h.tabKept gk kk _ h.h1, h.h1, h.h2, h.h3, h.bl.setCell (by show w.heap.size ≤ gk; omega) _⟩
  by_cases e : kk = j
  · subst e
    rw [World.cell?_setCell_same _ _ _ (h.kc kk hk), if_pos (by omega)]
  · rw [mcell _ _ _ _ _ e, h.kc j hj]
    by_cases hlt : j < kk
    · rw [if_pos hlt, if_pos (by omega)]
    · rw [if_neg hlt, if_neg (by omega)]
theorem EInv.setT (h : EInv w gk gt go n K X kk kt ko wr) (hk : kt ≤ n) : EInv w gk gt go n K X kk (kt + 1) ko (wr.setCell ⟨gt, kt, none⟩ (.string (X kt))) := by
  have h1 := h.h1; have h2 := h.h2; have h3 := h.h3
  have qk : ∀ o, (wr.setCell ⟨gt, kt, none⟩ (.string (X kt))).cell? ⟨gk, o, none⟩ = wr.cell? ⟨gk, o, none⟩ := fun o => ncell _ _ _ _ (by dsimp only; omega)
  have qo : ∀ o, (wr.setCell ⟨gt, kt, none⟩ (.string (X kt))).cell? ⟨go, o, none⟩ = wr.cell? ⟨go, o, none⟩ := fun o => ncell _ _ _ _ (by dsimp only; omega)
  refine ⟨fun j hj => (qk _).trans (h.kc j hj), fun j => by simpa using h.kf j, fun j hj => ?_, fun j => by simpa using h.tf j, fun j hj => (qo _).trans (h.o0 j hj), fun j hj => (qo _).trans (h.o1 j hj), fun j hj => (qo _).trans (h.o2 j hj), fun j hj => (qo _).trans (h.o3 j hj), fun j => by simpa using h.of j, h.tabKept gt kt _ (by omega), h.h1, h.h2, h.h3, h.bl.setCell (by show w.heap.size ≤ gt; omega) _⟩
  by_cases e : kt = j
  · subst e
    rw [World.cell?_setCell_same _ _ _ (h.tc kt hk), if_pos (by omega)]
  · rw [mcell _ _ _ _ _ e, h.tc j hj]
    by_cases hlt : j < kt
    · rw [if_pos hlt, if_pos (by omega)]
    · rw [if_neg hlt, if_neg (by omega)]
theorem EInv.skipT (h : EInv w gk gt go n K X kk kt ko wr) (hx : X kt = ⟨#[]⟩) : EInv w gk gt go n K X kk (kt + 1) ko wr := by
  refine ⟨h.kc, h.kf, fun j hj => ?_, h.tf, h.o0, h.o1, h.o2, h.o3, h.of, h.tb, h.h1, h.h2, h.h3, h.bl⟩
  rw [h.tc j hj]
  by_cases e : kt = j
  · subst e; rw [if_neg (by omega), if_pos (by omega), hx]
  · by_cases hlt : j < kt
    · rw [if_pos hlt, if_pos (by omega)]
    · rw [if_neg hlt, if_neg (by omega)]
theorem EInv.setO (h : EInv w gk gt go n K X kk kt ko wr) (hk : ko ≤ n) : EInv w gk gt go n K X kk kt (ko + 1) ((((wr.setCell ⟨go, ko * 4, none⟩ (.int .i64 (K ko))).setCell ⟨go, ko * 4 + 1, none⟩ (.string (X ko))).setCell ⟨go, ko * 4 + 2, none⟩ (.int .i64 ((ko : Int) + 1))).setCell ⟨go, ko * 4 + 3, none⟩ (.int .i64 1)) := by
  have h1 := h.h1; have h2 := h.h2; have h3 := h.h3
  have far : ∀ g o, g ≠ go → ((((wr.setCell ⟨go, ko * 4, none⟩ (.int .i64 (K ko))).setCell ⟨go, ko * 4 + 1, none⟩ (.string (X ko))).setCell ⟨go, ko * 4 + 2, none⟩ (.int .i64 ((ko : Int) + 1))).setCell ⟨go, ko * 4 + 3, none⟩ (.int .i64 1)).cell? ⟨g, o, none⟩ = wr.cell? ⟨g, o, none⟩ := by
    intro g o hg
    rw [ncell _ _ _ _ (fun e => hg e.symm), ncell _ _ _ _ (fun e => hg e.symm), ncell _ _ _ _ (fun e => hg e.symm), ncell _ _ _ _ (fun e => hg e.symm)]
  obtain ⟨a, b, c, d, e, f, g', i'⟩ := h.tb
  refine ⟨fun j hj => (far _ _ (by omega)).trans (h.kc j hj), fun j => by simpa using h.kf j, fun j hj => (far _ _ (by omega)).trans (h.tc j hj), fun j => by simpa using h.tf j, fun j hj => ?_, fun j hj => ?_, fun j hj => ?_, fun j hj => ?_, fun j => by simpa using h.of j, ?_, h.h1, h.h2, h.h3, ?_⟩
  · rw [mcell _ _ _ _ _ (by omega), mcell _ _ _ _ _ (by omega), mcell _ _ _ _ _ (by omega)]
    by_cases e : ko = j
    · subst e; rw [World.cell?_setCell_same _ _ _ (h.o0 ko hk), if_pos (by omega)]
    · rw [mcell _ _ _ _ _ (by omega), h.o0 j hj]
      by_cases hlt : j < ko
      · rw [if_pos hlt, if_pos (by omega)]
      · rw [if_neg hlt, if_neg (by omega)]
  · rw [mcell _ _ _ _ _ (by omega), mcell _ _ _ _ _ (by omega)]
    by_cases e : ko = j
    · subst e; rw [World.cell?_setCell_same _ _ _ ((mcell _ _ _ _ _ (by omega)).trans (h.o1 ko hk)), if_pos (by omega)]
    · rw [mcell _ _ _ _ _ (by omega), mcell _ _ _ _ _ (by omega), h.o1 j hj]
      by_cases hlt : j < ko
      · rw [if_pos hlt, if_pos (by omega)]
      · rw [if_neg hlt, if_neg (by omega)]
  · rw [mcell _ _ _ _ _ (by omega)]
    by_cases e : ko = j
    · subst e; rw [World.cell?_setCell_same _ _ _ ((mcell _ _ _ _ _ (by omega)).trans ((mcell _ _ _ _ _ (by omega)).trans (h.o2 ko hk))), if_pos (by omega)]
    · rw [mcell _ _ _ _ _ (by omega), mcell _ _ _ _ _ (by omega), mcell _ _ _ _ _ (by omega), h.o2 j hj]
      by_cases hlt : j < ko
      · rw [if_pos hlt, if_pos (by omega)]
      · rw [if_neg hlt, if_neg (by omega)]
  · by_cases e : ko = j
    · subst e; rw [World.cell?_setCell_same _ _ _ ((mcell _ _ _ _ _ (by omega)).trans ((mcell _ _ _ _ _ (by omega)).trans ((mcell _ _ _ _ _ (by omega)).trans (h.o3 ko hk)))), if_pos (by omega)]
    · rw [mcell _ _ _ _ _ (by omega), mcell _ _ _ _ _ (by omega), mcell _ _ _ _ _ (by omega), mcell _ _ _ _ _ (by omega), h.o3 j hj]
      by_cases hlt : j < ko
      · rw [if_pos hlt, if_pos (by omega)]
      · rw [if_neg hlt, if_neg (by omega)]
  · exact ⟨(far _ _ (by omega)).trans a, (far _ _ (by omega)).trans b, (far _ _ (by omega)).trans c, (far _ _ (by omega)).trans d, (far _ _ (by omega)).trans e, (far _ _ (by omega)).trans f, (far _ _ (by omega)).trans g', (far _ _ (by omega)).trans i'⟩
  · exact (((h.bl.setCell (by show w.heap.size ≤ go; omega) _).setCell (by show w.heap.size ≤ go; omega) _).setCell (by show w.heap.size ≤ go; omega) _).setCell (by show w.heap.size ≤ go; omega) _
end
end Go.Proofs.Ybulkceag
