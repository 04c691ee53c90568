import Derived.Test.YbulkcecyIx
import Derived.Lib.Builder
namespace Go.Proofs.Ybulkcecy
open Go.ChangeShapes Go.WideShapes Go.ChangeAt Go.RowKit Go.WideMaps Go.Maps
set_option linter.unusedVariables false

/-- the members while they are filled -/
structure FInv (w : World) (n : Nat) (S : Nat → ByteArray) (k : Nat) (wr : World) : Prop where
  m0 : ∀ j, j < n → wr.cell? ⟨w.heap.size, j * 5, none⟩ = some (.string (if j < k then S j else ⟨#[]⟩))
  m1 : ∀ j, j < n → wr.cell? ⟨w.heap.size, j * 5 + 1, none⟩ = some (.int .u8 0)
  m2 : ∀ j, j < n → wr.cell? ⟨w.heap.size, j * 5 + 2, none⟩ = some (.int .u64 0)
  m3 : ∀ j, j < n → wr.cell? ⟨w.heap.size, j * 5 + 3, none⟩ = some (.string ⟨#[]⟩)
  m4 : ∀ j, j < n → wr.cell? ⟨w.heap.size, j * 5 + 4, none⟩ = some (.pointer none)
  fr : ∀ j, wr.frozen? ⟨w.heap.size, j, none⟩ = false
  sz : w.heap.size < wr.heap.size
  bl : Below w.heap.size w wr

theorem mcell (w : World) (g i j : Nat) (u : Value) (h : i ≠ j) : (w.setCell ⟨g, i, none⟩ u).cell? ⟨g, j, none⟩ = w.cell? ⟨g, j, none⟩ :=
  World.cell?_setCell_other _ _ _ _ (fun e => h (by simp only [Addr.mk.injEq] at e; exact e.2.1))

theorem FInv.next {w : World} {n : Nat} {S : Nat → ByteArray} {k : Nat} {wr : World} (h : FInv w n S k wr) (hk : k < n) :
    FInv w n S (k + 1) (((((wr.setCell ⟨w.heap.size, k * 5, none⟩ (.string (S k))).setCell ⟨w.heap.size, k * 5 + 1, none⟩ (.int .u8 0)).setCell ⟨w.heap.size, k * 5 + 2, none⟩ (.int .u64 0)).setCell ⟨w.heap.size, k * 5 + 3, none⟩ (.string ⟨#[]⟩)).setCell ⟨w.heap.size, k * 5 + 4, none⟩ (.pointer none)) := by
  refine ⟨fun j hj => ?_, fun j hj => ?_, fun j hj => ?_, fun j hj => ?_, fun j hj => ?_, fun j => by simpa using h.fr j, by simpa using h.sz, ((((h.bl.setCell (Nat.le_refl _) _).setCell (Nat.le_refl _) _).setCell (Nat.le_refl _) _).setCell (Nat.le_refl _) _).setCell (Nat.le_refl _) _⟩
  · rw [mcell _ _ _ _ _ (by omega), mcell _ _ _ _ _ (by omega), mcell _ _ _ _ _ (by omega), mcell _ _ _ _ _ (by omega)]
    by_cases e : k = j
    · subst e; rw [World.cell?_setCell_same _ _ _ (h.m0 k hk), if_pos (by omega)]
    · rw [mcell _ _ _ _ _ (by omega), h.m0 j hj]
      by_cases hlt : j < k
      · rw [if_pos hlt, if_pos (by omega)]
      · rw [if_neg hlt, if_neg (by omega)]
  · rw [mcell _ _ _ _ _ (by omega), mcell _ _ _ _ _ (by omega), mcell _ _ _ _ _ (by omega)]
    by_cases e : k = j
    · subst e; rw [World.cell?_setCell_same _ _ _ ((mcell _ _ _ _ _ (by omega)).trans (h.m1 k hk))]
    · rw [mcell _ _ _ _ _ (by omega), mcell _ _ _ _ _ (by omega), h.m1 j hj]
  · rw [mcell _ _ _ _ _ (by omega), mcell _ _ _ _ _ (by omega)]
    by_cases e : k = j
    · subst e; rw [World.cell?_setCell_same _ _ _ ((mcell _ _ _ _ _ (by omega)).trans ((mcell _ _ _ _ _ (by omega)).trans (h.m2 k hk)))]
    · rw [mcell _ _ _ _ _ (by omega), mcell _ _ _ _ _ (by omega), mcell _ _ _ _ _ (by omega), h.m2 j hj]
  · rw [mcell _ _ _ _ _ (by omega)]
    by_cases e : k = j
    · subst e; rw [World.cell?_setCell_same _ _ _ ((mcell _ _ _ _ _ (by omega)).trans ((mcell _ _ _ _ _ (by omega)).trans ((mcell _ _ _ _ _ (by omega)).trans (h.m3 k hk))))]
    · rw [mcell _ _ _ _ _ (by omega), mcell _ _ _ _ _ (by omega), mcell _ _ _ _ _ (by omega), mcell _ _ _ _ _ (by omega), h.m3 j hj]
  · by_cases e : k = j
    · subst e; rw [World.cell?_setCell_same _ _ _ ((mcell _ _ _ _ _ (by omega)).trans ((mcell _ _ _ _ _ (by omega)).trans ((mcell _ _ _ _ _ (by omega)).trans ((mcell _ _ _ _ _ (by omega)).trans (h.m4 k hk)))))]
    · rw [mcell _ _ _ _ _ (by omega), mcell _ _ _ _ _ (by omega), mcell _ _ _ _ _ (by omega), mcell _ _ _ _ _ (by omega), mcell _ _ _ _ _ (by omega), h.m4 j hj]

theorem made_five (a b c d e : Value) (n j o : Nat) (h : j < n) (ho : o < 5) : (madeCells #[a, b, c, d, e] (n * 5)).toList[j * 5 + o]? = [a, b, c, d, e][o]? := by
  have h1 : j * 5 + o < n * 5 := by omega
  have h2 : (j * 5 + o) % 5 = o := by omega
  simp only [madeCells, Array.toList_map, List.getElem?_map, Array.toList_range]
  rw [List.getElem?_range h1]
  simp only [Option.map_some]
  have hs : (#[a, b, c, d, e] : Array Value).size = 5 := rfl
  rw [hs, h2]
  have : o = 0 ∨ o = 1 ∨ o = 2 ∨ o = 3 ∨ o = 4 := by omega
  rcases this with rfl | rfl | rfl | rfl | rfl <;> rfl

theorem finv_start {w wa : World} {n : Nat} {S : Nat → ByteArray} (hga : w.grownBy wa none) (hoa : wa.ownsRow w.heap.size 47 5 (.slice (some ⟨w.heap.size, 0, none⟩) n n) n (madeCells #[.string ⟨#[]⟩, .int .u8 0, .int .u64 0, .string ⟨#[]⟩, .pointer none] (n * 5)).toList) : FInv w n S 0 wa := by
  have a1 := (hoa.lt _ rfl).2
  dsimp only at a1
  refine ⟨fun j hj => ?_, fun j hj => ?_, fun j hj => ?_, fun j hj => ?_, fun j hj => ?_, fun j => hoa.frozenAt j, a1, (Below.refl _ _).grown hga (Nat.le_refl _) (fun k hk => by cases hk)⟩
  · rw [if_neg (by omega)]
    exact (hoa.cellAt (j * 5) (by omega)).trans (made_five _ _ _ _ _ n j 0 hj (by omega))
  · rw [hoa.cellAt _ (by omega), made_five _ _ _ _ _ _ _ _ hj (by omega)]; rfl
  · rw [hoa.cellAt _ (by omega), made_five _ _ _ _ _ _ _ _ hj (by omega)]; rfl
  · rw [hoa.cellAt _ (by omega), made_five _ _ _ _ _ _ _ _ hj (by omega)]; rfl
  · rw [hoa.cellAt _ (by omega), made_five _ _ _ _ _ _ _ _ hj (by omega)]; rfl

theorem FInv.mem {w : World} {n : Nat} {S : Nat → ByteArray} {wr : World} (h : FInv w n S n wr) : Mem w.heap.size n S wr :=
  ⟨fun j hj => by rw [h.m0 j hj, if_pos hj], h.m1, h.m2, h.m3, h.m4⟩

theorem neq52 (w : World) (a : Addr) : (binOp .neq 52 (.pointer (some a)) (.pointer (some a))).run Yba.prog w = .ok (.bool false) w := by
  obtain ⟨i0, hi0, hz0, hz1, hz2⟩ := info_parts info47
  exact Go.Lib.run_neq_ptr_same w a Yba.underlying52 hi0

/-- what the walk is told of the names that came in -/
def IsStr (w : World) (a : Option Addr) (n : Nat) (S : Nat → ByteArray) : Prop :=
  n = 0 ∨ ∃ b off, a = some ⟨b, off, none⟩ ∧ ∀ j, j < n → w.cell? ⟨b, off + j, none⟩ = some (.string (S j)) ∧ (S j).size ≤ maxLen

set_option maxHeartbeats 800000 in
theorem longB (a0 : Option Addr) (n cap0 : Nat) (w : World) (h : 1024 < n) :
    Calls Yba.prog 4 #[.slice a0 n cap0] w fun e w' => e = .returned (.bool true) ∧ Below w.heap.size w w' := by
  have h' : (1024 : Int) < (n : Int) := by omega
  go_enter Yba.func4, Yba.ntmps4
  go_wp2
  go_ret
  exact ⟨rfl, Below.refl _ _⟩

end Go.Proofs.Ybulkcecy
