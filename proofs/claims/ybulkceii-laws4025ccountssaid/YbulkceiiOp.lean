import Derived.Test.YbulkceiiAt
namespace Go.Proofs.Ybulkceii
open Go.ChangeShapes Go.WideShapes Go.ChangeAt Go.RowKit
set_option linter.unusedVariables false

theorem cells22 : Yba.prog.cellsOf 22 = 1 := by kernel_rfl
theorem cells4 : Yba.prog.cellsOf 4 = 1 := by kernel_rfl

theorem one_of_take {α : Type} {l : List α} {i : Nat} {x : α} (h : (l.drop i).take 1 = [x]) : l[i]? = some x := by
  have := congrArg (fun q => q[0]?) h
  simpa [List.getElem?_take, List.getElem?_drop] using this

/-- the ten fields -/
theorem open10 {H : Type} {enc : TypeId × Value → H} {w : World} {base : Nat} {sp : Nat → Bool} {held : Bool} {fuel : Nat} {cs : List Value} {x : DataW H × List MemPlace} (hl : cs.length = 10)
    (h : DataW.trod enc Yba.prog w base sp held fuel 24 cs = some x) :
    ∃ (d0 d1 d3 d4 d5 d6 d7 d8 d9 : Int) (d2 : Bool), cs = [.int .u64 d0, .int .u64 d1, .bool d2, .int .u64 d3, .int .u64 d4, .int .u64 d5, .int .u64 d6, .int .u64 d7, .int .u64 d8, .int .u64 d9] ∧ (Lit.int .u64 d4).wf = true ∧ (Lit.int .u64 d5).wf = true := by
  obtain ⟨xs, m, _, _, _, hxl, hfld⟩ := DataW.trod_struct Yba.underlying24 h
  have hxl' : xs.length = 10 := hxl
  have int1 : ∀ i f, (Yba.prog.cellsOf f = 1) → f = 22 → i < 10 → ∀ o, DataW.trod enc Yba.prog w base sp held m f ((cs.drop o).take (Yba.prog.cellsOf f)) = xs[i]? → ∃ d, cs[o]? = some (.int .u64 d) ∧ (Lit.int .u64 d).wf = true := by
    intro i f hc hf hi o hh
    subst hf
    rw [List.getElem?_eq_getElem (by omega)] at hh
    obtain ⟨d, h1, _, h3⟩ := DataW.trod_int Yba.underlying22 hh
    rw [hc] at h1
    exact ⟨d, one_of_take h1, h3⟩
  obtain ⟨d0, e0, _⟩ := int1 0 22 cells22 rfl (by omega) 0 (hfld 0 _ rfl)
  obtain ⟨d1, e1, _⟩ := int1 1 22 cells22 rfl (by omega) 1 (hfld 1 _ rfl)
  obtain ⟨d2, e2⟩ : ∃ d, cs[2]? = some (.bool d) := by
    have hh : DataW.trod enc Yba.prog w base sp held m 4 ((cs.drop 2).take (Yba.prog.cellsOf 4)) = xs[2]? := hfld 2 _ rfl
    rw [List.getElem?_eq_getElem (by omega)] at hh
    obtain ⟨d, h1, _⟩ := DataW.trod_bool Yba.underlying4 hh
    exact ⟨d, one_of_take (by rw [cells4] at h1; exact h1)⟩
  obtain ⟨d3, e3, _⟩ := int1 3 22 cells22 rfl (by omega) 3 (hfld 3 _ rfl)
  obtain ⟨d4, e4, g4⟩ := int1 4 22 cells22 rfl (by omega) 4 (hfld 4 _ rfl)
  obtain ⟨d5, e5, g5⟩ := int1 5 22 cells22 rfl (by omega) 5 (hfld 5 _ rfl)
  obtain ⟨d6, e6, _⟩ := int1 6 22 cells22 rfl (by omega) 6 (hfld 6 _ rfl)
  obtain ⟨d7, e7, _⟩ := int1 7 22 cells22 rfl (by omega) 7 (hfld 7 _ rfl)
  obtain ⟨d8, e8, _⟩ := int1 8 22 cells22 rfl (by omega) 8 (hfld 8 _ rfl)
  obtain ⟨d9, e9, _⟩ := int1 9 22 cells22 rfl (by omega) 9 (hfld 9 _ rfl)
  refine ⟨d0, d1, d3, d4, d5, d6, d7, d8, d9, d2, ?_, g4, g5⟩
  clear hfld int1 h
  match cs, hl, e0, e1, e2, e3, e4, e5, e6, e7, e8, e9 with
  | [a, b, c, d, e, f, g, h', i, j], _, e0, e1, e2, e3, e4, e5, e6, e7, e8, e9 =>
    simp at e0 e1 e2 e3 e4 e5 e6 e7 e8 e9
    rw [e0, e1, e2, e3, e4, e5, e6, e7, e8, e9]
end Go.Proofs.Ybulkceii
