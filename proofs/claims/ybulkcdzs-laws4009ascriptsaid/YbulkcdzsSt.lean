import Derived.Test.YbulkcdzsMc
import Derived.Test.YbulkcdzsFlo3
import Derived.ChangeOld
import Derived.Below
namespace Go.Proofs.Ybulkcdzs
open Go.ChangeShapes Go.WideShapes Go.ChangeAt Go.RowKit
set_option linter.unusedVariables false

def IsRow (k : IntKind) (w : World) (a : Option Addr) (len cap : Nat) (zs : List Int) : Prop :=
  (a = none ∧ len = 0 ∧ cap = 0 ∧ zs = []) ∨
  ∃ x, a = some x ∧ len ≤ cap ∧ cap ≤ maxLen ∧ zs.length = cap ∧ (∀ i, i < zs.length → w.cell? (x.add i) = some (.int k (zs.getD i 0))) ∧ ∀ n ∈ zs, (Lit.int k n).wf = true

theorem IsRow.below {k : IntKind} {w w' : World} {a : Option Addr} {len cap : Nat} {zs : List Int} (h : IsRow k w a len cap zs) (hb : Below w.heap.size w w') : IsRow k w' a len cap zs := by
  rcases h with h | ⟨x, ha, h1, h2, h3, h4, h5⟩
  · exact .inl h
  · refine .inr ⟨x, ha, h1, h2, h3, fun i hi => ?_, h5⟩
    rw [hb.cell (World.block_lt_of_cell? _ _ (h4 i hi)), h4 i hi]

/-- an element that is there -/
theorem IsRow.get {k : IntKind} {w : World} {a : Option Addr} {len cap : Nat} {zs : List Int} (h : IsRow k w a len cap zs) (i : Nat) (hi : i < len) :
    ∃ b off n, a = some ⟨b, off, none⟩ ∧ len ≤ maxLen ∧ w.cell? ⟨b, off + i, none⟩ = some (.int k n) ∧ (Lit.int k n).wf = true ∧ Hid (zs.getD i 0 = n) := by
  rcases h with ⟨_, h, _⟩ | ⟨x, rfl, h1, h2, h3, h4, h5⟩
  · omega
  · obtain ⟨b, off, rfl, hc⟩ := ints_at h4 (by omega)
    refine ⟨b, off, zs.getD i 0, rfl, by omega, hc i (by omega), ?_, rfl⟩
    refine h5 _ ?_
    have : zs.getD i 0 = zs[i]'(by omega) := by simp [List.getD, List.getElem?_eq_getElem (show i < zs.length by omega)]
    rw [this]
    exact List.getElem_mem _

def dOf (zs : List Int) (len k : Nat) : Int := if k < len then (zs.getD k 0).tmod 4 else 0
def rOf (zs : List Int) (len k : Nat) : Int := if k < len then (if zs.getD k 0 % 3 = 0 then 1 else if zs.getD k 0 % 3 = 1 then 2 else 4) else 1

theorem dOf_b (zs : List Int) (len k : Nat) : -3 ≤ dOf zs len k ∧ dOf zs len k ≤ 3 := by
  unfold dOf
  split
  · have h1 := Int.lt_tmod_of_pos (zs.getD k 0) (b := 4) (by omega)
    have h2 := Int.tmod_lt_of_pos (zs.getD k 0) (b := 4) (by omega)
    omega
  · omega
theorem rOf_b (zs : List Int) (len k : Nat) : rOf zs len k = 1 ∨ rOf zs len k = 2 ∨ rOf zs len k = 4 := by
  unfold rOf
  split
  · split
    · exact .inl rfl
    · split
      · exact .inr (.inl rfl)
      · exact .inr (.inr rfl)
  · exact .inl rfl

theorem dOf_in {zs : List Int} {len k : Nat} {n : Int} (h : k < len) (e : zs.getD k 0 = n) : dOf zs len k = n.tmod 4 := by unfold dOf; rw [if_pos h, e]
theorem dOf_out {zs : List Int} {len k : Nat} (h : ¬ k < len) : dOf zs len k = 0 := by unfold dOf; rw [if_neg h]
theorem rOf_in {zs : List Int} {len k : Nat} {n : Int} (h : k < len) (e : zs.getD k 0 = n) : rOf zs len k = if n % 3 = 0 then 1 else if n % 3 = 1 then 2 else 4 := by unfold rOf; rw [if_pos h, e]
theorem rOf_out {zs : List Int} {len k : Nat} (h : ¬ k < len) : rOf zs len k = 1 := by unfold rOf; rw [if_neg h]

set_option maxHeartbeats 1600000 in
theorem step7 (a2 : Option Addr) (len2 cap2 : Nat) (z2 : List Int) (a3 : Option Addr) (len3 cap3 : Nat) (z3 : List Int) (k : Nat) (w : World) (w2 : IsRow .i8 w a2 len2 cap2 z2) (w3 : IsRow .u8 w a3 len3 cap3 z3) (hk : k < 100) (hl2 : len2 ≤ 1024) (hl3 : len3 ≤ 1024) :
    Calls Yba.prog 7 #[.slice a2 len2 cap2, .slice a3 len3 cap3, .int .i64 k] w fun e w' => e = .returned (.tuple #[.int .i64 (dOf z2 len2 k), .int .i64 (rOf z3 len3 k)]) ∧ w' = w := by
  by_cases h2 : k < len2
  · obtain ⟨b, off, n, rfl, hm, hc, hw, hn⟩ := w2.get k h2
    have hb8 := bounds_i8 hw
    rw [dOf_in h2 hn.out]
    by_cases h3 : k < len3
    · obtain ⟨b3, off3, n3, rfl, hm3, hc3, hw3, hn3⟩ := w3.get k h3
      have hb3 := bounds_u8 hw3
      rw [rOf_in h3 hn3.out]
      have hcs : n3 % 3 = 0 ∨ n3 % 3 = 1 ∨ n3 % 3 = 2 := by omega
      rcases hcs with hc3' | hc3' | hc3'
      all_goals
        rw [hc3']
        go_enter Yba.func7, Yba.ntmps7
        go_wp2
        go_ret2
        exact ⟨rfl, rfl⟩
    · rw [rOf_out h3]
      go_enter Yba.func7, Yba.ntmps7
      go_wp2
      go_ret2
      exact ⟨rfl, rfl⟩
  · rw [dOf_out h2]
    by_cases h3 : k < len3
    · obtain ⟨b3, off3, n3, rfl, hm3, hc3, hw3, hn3⟩ := w3.get k h3
      have hb3 := bounds_u8 hw3
      rw [rOf_in h3 hn3.out]
      have hcs : n3 % 3 = 0 ∨ n3 % 3 = 1 ∨ n3 % 3 = 2 := by omega
      rcases hcs with hc3' | hc3' | hc3'
      all_goals
        rw [hc3']
        go_enter Yba.func7, Yba.ntmps7
        go_wp2
        go_ret2
        exact ⟨rfl, rfl⟩
    · rw [rOf_out h3]
      go_enter Yba.func7, Yba.ntmps7
      go_wp2
      go_ret2
      exact ⟨rfl, rfl⟩
end Go.Proofs.Ybulkcdzs
