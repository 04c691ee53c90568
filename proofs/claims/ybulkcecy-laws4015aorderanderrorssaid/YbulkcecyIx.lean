import Derived.Test.YbulkcecyPl
import Derived.WalkKit
import Derived.WalkSpells
import Derived.WalkLawsBesides
import Derived.ProofKit
import Derived.OpenShut
import Derived.WalkSmall
import Derived.OwnWalk
import Derived.Below
import Derived.Deep.QuietTactic
import Derived.BigQuiet
import Derived.Maps.Own
import Derived.Maps.OwnSet
namespace Go.Proofs.Ybulkcecy
open Go.ChangeShapes Go.WideShapes Go.ChangeAt Go.RowKit Go.WideMaps Go.Maps
set_option linter.unusedVariables false

theorem law : Keyed Yba.prog 9 := string_keyed Yba.underlying9
theorem zero3 (w : World) : (zeroValue 3).run Yba.prog w = .ok (.int .i64 0) w := by kernel_rfl
theorem make48 (n : Int) (w : World) : (Instr.makeMap 48 (some (.int .i64 n))).run Yba.prog w = .ok (.map (some w.heap.size)) (w.alloc (.map #[] 0)) := by kernel_rfl
theorem info47 : (Yba.prog.info? 47).map (fun i => (i.zero, i.size, i.bytes)) = some (some (.agg #[.string ⟨#[]⟩, .int .u8 0, .int .u64 0, .string ⟨#[]⟩, .pointer none]), 5, 56) := by kernel_rfl

/-- the members: five cells each, the name and a zero value -/
structure Mem (g n : Nat) (S : Nat → ByteArray) (w : World) : Prop where
  m0 : ∀ j, j < n → w.cell? ⟨g, j * 5, none⟩ = some (.string (S j))
  m1 : ∀ j, j < n → w.cell? ⟨g, j * 5 + 1, none⟩ = some (.int .u8 0)
  m2 : ∀ j, j < n → w.cell? ⟨g, j * 5 + 2, none⟩ = some (.int .u64 0)
  m3 : ∀ j, j < n → w.cell? ⟨g, j * 5 + 3, none⟩ = some (.string ⟨#[]⟩)
  m4 : ∀ j, j < n → w.cell? ⟨g, j * 5 + 4, none⟩ = some (.pointer none)

theorem Mem.below {g n : Nat} {S : Nat → ByteArray} {w w' : World} (h : Mem g n S w) (hb : Below w.heap.size w w') : Mem g n S w' := by
  have hg : ∀ j, j < n → g < w.heap.size := fun j hj => World.block_lt_of_cell? _ _ (h.m0 j hj)
  exact ⟨fun j hj => (hb.cell (hg j hj)).trans (h.m0 j hj), fun j hj => (hb.cell (hg j hj)).trans (h.m1 j hj), fun j hj => (hb.cell (hg j hj)).trans (h.m2 j hj), fun j hj => (hb.cell (hg j hj)).trans (h.m3 j hj), fun j hj => (hb.cell (hg j hj)).trans (h.m4 j hj)⟩

set_option maxHeartbeats 800000 in
set_option maxRecDepth 100000 in
theorem idx_few (g n cap : Nat) (w : World) (hn : n ≤ 8) :
    Calls Yba.prog 7 #[.slice (some ⟨g, 0, none⟩) n cap] w fun e w' => e = .returned (.agg #[.slice (some ⟨g, 0, none⟩) n cap, .map none]) ∧ Below w.heap.size w w' := by
  have h' : (n : Int) ≤ 8 := by omega
  go_enter Yba.func7, Yba.ntmps7
  go_wp2
  exact bodyPost_ret (v := .agg #[.slice (some ⟨g, 0, none⟩) n cap, .map none]) (by simp [results, Yba.results7, go_sem]) rfl ⟨rfl, ((Below.refl _ _).alloc (Nat.le_refl _) _).alloc (by simp) _⟩

theorem grow_set (w : World) (a : Addr) (u : Value) : w.grownBy (w.setCell a u) (some a.block) :=
  ⟨rfl, rfl, rfl, by simp, fun k hk hne => Below.heap_setCell w a u k (fun e => hne (by rw [e]))⟩

/-- indexMembers' own memory while the map is filled -/
structure MInv (w : World) (g n cap : Nat) (S : Nat → ByteArray) (k : Nat) (wr : World) : Prop where
  mp : wr.ownsMap Yba.prog 9 (plainElem (H := Unit) Yba.prog 3) (w.heap.size + 1 + 1) k (C S k)
  x0 : wr.cell? ⟨w.heap.size + 1, 0, none⟩ = some (.slice (some ⟨g, 0, none⟩) n cap)
  x1 : wr.cell? ⟨w.heap.size + 1, 1, none⟩ = some (.map (some (w.heap.size + 1 + 1)))
  r0 : wr.cell? ⟨w.heap.size, 0, none⟩ = some (.slice none 0 0)
  r1 : wr.cell? ⟨w.heap.size, 1, none⟩ = some (.map none)
  f0 : wr.frozen? ⟨w.heap.size, 0, none⟩ = false
  f1 : wr.frozen? ⟨w.heap.size, 1, none⟩ = false
  sz : w.heap.size + 1 + 1 < wr.heap.size
  bl : Below w.heap.size w wr

theorem minv_start (w : World) (g n cap : Nat) (S : Nat → ByteArray) : MInv w g n cap S 0 (((w.alloc (Obj.cells #[.slice none 0 0, .map none] 50)).alloc (Obj.cells #[.slice (some ⟨g, 0, none⟩) n cap, .map (some (w.heap.size + 1 + 1))] 50)).alloc (Obj.map #[] 0)) := by
  refine ⟨?_, ?_, ?_, ?_, ?_, ?_, ?_, by simp, (((Below.refl _ _).alloc (Nat.le_refl _) _).alloc (by simp) _).alloc (by simp; omega) _⟩
  · have := World.ownsMap_made ((w.alloc (Obj.cells #[.slice none 0 0, .map none] 50)).alloc (Obj.cells #[.slice (some ⟨g, 0, none⟩) n cap, .map (some (w.heap.size + 1 + 1))] 50)) Yba.prog 9 (plainElem (H := Unit) Yba.prog 3)
    rw [World.size_alloc, World.size_alloc] at this
    exact this
  · rw [World.cell?_alloc_lt _ _ _ (by simp)]; simp [go_sem]
  · rw [World.cell?_alloc_lt _ _ _ (by simp)]; simp [go_sem]
  · rw [World.cell?_alloc_lt _ _ _ (by simp; omega), World.cell?_alloc_lt _ _ _ (by simp)]; simp
  · rw [World.cell?_alloc_lt _ _ _ (by simp; omega), World.cell?_alloc_lt _ _ _ (by simp)]; simp
  · rw [World.frozen?_alloc_past _ _ _ (by simp; omega), World.frozen?_alloc_past _ _ _ (by simp)]; simp
  · rw [World.frozen?_alloc_past _ _ _ (by simp; omega), World.frozen?_alloc_past _ _ _ (by simp)]; simp

theorem MInv.next {w : World} {g n cap : Nat} {S : Nat → ByteArray} {k : Nat} {wr w1 : World} {o : Obj} (h : MInv w g n cap S k wr) (hg : (wr.alloc o).grownBy w1 (some (w.heap.size + 1 + 1)))
    (hm : w1.ownsMap Yba.prog 9 (plainElem (H := Unit) Yba.prog 3) (w.heap.size + 1 + 1) (k + 1) (C S (k + 1))) : MInv w g n cap S (k + 1) w1 := by
  have hs := h.sz
  have hs1 := hg.size
  rw [World.size_alloc] at hs1
  have q : ∀ b o', b < w.heap.size + 1 + 1 → w1.cell? ⟨b, o', none⟩ = wr.cell? ⟨b, o', none⟩ := by
    intro b o' hb
    rw [World.cell?_of_block (hg.block b (by simp; omega) (by simp; omega)), World.cell?_alloc_lt _ _ _ (by dsimp only; omega)]
  have qf : ∀ b o', b < w.heap.size + 1 + 1 → w1.frozen? ⟨b, o', none⟩ = wr.frozen? ⟨b, o', none⟩ := by
    intro b o' hb
    rw [World.frozen?_of_block (hg.block b (by simp; omega) (by simp; omega)), World.frozen?_alloc_past _ _ _ (by omega)]
  exact ⟨hm, (q _ _ (by omega)).trans h.x0, (q _ _ (by omega)).trans h.x1, (q _ _ (by omega)).trans h.r0, (q _ _ (by omega)).trans h.r1, (qf _ _ (by omega)).trans h.f0, (qf _ _ (by omega)).trans h.f1, by omega,
    (h.bl.alloc (by omega) o).grown hg (by simp; omega) (fun j hj => by cases hj; omega)⟩

set_option maxHeartbeats 1600000 in
set_option maxRecDepth 100000 in
theorem idx_many (g n cap : Nat) (S : Nat → ByteArray) (w : World) (h8 : 8 < n) (hn : n ≤ 1024) (hM : Mem g n S w) (hS : ∀ j, j < n → (S j).size ≤ maxLen) :
    Calls Yba.prog 7 #[.slice (some ⟨g, 0, none⟩) n cap] w fun e w' => ∃ B, e = .returned (.agg #[.slice (some ⟨g, 0, none⟩) n cap, .map (some B)]) ∧ w.heap.size ≤ B ∧ w'.ownsMap Yba.prog 9 (plainElem (H := Unit) Yba.prog 3) B n (C S n) ∧ Below w.heap.size w w' := by
  have h' : (8 : Int) < (n : Int) := by omega
  have hmm := make48
  go_enter Yba.func7, Yba.ntmps7
  go_wp2_with fail
  go_loopw [17] (fun i wr => ∃ k : Nat, k ≤ n ∧ i = .int .i64 k ∧ MInv w g n cap S k wr) (fun i _ => n - (intOf i).toNat)
  case atStart => exact ⟨0, by omega, rfl, minv_start w g n cap S⟩
  case round =>
    obtain ⟨k, hk, rfl, hI⟩ := hrel
    by_cases hlt : k < n
    · have hkI : (k : Int) < (n : Int) := by omega
      have hMr := hM.below hI.bl
      have c0 := hMr.m0 k hlt
      have c1 := hMr.m1 k hlt
      have c2 := hMr.m2 k hlt
      have c3 := hMr.m3 k hlt
      have c4 := hMr.m4 k hlt
      have x1 := hI.x1
      have sz := hI.sz
      have sz1 : w.heap.size + 1 < wr.heap.size := by omega
      have hkey : keyOf Yba.prog 9 (.string (S k)) = some (key (S k)) := keyOf_string_mk Yba.underlying9 (hS k hlt)
      have HKey : Hid (keyOf Yba.prog 9 (.string (S k)) = some (key (S k))) := hkey
      clear hkey hMr
      go_wp2_with (at_mapUpdate; refine wpList_mapUpdate_own _ rfl _ _ _ 48 rfl 9 3 law Yba.underlying48 _ (w.heap.size + 1 + 1) k _ rfl (hI.mp.alloc _) (by unfold maxLen; omega) _ _ _ rfl rfl HKey.out _ [] (plainElem_int Yba.underlying3 (WalkArith.wf_i64 (by omega))) ?_; intro w1 hm1 hg1)
      have hN := hI.next hg1 hm1
      clear hm1 hg1 c0 c1 c2 c3 c4
      go_roundw
      case rel => exact ⟨k + 1, by omega, by go_num, hN⟩
      case measure => simp [intOf]; omega
    · have hkn : n = k := by omega
      subst hkn
      have x0 := hI.x0
      have x1 := hI.x1
      have r0 := hI.r0
      have r1 := hI.r1
      have f0 := hI.f0
      have f1 := hI.f1
      go_wp2
      exact bodyPost_ret (v := .agg #[.slice (some ⟨g, 0, none⟩) n cap, .map (some (w.heap.size + 1 + 1))]) (by simp [results, Yba.results7, go_sem, r0, r1]) rfl
        ⟨w.heap.size + 1 + 1, rfl, by omega, (hI.mp.kept (grow_set _ _ _) (by simp; omega)).kept (grow_set _ _ _) (by simp; omega), (hI.bl.setCell (Nat.le_refl _) _).setCell (Nat.le_refl _) _⟩
end Go.Proofs.Ybulkcecy
