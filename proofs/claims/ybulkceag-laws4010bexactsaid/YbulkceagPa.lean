import Derived.Test.YbulkceagRows
import Derived.WalkKit
import Derived.WalkSpells
import Derived.WalkLawsBesides
import Derived.ProofKit
import Derived.OpenShut
import Derived.WalkSmall
import Derived.OwnWalk
import Derived.Below
import Derived.RegionTactic
import Derived.ChangeAlike
import Derived.Deep.QuietTactic
import Derived.BigQuiet
namespace Go.Proofs.Ybulkceag
open Go.ChangeShapes Go.WideShapes Go.ChangeAt Go.RowKit
set_option linter.unusedVariables false

/-- the parser at pb: its path, its N tokens (four cells each) at g, where it stands, no error -/
structure Par (pb g N cap : Nat) (K : Nat → Int) (X : Nat → ByteArray) (L C : Nat → Int) (i : Nat) (w : World) : Prop where
  path : w.cell? ⟨pb, 0, none⟩ = some (.string ⟨#[100]⟩)
  toks : w.cell? ⟨pb, 1, none⟩ = some (.slice (some ⟨g, 0, none⟩) N cap)
  cur : w.cell? ⟨pb, 2, none⟩ = some (.int .i64 i)
  errs : w.cell? ⟨pb, 3, none⟩ = some (.slice none 0 0)
  fr : w.frozen? ⟨pb, 2, none⟩ = false
  kind : ∀ j, j < N → w.cell? ⟨g, j * 4, none⟩ = some (.int .i64 (K j))
  text : ∀ j, j < N → w.cell? ⟨g, j * 4 + 1, none⟩ = some (.string (X j))
  line : ∀ j, j < N → w.cell? ⟨g, j * 4 + 2, none⟩ = some (.int .i64 (L j))
  col : ∀ j, j < N → w.cell? ⟨g, j * 4 + 3, none⟩ = some (.int .i64 (C j))
  ne : pb ≠ g

section
variable {pb g N cap : Nat} {K : Nat → Int} {X : Nat → ByteArray} {L C : Nat → Int} {i : Nat} {w w' : World}

theorem Par.below (h : Par pb g N cap K X L C i w) (hb : Below w.heap.size w w') : Par pb g N cap K X L C i w' := by
  have hp : pb < w.heap.size := World.block_lt_of_cell? _ _ h.toks
  have hg : ∀ j, j < N → g < w.heap.size := fun j hj => World.block_lt_of_cell? _ _ (h.kind j hj)
  exact ⟨(hb.cell (p := ⟨pb, 0, none⟩) hp).trans h.path, (hb.cell (p := ⟨pb, 1, none⟩) hp).trans h.toks, (hb.cell (p := ⟨pb, 2, none⟩) hp).trans h.cur, (hb.cell (p := ⟨pb, 3, none⟩) hp).trans h.errs, (hb.frozen (p := ⟨pb, 2, none⟩) hp).trans h.fr,
    fun j hj => (hb.cell (hg j hj)).trans (h.kind j hj), fun j hj => (hb.cell (hg j hj)).trans (h.text j hj), fun j hj => (hb.cell (hg j hj)).trans (h.line j hj), fun j hj => (hb.cell (hg j hj)).trans (h.col j hj), h.ne⟩

theorem Par.drewN (h : Par pb g N cap K X L C i w) (n : Nat) : Par pb g N cap K X L C i (w.drewN n) :=
  ⟨h.path, h.toks, h.cur, h.errs, h.fr, h.kind, h.text, h.line, h.col, h.ne⟩

theorem Par.move (h : Par pb g N cap K X L C i w) (k : Nat) : Par pb g N cap K X L C k (w.setCell ⟨pb, 2, none⟩ (.int .i64 k)) := by
  have o : ∀ o, o ≠ 2 → (w.setCell ⟨pb, 2, none⟩ (.int .i64 k)).cell? ⟨pb, o, none⟩ = w.cell? ⟨pb, o, none⟩ := fun o ho => World.cell?_setCell_other _ _ _ _ (by intro e; simp only [Addr.mk.injEq] at e; omega)
  have q : ∀ o, (w.setCell ⟨pb, 2, none⟩ (.int .i64 k)).cell? ⟨g, o, none⟩ = w.cell? ⟨g, o, none⟩ := fun o => World.cell?_setCell_other _ _ _ _ (by intro e; simp only [Addr.mk.injEq] at e; exact h.ne e.1)
  exact ⟨(o 0 (by omega)).trans h.path, (o 1 (by omega)).trans h.toks, World.cell?_setCell_same _ _ _ h.cur, (o 3 (by omega)).trans h.errs, by simpa using h.fr,
    fun j hj => (q _).trans (h.kind j hj), fun j hj => (q _).trans (h.text j hj), fun j hj => (q _).trans (h.line j hj), fun j hj => (q _).trans (h.col j hj), h.ne⟩

theorem grow_refl (w : World) (r : Option Nat) : w.grownBy w r := ⟨rfl, rfl, rfl, Nat.le_refl _, fun _ _ _ => rfl⟩
theorem grow_trans {a b c : World} {r : Option Nat} (h : a.grownBy b r) (k : b.grownBy c r) : a.grownBy c r :=
  ⟨k.os.trans h.os, k.tape.trans h.tape, k.output.trans h.output, Nat.le_trans h.size k.size, fun j hj hne => (k.block j (Nat.lt_of_lt_of_le hj h.size) hne).trans (h.block j hj hne)⟩
theorem grow_below {a b : World} (h : Below a.heap.size a b) (r : Option Nat) : a.grownBy b r := ⟨h.os, h.tape, h.output, h.size, fun j hj _ => h.block j hj⟩
theorem grow_set (w : World) (a : Addr) (u : Value) : w.grownBy (w.setCell a u) (some a.block) :=
  ⟨rfl, rfl, rfl, by simp, fun k hk hne => Below.heap_setCell w a u k (fun e => hne (by rw [e]))⟩
theorem grow_drewN (w : World) (n : Nat) (r : Option Nat) : w.grownBy (w.drewN n) r := ⟨rfl, rfl, rfl, Nat.le_refl _, fun _ _ _ => rfl⟩
end

set_option maxHeartbeats 400000 in
theorem tok7 (pb g N cap : Nat) (K : Nat → Int) (X : Nat → ByteArray) (L C : Nat → Int) (i : Nat) (w : World) (hi : i < N) (hN : N ≤ 5000) (hp : Par pb g N cap K X L C i w) :
    Calls Yba.prog 7 #[.pointer (some ⟨pb, 0, none⟩)] w fun e w' => e = .returned (.agg #[.int .i64 (K i), .string (X i), .int .i64 (L i), .int .i64 (C i)]) ∧ Below w.heap.size w w' := by
  have h1 := hp.toks
  have h2 := hp.cur
  have c0 := hp.kind i hi
  have c1 := hp.text i hi
  have c2 := hp.line i hi
  have c3 := hp.col i hi
  have s1 := World.block_lt_of_cell? _ _ h1
  have s2 := World.block_lt_of_cell? _ _ c0
  simp only at s1 s2
  have hiI : (i : Int) < (N : Int) := by omega
  go_enter Yba.func7, Yba.ntmps7
  go_wp2
  go_region
  go_wp2
  exact bodyPost_ret (v := .agg #[.int .i64 (K i), .string (X i), .int .i64 (L i), .int .i64 (C i)]) (by simp [results, Yba.results7, go_sem]) rfl ⟨rfl, ((Below.refl _ _).alloc (Nat.le_refl _) _).drew⟩

set_option maxHeartbeats 400000 in
theorem peek12 (pb g N cap : Nat) (K : Nat → Int) (X : Nat → ByteArray) (L C : Nat → Int) (i : Nat) (w : World) (hi : i + 1 < N) (hN : N ≤ 5000) (hp : Par pb g N cap K X L C i w) :
    Calls Yba.prog 12 #[.pointer (some ⟨pb, 0, none⟩)] w fun e w' => e = .returned (.agg #[.int .i64 (K (i + 1)), .string (X (i + 1)), .int .i64 (L (i + 1)), .int .i64 (C (i + 1))]) ∧ Below w.heap.size w w' := by
  have h1 := hp.toks
  have h2 := hp.cur
  have c0 := hp.kind (i + 1) hi
  have c1 := hp.text (i + 1) hi
  have c2 := hp.line (i + 1) hi
  have c3 := hp.col (i + 1) hi
  have s1 := World.block_lt_of_cell? _ _ h1
  have s2 := World.block_lt_of_cell? _ _ c0
  simp only at s1 s2
  have hiI : (i : Int) + 1 < (N : Int) := by omega
  have hiJ : (i : Int) + 1 ≤ (N : Int) - 1 := by omega
  go_enter Yba.func12, Yba.ntmps12
  go_wp2
  go_region
  go_wp2
  exact bodyPost_ret (v := .agg #[.int .i64 (K (i + 1)), .string (X (i + 1)), .int .i64 (L (i + 1)), .int .i64 (C (i + 1))]) (by simp [results, Yba.results12, go_sem]) rfl ⟨rfl, ((Below.refl _ _).alloc (Nat.le_refl _) _).drew⟩

set_option maxHeartbeats 400000 in
theorem next10 (pb g N cap : Nat) (K : Nat → Int) (X : Nat → ByteArray) (L C : Nat → Int) (i : Nat) (w : World) (hi : i + 1 < N) (hN : N ≤ 5000) (hp : Par pb g N cap K X L C i w) :
    Calls Yba.prog 10 #[.pointer (some ⟨pb, 0, none⟩)] w fun e w' => e = .returned (.tuple #[]) ∧ Par pb g N cap K X L C (i + 1) w' ∧ w.grownBy w' (some pb) := by
  have h1 := hp.toks
  have h2 := hp.cur
  have h3 := hp.fr
  have hiI : (i : Int) < (N : Int) - 1 := by omega
  go_enter Yba.func10, Yba.ntmps10
  go_wp2
  go_quiet (fail)
  go_wp2
  go_end0
  exact ⟨rfl, (hp.drewN nq).move (i + 1), grow_trans (grow_drewN _ _ _) (grow_set _ _ _)⟩
end Go.Proofs.Ybulkceag
