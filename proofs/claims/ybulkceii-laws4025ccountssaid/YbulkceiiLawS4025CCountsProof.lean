/-
  A proof of 'Rows.LawS4025CCountsSaid': the frame is the shells' own, turned to a struct and a slice of bools; the walks: YbulkceiiAt (sync/atomic), Ig (ignore), Cw (the law); Op: the struct's fields.
-/
import Derived.Test.YbulkceiiRows
import Derived.WalkKit
import Derived.ProofKit
import Derived.OpenShut
import Derived.ShutString
import Derived.ChangeOld
import Derived.Below
import Derived.Deep.Grids
import Derived.Test.YbulkceiiOp
import Derived.Test.YbulkceiiCw
namespace Go.Proofs.Ybulkceii.lawS4025CCounts
open Go.ChangeShapes Go.WideShapes Go.ChangeAt Go.RowKit
set_option linter.unusedVariables false

theorem own : ownKnob Yba.prog.godebug = none := by kernel_rfl
theorem laidOut : laidOutB Yba.prog = true := by kernel_rfl

set_option maxHeartbeats 800000 in
set_option maxRecDepth 100000 in
theorem long3 (v0 : Value) (a1 : Option Addr) (n cap : Nat) (d0 d1 d3 d4 d5 d6 d7 d8 d9 : Int) (d2 : Bool) (w : World) (h : 4096 < n) :
    Calls Yba.prog 3 #[.agg #[.int .u64 d0, .int .u64 d1, .bool d2, .int .u64 d3, .int .u64 d4, .int .u64 d5, .int .u64 d6, .int .u64 d7, .int .u64 d8, .int .u64 d9], .slice a1 n cap] w fun e w' => e = .returned (.bool true) ∧ Below w.heap.size w w' := by
  have h' : (4096 : Int) < (n : Int) := by omega
  go_enter Yba.func3, Yba.ntmps3
  go_wp2
  go_ret
  exact ⟨rfl, (Below.refl _ _).alloc (Nat.le_refl _) _⟩

theorem bounds64 {n : Int} (h : (Lit.int .u64 n).wf = true) : 0 ≤ n ∧ n < 18446744073709551616 := by
  have := h
  simp [Lit.wf, IntKind.min, IntKind.max, IntKind.signed, IntKind.bits] at this
  omega

/-! ### THE WALK -/
theorem walk (d0 d1 d3 d4 d5 d6 d7 d8 d9 : Int) (d2 : Bool) (a1 : Option Addr) (n cap : Nat) (f : Nat → Bool) (w : World) (w1 : IsB w a1 n f) (g4 : (Lit.int .u64 d4).wf = true) (g5 : (Lit.int .u64 d5).wf = true) :
    Calls Yba.prog 3 #[.agg #[.int .u64 d0, .int .u64 d1, .bool d2, .int .u64 d3, .int .u64 d4, .int .u64 d5, .int .u64 d6, .int .u64 d7, .int .u64 d8, .int .u64 d9], .slice a1 n cap] w fun e w' => e = .returned (.bool true) ∧ Below w.heap.size w w' := by
  by_cases h : 4096 < n
  · exact long3 (.bool true) a1 n cap d0 d1 d3 d4 d5 d6 d7 d8 d9 d2 w h
  · exact law3 d0 d1 d3 d4 d5 d6 d7 d8 d9 d2 a1 n cap f w w1 (by omega) (bounds64 g4) (bounds64 g5)

theorem spot_none {w : World} {a : Addr} {v : Value} (h : w.cell? a = some v) : a.spot = none := by
  unfold World.cell? at h
  cases hs : a.spot with
  | none => rfl
  | some k =>
    simp only [hs, Option.isSome_some, if_true] at h
    split at h <;> cases h
theorem add_eq (b o j : Nat) : Addr.add ⟨b, o, none⟩ j = ⟨b, o + j, none⟩ := by
  unfold Addr.add
  split
  · rename_i h; subst h; rfl
  · rfl

/-! ### THE ROW's STEP -/
set_option maxRecDepth 100000 in
theorem lifted (os : Os) (started : os.Started) (H : Type) (enc : TypeId × Value → H) :
    ReturnsInHanded {} Yba.checked os 3 .any (Rows.lawS4025CCountsSpec.pre6 enc Yba.prog Yba.f3 Rows.lawS4025CCountsRow.domain false) (Rows.lawS4025CCountsSpec.post enc Yba.prog Yba.f3 false true false false) := by
  refine returnsInHanded_of_change (C := Yba.checked) own started (by kernel_rfl) Yba.func3
    (ChangeSpec.witness6 (enc := enc) (C := Yba.checked) false ⟨#[], #[.agg #[.int .u64 0, .int .u64 0, .bool false, .int .u64 0, .int .u64 0, .int .u64 0, .int .u64 0, .int .u64 0, .int .u64 0, .int .u64 0], .slice none 0 0], []⟩ 8 (by kernel_rfl) (by kernel_rfl) (by kernel_rfl) (by kernel_rfl)) ?_
  intro W base args ds gs before hval0 hW hcnd _
  have hval : ∀ (j : Nat) t v, Yba.f3.params[j]? = some t → args[j]? = some v → Value.okWide Yba.prog W .any base t v := hval0
  have hW' := hW
  obtain ⟨p, q, hA0, hV, rfl, hfz, hnd⟩ := hW
  have hA : DataW.TrodAll enc Yba.prog W 0 (fun _ => true) true Yba.f3.params.toList args.toList ds p := hA0
  rw [Yba.params3] at hA hval
  obtain ⟨v0, vs0, e0, ds0, p0, q0, hargs, rfl, rfl, h0, r0⟩ := trodAll_cons hA
  obtain ⟨v1, vs1, e1, ds1, p1, q1, rfl, rfl, rfl, h1, r1⟩ := trodAll_cons r0
  obtain ⟨rfl, rfl, rfl⟩ := trodAll_nil r1
  obtain rfl : args = #[v0, v1] := by cases args; simp_all
  obtain ⟨rfl, rfl⟩ := trodVars_none hV
  have k0 := h0
  have lt0 : ∀ x ∈ p0, x.block < W.heap.size := by obtain ⟨m, hm⟩ := k0; exact DataW.trod_lt m _ _ _ hm
  obtain ⟨cs, rfl, hcs⟩ := okWide_struct Yba.underlying24 (hval 0 24 v0 rfl rfl)
  obtain ⟨d0, d1, d3, d4, d5, d6, d7, d8, d9, d2, hcs2, g4, g5⟩ : ∃ (d0 d1 d3 d4 d5 d6 d7 d8 d9 : Int) (d2 : Bool), cs.toList = [.int .u64 d0, .int .u64 d1, .bool d2, .int .u64 d3, .int .u64 d4, .int .u64 d5, .int .u64 d6, .int .u64 d7, .int .u64 d8, .int .u64 d9] ∧ (Lit.int .u64 d4).wf = true ∧ (Lit.int .u64 d5).wf = true := by
    obtain ⟨fuel, hf⟩ := h0
    have hc10 : Yba.prog.cellsOf 24 = 10 := by kernel_rfl
    exact open10 (by simpa [hc10] using hcs) hf
  obtain rfl : cs = #[.int .u64 d0, .int .u64 d1, .bool d2, .int .u64 d3, .int .u64 d4, .int .u64 d5, .int .u64 d6, .int .u64 d7, .int .u64 d8, .int .u64 d9] := Array.toList_inj.1 hcs2
  obtain ⟨a1, len1, cap1, rfl⟩ := okWide_slice Yba.underlying25 (hval 1 25 v1 rfl rfl)
  have k1 := h1
  have lt1 : ∀ x ∈ p1, x.block < W.heap.size := by obtain ⟨m, hm⟩ := k1; exact DataW.trod_lt m _ _ _ hm
  obtain ⟨f, w1⟩ : ∃ f, IsB W a1 len1 f := by
    obtain ⟨fuel, hf⟩ := h1
    rcases Go.Deep.open_bools Yba.underlying25 Yba.underlying4 (by kernel_rfl) hf with ⟨hcs, _⟩ | ⟨x, l, c, B, hcs, _, hl, hm, _, hcell⟩
    · simp [Value.cells] at hcs
      obtain ⟨rfl, rfl, rfl⟩ := hcs
      exact ⟨fun _ => false, .inl rfl⟩
    · simp [Value.cells] at hcs
      obtain ⟨rfl, rfl, rfl⟩ := hcs
      refine ⟨B, ?_⟩
      by_cases hn : len1 = 0
      · exact .inl hn
      · right
        have hsp : x.spot = none := spot_none (a := x.add 0) (hcell 0 (by omega))
        obtain ⟨xb, xo, xs⟩ := x
        dsimp only at hsp
        subst hsp
        exact ⟨xb, xo, rfl, fun j hj => (congrArg W.cell? (add_eq xb xo j)).symm.trans (hcell j (by omega))⟩
  clear hA0 hval0
  refine (walk d0 d1 d3 d4 d5 d6 d7 d8 d9 d2 a1 len1 cap1 f W w1 g4 g5).mono fun e W' ⟨he, bel⟩ => ?_
  subst he
  exact ⟨_, rfl, _, _, _, [], _, [], hW', trodAll_mk1 (shut_bool Yba.underlying4 _), (trodAll_cons_mk (Below.trod laidOut (by kernel_rfl) (of_decide_eq_true (by kernel_rfl)) k0 bel lt0) (trodAll_cons_mk (Below.trod laidOut (by kernel_rfl) (of_decide_eq_true (by kernel_rfl)) k1 bel lt1) trodAll_mk0)), rfl, bel.frame _, fun h => by cases h⟩

theorem over : Rows.lawS4025CCountsRow.holds Yba.pinned (OpenSpec.ofChange Rows.lawS4025CCountsSpec) :=
  OpenClaim.holds_of_wide 3 Yba.f3 rfl rfl rfl rfl rfl rfl rfl ⟨rfl, rfl, rfl, rfl, rfl⟩ rfl rfl rfl rfl rfl (by kernel_rfl) Yba.func3 (by kernel_rfl)
    (of_decide_eq_true (by kernel_rfl)) (by unfold Func.isWrapper; first | (rw [if_pos (by decide +kernel)]; kernel_rfl) | (rw [if_neg (by decide +kernel)]; exact ⟨rfl, rfl⟩))
    (fun os started H enc _ => lifted os started H enc)

/-- ████ THE STATEMENT ████ -/
theorem proved : Rows.LawS4025CCountsSaid := over
end Go.Proofs.Ybulkceii.lawS4025CCounts
