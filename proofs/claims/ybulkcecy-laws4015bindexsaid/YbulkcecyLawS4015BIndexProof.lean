/-
  A proof of 'Rows.LawS4015BIndexSaid': the frame is the shells' own, turned to a slice of strings; the walks: YbulkcecyIx (indexMembers), YbulkcecyBa, Bf (at most 8 names), Bm (more); the plain law: YbulkcecyPl.
-/
import Derived.Test.YbulkcecyRows
import Derived.WalkKit
import Derived.ProofKit
import Derived.OpenShut
import Derived.ShutString
import Derived.ChangeOld
import Derived.Below
import Derived.SliceStrings
import Derived.Test.YbulkcecyBf
import Derived.Test.YbulkcecyBm
namespace Go.Proofs.Ybulkcecy.lawS4015BIndex
open Go.ChangeShapes Go.WideShapes Go.ChangeAt Go.RowKit
set_option linter.unusedVariables false

theorem own : ownKnob Yba.prog.godebug = none := by kernel_rfl
theorem laidOut : laidOutB Yba.prog = true := by kernel_rfl

/-! ### THE WALK -/
theorem walk (a0 : Option Addr) (len0 cap0 : Nat) (S : Nat → ByteArray) (w : World) (w0 : IsStr w a0 len0 S) :
    Calls Yba.prog 4 #[.slice a0 len0 cap0] w fun e w' => e = .returned (.bool true) ∧ Below w.heap.size w w' := by
  by_cases h : 1024 < len0
  · exact longB a0 len0 cap0 w h
  · by_cases h8 : 8 < len0
    · exact walkMany a0 len0 cap0 S w w0 (by omega) h8
    · exact walkFew a0 len0 cap0 S w w0 (by omega)

theorem spot_none {w : World} {a : Addr} {v : Value} (h : w.cell? a = some v) : a.spot = none := by
  unfold World.cell? at h
  cases hs : a.spot with
  | none => rfl
  | some k =>
    simp only [hs, Option.isSome_some, if_true] at h
    split at h <;> cases h

theorem add_eq (b o j : Nat) : Addr.add ⟨b, o, none⟩ j = ⟨b, o + j, none⟩ := by
  unfold Addr.add
  split
  · rename_i h; subst h; rfl
  · rfl

/-! ### THE ROW's STEP -/
set_option maxRecDepth 100000 in
theorem lifted (os : Os) (started : os.Started) (H : Type) (enc : TypeId × Value → H) :
    ReturnsInHanded {} Yba.checked os 4 .any (Rows.lawS4015BIndexSpec.pre6 enc Yba.prog Yba.f4 Rows.lawS4015BIndexRow.domain false) (Rows.lawS4015BIndexSpec.post enc Yba.prog Yba.f4 false true false false) := by
  refine returnsInHanded_of_change (C := Yba.checked) own started (by kernel_rfl) Yba.func4
    (ChangeSpec.witness6 (enc := enc) (C := Yba.checked) false ⟨#[], #[.slice none 0 0], []⟩ 8 (by kernel_rfl) (by kernel_rfl) (by kernel_rfl) (by kernel_rfl)) ?_
  intro W base args ds gs before hval0 hW hcnd _
  have hval : ∀ (j : Nat) t v, Yba.f4.params[j]? = some t → args[j]? = some v → Value.okWide Yba.prog W .any base t v := hval0
  have hW' := hW
  obtain ⟨p, q, hA0, hV, rfl, hfz, hnd⟩ := hW
  have hA : DataW.TrodAll enc Yba.prog W 0 (fun _ => true) true Yba.f4.params.toList args.toList ds p := hA0
  rw [Yba.params4] at hA hval
  obtain ⟨v0, vs0, d0, ds0, p0, q0, hargs, rfl, rfl, h0, r0⟩ := trodAll_cons hA
  obtain ⟨rfl, rfl, rfl⟩ := trodAll_nil r0
  obtain rfl : args = #[v0] := by cases args; simp_all
  obtain ⟨rfl, rfl⟩ := trodVars_none hV
  obtain ⟨a0, len0, cap0, rfl⟩ := okWide_slice Yba.underlying44 (hval 0 44 v0 rfl rfl)
  have k0 := h0
  have lt0 : ∀ x ∈ p0, x.block < W.heap.size := by obtain ⟨m, hm⟩ := k0; exact DataW.trod_lt m _ _ _ hm
  obtain ⟨S, w0⟩ : ∃ S, IsStr W a0 len0 S := by
    obtain ⟨fuel, hf⟩ := h0
    rcases open_strings Yba.underlying44 Yba.underlying9 (by kernel_rfl) hf with ⟨hcs, _⟩ | ⟨x, l, c, ss, hcs, _, hl, hm, hz, _, hcell, hsz⟩
    · simp [Value.cells] at hcs
      obtain ⟨rfl, rfl, rfl⟩ := hcs
      exact ⟨fun _ => ByteArray.empty, .inl rfl⟩
    · simp [Value.cells] at hcs
      obtain ⟨rfl, rfl, rfl⟩ := hcs
      have hz' : ss.length = cap0 := by simpa using hz
      refine ⟨fun j => ss.getD j ByteArray.empty, ?_⟩
      by_cases hn : len0 = 0
      · exact .inl hn
      · right
        have hsp : x.spot = none := spot_none (a := x.add 0) (hcell 0 (by omega))
        obtain ⟨xb, xo, xs⟩ := x
        dsimp only at hsp
        subst hsp
        refine ⟨xb, xo, rfl, fun j hj => ⟨(congrArg W.cell? (add_eq xb xo j)).symm.trans (hcell j (by omega)), ?_⟩⟩
        have hj' : j < ss.length := by omega
        refine hsz _ ?_
        dsimp only
        rw [List.getD_eq_getElem?_getD, List.getElem?_eq_getElem hj']
        exact List.getElem_mem hj'
  clear hA0 hval0
  refine (walk a0 len0 cap0 S W w0).mono fun e W' ⟨he, bel⟩ => ?_
  subst he
  exact ⟨_, rfl, _, _, _, [], _, [], hW', trodAll_mk1 (shut_bool Yba.underlying4 _), (trodAll_cons_mk (Below.trod laidOut (by kernel_rfl) (of_decide_eq_true (by kernel_rfl)) k0 bel lt0) trodAll_mk0), rfl, bel.frame _, fun h => by cases h⟩

theorem over : Rows.lawS4015BIndexRow.holds Yba.pinned (OpenSpec.ofChange Rows.lawS4015BIndexSpec) :=
  OpenClaim.holds_of_wide 4 Yba.f4 rfl rfl rfl rfl rfl rfl rfl ⟨rfl, rfl, rfl, rfl, rfl⟩ rfl rfl rfl rfl rfl (by kernel_rfl) Yba.func4 (by kernel_rfl)
    (of_decide_eq_true (by kernel_rfl)) (by unfold Func.isWrapper; first | (rw [if_pos (by decide +kernel)]; kernel_rfl) | (rw [if_neg (by decide +kernel)]; exact ⟨rfl, rfl⟩))
    (fun os started H enc _ => lifted os started H enc)

/-- ████ THE STATEMENT ████ -/
theorem proved : Rows.LawS4015BIndexSaid := over
end Go.Proofs.Ybulkcecy.lawS4015BIndex
