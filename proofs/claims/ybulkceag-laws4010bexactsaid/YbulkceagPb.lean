import Derived.Test.YbulkceagPa
import Derived.Test.YbulkceagPl
import Derived.Deep.LoopGhost
namespace Go.Proofs.Ybulkceag
open Go.ChangeShapes Go.WideShapes Go.ChangeAt Go.RowKit
set_option linter.unusedVariables false

theorem ret_bool {a b : Bool} (h : a = b) : Ending.returned (.bool a) = .returned (.bool b) := by rw [h]

theorem fld (k : Int) (x : ByteArray) (l c : Int) (w : World) : (Instr.field 32 (.agg #[.int .i64 k, .string x, .int .i64 l, .int .i64 c]) 0).run Yba.prog w = .ok (.int .i64 k) w := by kernel_rfl

set_option maxHeartbeats 800000 in
theorem blank11 (pb g N cap : Nat) (K : Nat → Int) (X : Nat → ByteArray) (L C : Nat → Int) (i : Nat) (w : World) (hi : i < N) (hN : N ≤ 5000) (hE : K (N - 1) = 0) (hp : Par pb g N cap K X L C i w) :
    Calls Yba.prog 11 #[.pointer (some ⟨pb, 0, none⟩)] w fun e w' => e = .returned (.tuple #[]) ∧ Par pb g N cap K X L C (nbl K (N - i) i) w' ∧ w.grownBy w' (some pb) := by
  have HE : Hid (K (N - 1) = 0) := hE
  clear hE
  have f0 := fld
  go_enter Yba.func11, Yba.ntmps11
  go_wp2_with fail
  go_loopg [] (N - i) (fun k wr => ∃ j : Nat, k = N - j ∧ j < N ∧ Par pb g N cap K X L C j wr ∧ Hid (nbl K (N - j) j = nbl K (N - i) i) ∧ w.grownBy wr (some pb))
  case atStart => exact ⟨i, rfl, hi, hp, rfl, grow_refl _ _⟩
  case round =>
    obtain ⟨j, hk, hj, hpj, hnb, hgr⟩ := hrel
    by_cases h1 : K j = 1
    · have HK : Hid (gk = N - j) := hk
      clear hk
      have hj1 : j + 1 < N := by
        by_cases h : j = N - 1
        · exfalso; rw [h, HE.out] at h1; omega
        · omega
      go_wp2_with (first | (go_at_call 7; refine (tok7 pb g N cap K X L C j _ hj hN hpj).mono ?_; rintro e w' ⟨rfl, hb⟩; have hp' := hpj.below hb) | (go_at_call 10; refine (next10 pb g N cap K X L C j _ hj1 hN hp').mono ?_; rintro e w'' ⟨rfl, hp2, hg2⟩))
      go_roundg (N - (j + 1))
      case measure => have := HK.out; omega
      case rel => exact ⟨j + 1, rfl, hj1, hp2, (nbl_step hj h1).symm.trans hnb.out, grow_trans hgr (grow_trans (grow_below hb _) hg2)⟩
    · have HK : Hid (gk = N - j) := hk
      clear hk
      go_wp2_with (first | (go_at_call 7; refine (tok7 pb g N cap K X L C j _ hj hN hpj).mono ?_; rintro e w' ⟨rfl, hb⟩; have hp' := hpj.below hb))
      go_end0
      exact ⟨rfl, by rw [← hnb.out, nbl_stop h1]; exact hp', grow_trans hgr (grow_below hb _)⟩

set_option maxHeartbeats 800000 in
theorem atStruct8 (pb g N cap : Nat) (K : Nat → Int) (X : Nat → ByteArray) (L C : Nat → Int) (i : Nat) (w : World) (hi : i + 1 < N) (hN : N ≤ 5000) (hp : Par pb g N cap K X L C i w) :
    Calls Yba.prog 8 #[.pointer (some ⟨pb, 0, none⟩)] w fun e w' => e = .returned (.bool (structB K X i)) ∧ Below w.heap.size w w' := by
  have f0 := fld
  go_enter Yba.func8, Yba.ntmps8
  go_wp2_with (first | (go_at_call 7; refine (tok7 pb g N cap K X L C i _ (by omega) hN (by exact hp)).mono ?_; rintro e w' ⟨rfl, hb⟩; have hp' := hp.below hb) | (go_at_call 12; refine (peek12 pb g N cap K X L C i _ hi hN (by exact hp'.below ((Below.refl _ _).alloc (Nat.le_refl _) _))).mono ?_; rintro e w'' ⟨rfl, hb'⟩))
  · go_ret
    exact ⟨ret_bool (by simp [structB, *]), (hb.alloc hb.size _).trans (hb'.mono (by have := hb.size; simp; omega))⟩
  · go_ret
    exact ⟨ret_bool (by simp [structB, *]), hb.alloc hb.size _⟩
  · go_ret
    exact ⟨ret_bool (by simp [structB, *]), hb.alloc hb.size _⟩

theorem brace_last {K : Nat → Int} {i j e : Nat} {lv : Int} (he : e = j) (hl : lv = if j = i then 1 else K (j - 1)) (hij : i ≤ j) : (lv == 4) = braceB K i e := by
  subst he
  subst hl
  unfold braceB
  by_cases h : e = i
  · simp [h]
  · have : i < e := by omega
    rw [if_neg h, Bool.eq_iff_iff]; simp [this]

set_option maxHeartbeats 800000 in
theorem brace9 (pb g N cap : Nat) (K : Nat → Int) (X : Nat → ByteArray) (L C : Nat → Int) (i : Nat) (w : World) (hi : i < N) (hN : N ≤ 5000) (hE : K (N - 1) = 0) (hp : Par pb g N cap K X L C i w) :
    Calls Yba.prog 9 #[.pointer (some ⟨pb, 0, none⟩)] w fun e w' => e = .returned (.bool (braceB K i (eol K (N - i) i))) ∧ w' = w := by
  have HE : Hid (K (N - 1) = 0) := hE
  clear hE
  have h1 := hp.toks
  have h2 := hp.cur
  go_enter Yba.func9, Yba.ntmps9
  go_wp2
  go_loop [3, 4] (fun l t => ∃ (j : Nat) (lv : Int), i ≤ j ∧ j < N ∧ t = .int .i64 j ∧ l = .int .i64 lv ∧ Hid (lv = if j = i then 1 else K (j - 1)) ∧ Hid (eol K (N - j) j = eol K (N - i) i)) (fun _ t => N - (intOf t).toNat)
  case atStart => exact ⟨i, 1, Nat.le_refl _, hi, rfl, rfl, (if_pos rfl).symm, rfl⟩
  case round =>
    obtain ⟨j, lv, hij, hj, rfl, rfl, hlv, he⟩ := hrel
    have hjI : (j : Int) < (N : Int) := by omega
    have c0 := hp.kind j hj
    by_cases hn : K j = 1 ∨ K j = 0
    · have e := eol_stop (f := N - j) hn
      have e2 : Hid (eol K (N - i) i = j) := he.out.symm.trans e
      clear e he
      rcases hn with hn | hn
      all_goals
        go_wp2
        go_ret
        refine ⟨ret_bool ?_, rfl⟩
        exact brace_last e2.out hlv.out hij
    · have n1 : K j ≠ 1 := fun h => hn (.inl h)
      have n0 : K j ≠ 0 := fun h => hn (.inr h)
      have hj1 : j + 1 < N := by
        by_cases h : j = N - 1
        · exfalso; rw [h] at n0; exact n0 HE.out
        · omega
      have b1 : (K j != 1) = true := by simpa using n1
      have b0 : (K j != 0) = true := by simpa using n0
      go_wp2
      go_round
      case rel => exact ⟨j + 1, K j, by omega, hj1, by go_num, rfl, by rw [if_neg (by omega), Nat.add_sub_cancel]; exact rfl, (eol_step hj n1 n0).symm.trans he.out⟩
      case measure => simp [intOf]; omega
end Go.Proofs.Ybulkceag
