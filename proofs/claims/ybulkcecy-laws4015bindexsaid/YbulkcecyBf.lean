import Derived.Test.YbulkcecyBa
namespace Go.Proofs.Ybulkcecy
open Go.ChangeShapes Go.WideShapes Go.ChangeAt Go.RowKit Go.WideMaps Go.Maps
set_option linter.unusedVariables false

set_option maxHeartbeats 3200000 in
set_option maxRecDepth 100000 in
theorem walkFew (a0 : Option Addr) (n cap0 : Nat) (S : Nat → ByteArray) (w : World) (w0 : IsStr w a0 n S) (hn : n ≤ 8) :
    Calls Yba.prog 4 #[.slice a0 n cap0] w fun e w' => e = .returned (.bool true) ∧ Below w.heap.size w w' := by
  have h' : (n : Int) ≤ 1024 := by omega
  have h8' : (n : Int) ≤ 8 := by omega
  have hnil := fun w => run_eql_map_nil (P := Yba.prog) w 48 9 3 none Yba.underlying48
  obtain ⟨i0, hi0, hz0, hz1, hz2⟩ := info_parts info47
  go_enter Yba.func4, Yba.ntmps4
  go_wp2_with (at_make; refine wpList_make_full _ rfl (.tmp 19) (.tmp 19) 45 rfl w.heap.size 47 i0 _ 5 Yba.underlying45 hi0 hz0 hz1 .i64 .i64 _ _ n rfl rfl rfl rfl (by rw [hz2]; omega) (by unfold maxLen; omega) (Nat.le_refl _) ?_; intro wa hoa hga)
  have hF0 := finv_start (S := S) hga hoa
  clear hoa hga
  go_loopw [23] (fun i wr => ∃ k : Nat, k ≤ n ∧ i = .int .i64 k ∧ FInv w n S k wr) (fun i _ => n - (intOf i).toNat)
  case atStart => exact ⟨0, by omega, rfl, hF0⟩
  case round =>
    obtain ⟨k, hk, rfl, hI⟩ := hrel
    by_cases hlt : k < n
    · rcases w0 with h0 | ⟨b, off, rfl, hc⟩
      · omega
      have hkI : (k : Int) < (n : Int) := by omega
      have hcell := (hc k hlt).1
      have hcw : wr.cell? ⟨b, off + k, none⟩ = some (.string (S k)) := (hI.bl.cell (World.block_lt_of_cell? _ _ hcell)).trans hcell
      have c0 : wr.cell? ⟨w.heap.size, k * 5, none⟩ = some (.string ⟨#[]⟩) := by rw [hI.m0 k hlt, if_neg (by omega)]
      have c1 := hI.m1 k hlt
      have c2 := hI.m2 k hlt
      have c3 := hI.m3 k hlt
      have c4 := hI.m4 k hlt
      have f0 := hI.fr (k * 5)
      have f1 := hI.fr (k * 5 + 1)
      have f2 := hI.fr (k * 5 + 2)
      have f3 := hI.fr (k * 5 + 3)
      have f4 := hI.fr (k * 5 + 4)
      have HC : Hid (∀ j, j < n → w.cell? ⟨b, off + j, none⟩ = some (.string (S j)) ∧ (S j).size ≤ maxLen) := hc
      clear hc hcell
      go_wp2
      go_roundw
      case rel => exact ⟨k + 1, by omega, by go_num, hI.next hlt⟩
      case measure => simp [intOf]; omega
    · have hkn : n = k := by omega
      subst hkn
      have hM := hI.mem
      go_wp2_with (go_at_call 7; refine (idx_few w.heap.size n n _ (by omega)).mono ?_; rintro e wb ⟨rfl, hb⟩)
      have hMb := hM.below hb
      have hsb : w.heap.size < wb.heap.size := Nat.lt_of_lt_of_le hI.sz hb.size
      have hneq := neq52
      have HW0 : Hid (IsStr w a0 n S) := w0
      have hbl2 : Below w.heap.size w (wb.alloc (Obj.cells #[.slice (some ⟨w.heap.size, 0, none⟩) n n, .map none] 50)) := (hI.bl.trans (hb.mono (Nat.le_of_lt hI.sz))).alloc (Nat.le_of_lt hsb) _
      generalize hwx : wb.alloc (Obj.cells #[.slice (some ⟨w.heap.size, 0, none⟩) n n, .map none] 50) = wx at hbl2
      have HBL : Hid (Below w.heap.size w wx) := hbl2
      have HM : Hid (Mem w.heap.size n S wx) := by subst hwx; exact hMb.below ((Below.refl _ _).alloc (Nat.le_refl _) _)
      have hx0 : wx.cell? ⟨wb.heap.size, 0, none⟩ = some (.slice (some ⟨w.heap.size, 0, none⟩) n n) := by subst hwx; simp [go_sem]
      have hx1 : wx.cell? ⟨wb.heap.size, 1, none⟩ = some (.map none) := by subst hwx; simp [go_sem]
      clear hwx hbl2 hMb hsb hM hb hI w0 hF0
      by_cases hn0 : n = 0
      · subst hn0
        go_quiet (fail)
        go_wp2
        go_loopw [55] (fun i wz => i = .int .i64 0 ∧ ∃ q, wz = wx.drewN q) (fun _ _ => 0)
        case atStart => exact ⟨rfl, _, rfl⟩
        case round =>
          obtain ⟨rfl, q, rfl⟩ := hrel
          go_wp2
          go_ret
          exact ⟨rfl, below_drewN HBL.out _⟩
      · have hnp : 0 < n := by omega
        have hnpI : (0 : Int) < (n : Int) := by omega
        go_quiet (fail)
        go_wp2_with fail
        go_loopw [55] (fun i wz => ∃ j q : Nat, j ≤ n ∧ i = .int .i64 j ∧ wz = wx.drewN q) (fun i _ => n - (intOf i).toNat)
        case atStart => exact ⟨0, _, by omega, rfl, rfl⟩
        case round =>
          obtain ⟨j, q, hj, rfl, rfl⟩ := hrel
          by_cases hjl : j < n
          · obtain ⟨b, off, ha0, hc⟩ : ∃ b off, a0 = some ⟨b, off, none⟩ ∧ ∀ j, j < n → w.cell? ⟨b, off + j, none⟩ = some (.string (S j)) ∧ (S j).size ≤ maxLen := HW0.out.resolve_left hn0
            subst ha0
            have hjI : (j : Int) < (n : Int) := by omega
            have k0 := (hc j hjl).1
            have k1 : wx.cell? ⟨b, off + j, none⟩ = some (.string (S j)) := (HBL.out.cell (World.block_lt_of_cell? _ _ k0)).trans k0
            have k2 := HM.out.m0 j hjl
            clear k0 hc
            go_wp2_with fail
            go_quiet (fail)
            go_wp2
            go_roundw
            case rel => exact ⟨j + 1, _, by omega, by go_num, rfl⟩
            case measure => simp [intOf]; omega
          · have hjn : j = n := by omega
            subst hjn
            go_wp2
            go_ret
            exact ⟨rfl, below_drewN HBL.out _⟩
end Go.Proofs.Ybulkcecy
