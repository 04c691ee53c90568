import Derived.Test.YbulkcecyBa
namespace Go.Proofs.Ybulkcecy
open Go.ChangeShapes Go.WideShapes Go.ChangeAt Go.RowKit Go.WideMaps Go.Maps
set_option linter.unusedVariables false

theorem same_str {a b : ByteArray} (h : a = b) : (a.toList == b.toList) = true := by subst h; simp
theorem diff_str {a b : ByteArray} (h : ¬ a = b) : (a.toList == b.toList) = false := by
  rw [beq_eq_false_iff_ne, ByteArray.toList_eq, ByteArray.toList_eq]
  intro e
  exact h (by cases a; cases b; simp only [ByteArray.mk.injEq]; exact Array.toList_inj.1 e)
theorem lst_hit {S : Nat → ByteArray} {k m : Nat} (h : S m = S k) : lst S k (m + 1) = m := by simp [lst, h]
theorem lst_miss {S : Nat → ByteArray} {k m : Nat} (h : ¬ S m = S k) : lst S k (m + 1) = lst S k m := by simp [lst, h]
theorem fst_hit {S : Nat → ByteArray} {k m : Nat} (h : S m = S k) (h2 : m < k) : fst S k (m + 1) = false := by simp [fst, h, h2]
theorem fst_late {S : Nat → ByteArray} {k m : Nat} (h2 : ¬ m < k) : fst S k (m + 1) = fst S k m := by simp [fst, h2]
theorem fst_miss {S : Nat → ByteArray} {k m : Nat} (h : ¬ S m = S k) : fst S k (m + 1) = fst S k m := by simp [fst, h]
theorem dst_new {S : Nat → ByteArray} {n k : Nat} (h : fst S k n = true) : dst S n (k + 1) = dst S n k + 1 := by simp [dst, h]
theorem dst_old {S : Nat → ByteArray} {n k : Nat} (h : fst S k n = false) : dst S n (k + 1) = dst S n k := by simp [dst, h]

theorem look_at {wx : World} {B n : Nat} {S : Nat → ByteArray} (hown : wx.ownsMap Yba.prog 9 (plainElem (H := Unit) Yba.prog 3) B n (C S n)) (i : Nat) (hi : i < n) (hS : (S i).size ≤ maxLen) (q : Nat) :
    (Instr.lookup 48 (.map (some B)) (.string (S i)) true).run Yba.prog (wx.drewN q) = .ok (.tuple #[.int .i64 (lst S i n), .bool true]) (wx.drewN q) := by
  have hq : (wx.drewN q).ownsMap Yba.prog 9 (plainElem (H := Unit) Yba.prog 3) B n (C S n) := hown
  have hkey : keyOf Yba.prog 9 (.string (S i)) = some (key (S i)) := keyOf_string_mk Yba.underlying9 hS
  obtain ⟨v, ps, hrun, hv⟩ := hq.look_ok law Yba.underlying48 (zero3 _) (plainElem_int Yba.underlying3 (a := 0) (by decide)) hkey
  obtain ⟨h1, h2⟩ := C_at S i n ⟨i, hi, rfl⟩ (.lit (.int .i64 0))
  rw [h1] at hv
  rw [h2] at hrun
  obtain ⟨c, rfl, hc, _⟩ := plainElem_int_inv Yba.underlying3 hv
  have hc' : (lst S i n : Int) = c := by
    have := congrArg Prod.fst hc
    simpa using this
  rw [hc']
  exact hrun

theorem len_at {wx : World} {B n : Nat} {S : Nat → ByteArray} (hown : wx.ownsMap Yba.prog 9 (plainElem (H := Unit) Yba.prog 3) B n (C S n)) (ty : TypeId) (q : Nat) :
    (Builtin.len_ #[48] ty #[.map (some B)]).run Yba.prog (wx.drewN q) = .ok (.int .i64 (dst S n n)) (wx.drewN q) := by
  have hq : (wx.drewN q).ownsMap Yba.prog 9 (plainElem (H := Unit) Yba.prog 3) B n (C S n) := hown
  rw [hq.len Yba.underlying48 ty, C_size S n n (Nat.le_refl _)]

set_option maxHeartbeats 3200000 in
set_option maxRecDepth 100000 in
theorem walkMany (a0 : Option Addr) (n cap0 : Nat) (S : Nat → ByteArray) (w : World) (w0 : IsStr w a0 n S) (hn : n ≤ 1024) (h8 : 8 < n) :
    Calls Yba.prog 4 #[.slice a0 n cap0] w fun e w' => e = .returned (.bool true) ∧ Below w.heap.size w w' := by
  have h' : (n : Int) ≤ 1024 := by omega
  have h8' : (8 : Int) < (n : Int) := by omega
  have hnil := fun w B => run_eql_map_nil (P := Yba.prog) w 48 9 3 (some B) Yba.underlying48
  have hS : ∀ j, j < n → (S j).size ≤ maxLen := by
    intro j hj
    obtain ⟨b, off, _, hc⟩ := w0.resolve_left (by omega)
    exact (hc j hj).2
  have HS : Hid (∀ j, j < n → (S j).size ≤ maxLen) := hS
  clear hS
  obtain ⟨i0, hi0, hz0, hz1, hz2⟩ := info_parts info47
  go_enter Yba.func4, Yba.ntmps4
  go_wp2_with (at_make; refine wpList_make_full _ rfl (.tmp 19) (.tmp 19) 45 rfl w.heap.size 47 i0 _ 5 Yba.underlying45 hi0 hz0 hz1 .i64 .i64 _ _ n rfl rfl rfl rfl (by rw [hz2]; omega) (by unfold maxLen; omega) (Nat.le_refl _) ?_; intro wa hoa hga)
  have hF0 := finv_start (S := S) hga hoa
  clear hoa hga
  go_loopw [23] (fun i wr => ∃ k : Nat, k ≤ n ∧ i = .int .i64 k ∧ FInv w n S k wr) (fun i _ => n - (intOf i).toNat)
  case atStart => exact ⟨0, by omega, rfl, hF0⟩
  case round =>
    obtain ⟨k, hk, rfl, hI⟩ := hrel
    by_cases hlt : k < n
    · rcases w0 with h0 | ⟨b, off, rfl, hc⟩
      · omega
      have hkI : (k : Int) < (n : Int) := by omega
      have hcell := (hc k hlt).1
      have hcw : wr.cell? ⟨b, off + k, none⟩ = some (.string (S k)) := (hI.bl.cell (World.block_lt_of_cell? _ _ hcell)).trans hcell
      have c0 : wr.cell? ⟨w.heap.size, k * 5, none⟩ = some (.string ⟨#[]⟩) := by rw [hI.m0 k hlt, if_neg (by omega)]
      have c1 := hI.m1 k hlt
      have c2 := hI.m2 k hlt
      have c3 := hI.m3 k hlt
      have c4 := hI.m4 k hlt
      have f0 := hI.fr (k * 5)
      have f1 := hI.fr (k * 5 + 1)
      have f2 := hI.fr (k * 5 + 2)
      have f3 := hI.fr (k * 5 + 3)
      have f4 := hI.fr (k * 5 + 4)
      have HC : Hid (∀ j, j < n → w.cell? ⟨b, off + j, none⟩ = some (.string (S j)) ∧ (S j).size ≤ maxLen) := hc
      clear hc hcell
      go_wp2
      go_roundw
      case rel => exact ⟨k + 1, by omega, by go_num, hI.next hlt⟩
      case measure => simp [intOf]; omega
    · have hkn : n = k := by omega
      subst hkn
      have hM := hI.mem
      go_wp2_with (go_at_call 7; refine (idx_many w.heap.size n n S _ h8 hn hM HS.out).mono ?_; rintro e wb ⟨B, rfl, hB, hown, hb⟩)
      have hMb := hM.below hb
      have hsb : w.heap.size < wb.heap.size := Nat.lt_of_lt_of_le hI.sz hb.size
      have hneq := neq52
      have HW0 : Hid (IsStr w a0 n S) := w0
      have hbl2 : Below w.heap.size w (wb.alloc (Obj.cells #[.slice (some ⟨w.heap.size, 0, none⟩) n n, .map (some B)] 50)) := (hI.bl.trans (hb.mono (Nat.le_of_lt hI.sz))).alloc (Nat.le_of_lt hsb) _
      have hown2 := hown.alloc (Obj.cells #[.slice (some ⟨w.heap.size, 0, none⟩) n n, .map (some B)] 50)
      generalize hwx : wb.alloc (Obj.cells #[.slice (some ⟨w.heap.size, 0, none⟩) n n, .map (some B)] 50) = wx at hbl2 hown2
      have HOWN : Hid (wx.ownsMap Yba.prog 9 (plainElem (H := Unit) Yba.prog 3) B n (C S n)) := hown2
      have HBL : Hid (Below w.heap.size w wx) := hbl2
      have HM : Hid (Mem w.heap.size n S wx) := by subst hwx; exact hMb.below ((Below.refl _ _).alloc (Nat.le_refl _) _)
      have hx0 : wx.cell? ⟨wb.heap.size, 0, none⟩ = some (.slice (some ⟨w.heap.size, 0, none⟩) n n) := by subst hwx; simp [go_sem]
      have hx1 : wx.cell? ⟨wb.heap.size, 1, none⟩ = some (.map (some B)) := by subst hwx; simp [go_sem]
      clear hwx hbl2 hMb hsb hM hb hI w0 hF0 hown hown2 hB
      have hn0 : ¬ n = 0 := by omega
      have hnp : 0 < n := by omega
      have hnpI : (0 : Int) < (n : Int) := by omega
      have HC : Hid (∃ b off, a0 = some ⟨b, off, none⟩ ∧ ∀ j, j < n → wx.cell? ⟨b, off + j, none⟩ = some (.string (S j))) := by
        obtain ⟨b, off, ha0, hc⟩ := HW0.out.resolve_left hn0
        exact ⟨b, off, ha0, fun j hj => (HBL.out.cell (World.block_lt_of_cell? _ _ (hc j hj).1)).trans (hc j hj).1⟩
      obtain ⟨b, off, ha0, hc⟩ := HC.out
      subst ha0
      have HCC : Hid (∀ j, j < n → wx.cell? ⟨b, off + j, none⟩ = some (.string (S j))) := hc
      clear HC hc
      go_quiet (fail)
      go_wp2_with fail
      go_loopw [55] (fun i wz => ∃ j q : Nat, j ≤ n ∧ i = .int .i64 j ∧ wz = wx.drewN q) (fun i _ => n - (intOf i).toNat)
      case atStart => exact ⟨0, _, by omega, rfl, rfl⟩
      case round =>
        obtain ⟨j, q, hj, rfl, rfl⟩ := hrel
        by_cases hjl : j < n
        · have hjI : (j : Int) < (n : Int) := by omega
          have k1 := HCC.out j hjl
          have k2 := HM.out.m0 j hjl
          go_wp2_with fail
          go_quiet (fail)
          go_wp2
          go_roundw
          case rel => exact ⟨j + 1, _, by omega, by go_num, rfl⟩
          case measure => simp [intOf]; omega
        · have hjn : n = j := by omega
          subst hjn
          go_wp2_with fail
          go_loopw [8, 93] (fun d i wz => ∃ k q : Nat, k ≤ n ∧ i = .int .i64 k ∧ d = .int .i64 (dst S n k) ∧ wz = wx.drewN q) (fun _ i _ => n - (intOf i).toNat)
          case atStart => exact ⟨0, _, by omega, rfl, rfl, rfl⟩
          case round =>
            obtain ⟨k, q, hk, rfl, rfl, rfl⟩ := hrel
            by_cases hkl : k < n
            · have hkI : (k : Int) < (n : Int) := by omega
              have k1 := HCC.out k hkl
              have hlk := look_at HOWN.out k hkl (HS.out k hkl)
              go_wp2_with fail
              go_loopw [10, 11, 12] (fun l f i wz => ∃ m q : Nat, m ≤ n ∧ i = .int .i64 m ∧ l = .int .i64 (lst S k m) ∧ f = .bool (fst S k m) ∧ wz = wx.drewN q) (fun _ _ i _ => n - (intOf i).toNat)
              case atStart => exact ⟨0, _, by omega, rfl, rfl, rfl, rfl⟩
              case round =>
                obtain ⟨m, q, hm, rfl, rfl, rfl, rfl⟩ := hrel
                by_cases hml : m < n
                · have hmI : (m : Int) < (n : Int) := by omega
                  have k3 := HCC.out m hml
                  by_cases hse : S m = S k
                  · have hst := same_str hse
                    have HE : Hid (S m = S k) := hse
                    clear hse
                    by_cases hmk : m < k
                    · have hmkI : (m : Int) < (k : Int) := by omega
                      go_wp2_with fail
                      go_quiet (fail)
                      go_wp2
                      go_roundw
                      case rel => exact ⟨m + 1, _, by omega, by go_num, by rw [lst_hit HE.out], by rw [fst_hit HE.out hmk], rfl⟩
                      case measure => simp [intOf]; omega
                    · have hmkI : (k : Int) ≤ (m : Int) := by omega
                      go_wp2_with fail
                      go_quiet (fail)
                      go_wp2
                      go_roundw
                      case rel => exact ⟨m + 1, _, by omega, by go_num, by rw [lst_hit HE.out], by rw [fst_late hmk], rfl⟩
                      case measure => simp [intOf]; omega
                  · have hst := diff_str hse
                    have HE : Hid (¬ S m = S k) := hse
                    clear hse
                    go_wp2_with fail
                    go_quiet (fail)
                    go_wp2
                    go_roundw
                    case rel => exact ⟨m + 1, _, by omega, by go_num, by rw [lst_miss HE.out], by rw [fst_miss HE.out], rfl⟩
                    case measure => simp [intOf]; omega
                · have hmn : n = m := by omega
                  subst hmn
                  have hll := lst_le S k n n hkl (Nat.le_refl _)
                  have hdl := dst_le S n k
                  have hdI : (dst S n k : Int) + 1 ≤ 1024 := by omega
                  have hne : ((lst S k n : Int) != (lst S k n : Int)) = false := by simp
                  cases hf : fst S k n with
                  | true =>
                    go_wp2_with fail
                    go_quiet (fail)
                    go_wp2
                    go_roundw
                    case rel => exact ⟨k + 1, _, by omega, by go_num, by rw [dst_new hf]; go_num, rfl⟩
                    case measure => simp [intOf]; omega
                  | false =>
                    go_wp2_with fail
                    go_quiet (fail)
                    go_wp2
                    go_roundw
                    case rel => exact ⟨k + 1, _, by omega, by go_num, by rw [dst_old hf], rfl⟩
                    case measure => simp [intOf]; omega
            · have hkn2 : n = k := by omega
              subst hkn2
              have hlen := len_at HOWN.out
              go_wp2
              go_ret
              exact ⟨rfl, below_drewN HBL.out _⟩
end Go.Proofs.Ybulkcecy
