import Derived.Test.YbulkceagPv
namespace Go.Proofs.Ybulkceag
open Go.ChangeShapes Go.WideShapes Go.ChangeAt Go.RowKit
set_option linter.unusedVariables false

/-- what the walk is told of the bytes that came in -/
def IsRow (k : IntKind) (w : World) (a : Option Addr) (len cap : Nat) (zs : List Int) : Prop :=
  (a = none ∧ len = 0 ∧ cap = 0 ∧ zs = []) ∨
  ∃ x, a = some x ∧ len ≤ cap ∧ cap ≤ maxLen ∧ zs.length = cap ∧ (∀ i, i < zs.length → w.cell? (x.add i) = some (.int k (zs.getD i 0))) ∧ ∀ n ∈ zs, (Lit.int k n).wf = true

theorem IsRow.get {k : IntKind} {w : World} {a : Option Addr} {len cap : Nat} {zs : List Int} (h : IsRow k w a len cap zs) (i : Nat) (hi : i < len) :
    ∃ b off n, a = some ⟨b, off, none⟩ ∧ len ≤ maxLen ∧ w.cell? ⟨b, off + i, none⟩ = some (.int k n) ∧ (Lit.int k n).wf = true ∧ Hid (zs.getD i 0 = n) := by
  rcases h with ⟨_, h, _⟩ | ⟨x, rfl, h1, h2, h3, h4, h5⟩
  · omega
  · obtain ⟨b, off, rfl, hc⟩ := ints_at h4 (by omega)
    refine ⟨b, off, zs.getD i 0, rfl, by omega, hc i (by omega), ?_, rfl⟩
    refine h5 _ ?_
    have : zs.getD i 0 = zs[i]'(by omega) := by simp [List.getD, List.getElem?_eq_getElem (show i < zs.length by omega)]
    rw [this]
    exact List.getElem_mem _

set_option maxHeartbeats 800000 in
theorem longL (a0 : Option Addr) (len0 cap0 : Nat) (w : World) (h : 1024 < len0) :
    Calls Yba.prog 4 #[.slice a0 len0 cap0] w fun e w' => e = .returned (.bool true) ∧ Below w.heap.size w w' := by
  have h' : (1024 : Int) < (len0 : Int) := by omega
  go_enter Yba.func4, Yba.ntmps4
  go_wp2
  go_ret
  exact ⟨rfl, Below.refl _ _⟩

theorem blk2 (w : World) (a b : Addr) (u v : Value) (o : Obj) : (((w.setCell a u).setCell b v).alloc o).heap[w.heap.size]? = some o := by
  have := heap_alloc_new ((w.setCell a u).setCell b v) o
  rwa [World.size_setCell, World.size_setCell] at this

theorem linv_next {w : World} {B1 B2 n k q : Nat} {zs : List Int} {x c : Int} {v : Value} {l : List (Int × ByteArray)} {w2 : World}
    (h : LInv w B1 B2 n ((upto (fun i => ((T zs i).length : Int)) n k).set k (.int .i64 ((T zs k).length : Nat))) ((upto (cod zs) n k).set k (.int .i64 c)) v q (cellsT l) w2)
    (hk : k < n) (hx : cod zs k = x % 6) (hc : x % 6 = c) (hl : l = T zs k ++ ln c) : LInv w B1 B2 n (upto (fun i => ((T zs i).length : Int)) n (k + 1)) (upto (cod zs) n (k + 1)) v (T zs (k + 1)).length (cellsT (T zs (k + 1))) w2 := by
  have hq := h.len
  have e1 := upto_set (fun i => ((T zs i).length : Int)) n k hk
  have e2 := upto_set (cod zs) n k hk
  rw [hx, hc] at e2
  have e3 : l = T zs (k + 1) := by rw [hl, T, hx, hc]
  rw [e1, e2, hq, e3] at h
  exact h

theorem linv_start {w wa wb : World} {n : Nat} (hoa : wa.ownsRow w.heap.size 3 1 (.slice (some ⟨w.heap.size, 0, none⟩) n n) n (madeCells (Value.int .i64 0).cells (n * 1)).toList) (hga : w.grownBy wa none)
    (hob : wb.ownsRow w.heap.size 3 1 (.slice (some ⟨wa.heap.size, 0, none⟩) n n) n (madeCells (Value.int .i64 0).cells (n * 1)).toList) (hgb : wa.grownBy wb none) (f g : Nat → Int) :
    LInv w wa.heap.size wb.heap.size n (upto f n 0) (upto g n 0) (.slice none 0 0) 0 [] wb := by
  have e : (madeCells (Value.int .i64 0).cells (n * 1)).toList = List.replicate n (Value.int .i64 0) := by rw [Nat.mul_one]; exact toList_madeCells_one _ _
  rw [e] at hoa hob
  have a1 := (hoa.lt _ rfl).2
  have a2 := (hob.lt _ rfl).2
  dsimp only at a1 a2
  refine ⟨?_, ?_, World.ownsRow_nil _ _ _ _, a1, a2, Nat.le_refl _, ?_⟩
  · rw [upto_zero]; exact hoa.kept hgb (.inr (by simp [Value.ownBlock]))
  · rw [upto_zero]; exact hob
  · exact ((Below.refl _ _).grown hga (Nat.le_refl _) (fun k hk => by cases hk)).grown hgb (by omega) (fun k hk => by cases hk)

theorem cod_b (zs : List Int) (j : Nat) : 0 ≤ cod zs j ∧ cod zs j < 6 := by unfold cod; omega

theorem tail_below {w we wf : World} {B1 B2 n : Nat} {S Cd : List Value} {v : Value} {m : Nat} {xs : List Value} {o : Obj} (h : LInv w B1 B2 n S Cd v m xs we) (hg : (we.alloc o).grownBy wf (some we.heap.size)) : Below w.heap.size w wf := by
  have h1 := h.sz; have h2 := h.h1; have h3 := h.h2
  refine (h.bl.alloc (by omega) o).grown hg (by simp; omega) ?_
  intro k hk
  cases hk
  omega

set_option maxHeartbeats 6400000 in
set_option maxRecDepth 100000 in
theorem walkL (a0 : Option Addr) (n cap0 : Nat) (zs : List Int) (w : World) (w0 : IsRow .u8 w a0 n cap0 zs) (hn : n ≤ 1024) :
    Calls Yba.prog 4 #[.slice a0 n cap0] w fun e w' => e = .returned (.bool true) ∧ Below w.heap.size w w' := by
  have h' : (n : Int) ≤ 1024 := by omega
  obtain ⟨i0, hi0, hz0, hz1, hz2⟩ := info_parts info3
  go_enter Yba.func4, Yba.ntmps4
  go_wp2_with (first | (at_make; refine wpList_make_full _ rfl (.tmp 19) (.tmp 19) 42 rfl w.heap.size 3 i0 (.int .i64 0) 1 Yba.underlying42 hi0 hz0 hz1 .i64 .i64 _ _ n rfl rfl rfl rfl (by rw [hz2]; omega) (by unfold maxLen; omega) (Nat.le_refl _) ?_; intro wa hoa hga) | (at_make; refine wpList_make_full _ rfl (.tmp 22) (.tmp 22) 42 rfl w.heap.size 3 i0 (.int .i64 0) 1 Yba.underlying42 hi0 hz0 hz1 .i64 .i64 _ _ n rfl rfl rfl rfl (by rw [hz2]; omega) (by unfold maxLen; omega) (by exact hga.size) ?_; intro wb hob hgb))
  have hI0 := linv_start hoa hga hob hgb (fun i => ((T zs i).length : Int)) (cod zs)
  obtain ⟨B1, hB1⟩ : ∃ B1, wa.heap.size = B1 := ⟨_, rfl⟩
  obtain ⟨B2, hB2⟩ : ∃ B2, wb.heap.size = B2 := ⟨_, rfl⟩
  rw [hB1, hB2] at hI0
  rw [hB1]
  clear hoa hga hob hgb hB1 hB2
  go_loopw [3, 6] (fun v i wr => ∃ k : Nat, k ≤ n ∧ i = .int .i64 k ∧ LInv w B1 B2 n (upto (fun i => ((T zs i).length : Int)) n k) (upto (cod zs) n k) v (T zs k).length (cellsT (T zs k)) wr) (fun _ i _ => n - (intOf i).toNat)
  case atStart => exact ⟨0, by omega, rfl, hI0⟩
  case round =>
    obtain ⟨k, hk, rfl, hI⟩ := hrel
    obtain ⟨ao, cp, rfl⟩ := own_slice hI.tk
    by_cases hlt : k < n
    · obtain ⟨b, off, x, rfl, _, hcell, hw, hx⟩ := w0.get k hlt
      have hb8 := bounds_u8 hw
      have hcw : wr.cell? ⟨b, off + k, none⟩ = some (.int .u8 x) := (hI.bl.cell (World.block_lt_of_cell? _ _ hcell)).trans hcell
      have hcod : Hid (cod zs k = x % 6) := by show zs.getD k 0 % 6 = x % 6; rw [hx.out]
      have k1 : wr.cell? ⟨B1, k, none⟩ = some (.int .i64 0) := by rw [hI.cd.cellAt k (by omega), upto_at _ _ _ _ hlt]; simp
      have q1 := hI.cd.frozenAt k
      have k2 : wr.cell? ⟨w.heap.size, k, none⟩ = some (.int .i64 0) := by rw [hI.st.cellAt k (by omega), upto_at _ _ _ _ hlt]; simp
      have q2 := hI.st.frozenAt k
      have hB := hI.h1
      have hTl := T_len zs k
      have hkI : (k : Int) < (n : Int) := by omega
      have hc6 : x % 6 = 0 ∨ x % 6 = 1 ∨ x % 6 = 2 ∨ x % 6 = 3 ∨ x % 6 = 4 ∨ x % 6 = 5 := by omega
      rcases hc6 with hc | hc | hc | hc | hc | hc
      · go_wp2_with (first | (at_builtin; refine wp_app rfl (.tmp 81) (.tmp 83) rfl w B1 B2 n _ _ _ _ (T zs k ++ [(2, ⟨#[120]⟩), (4, ⟨#[123]⟩)]) rfl (hI1.alloc _) w1.heap.size 1 [(1, ⟨#[]⟩)] rfl rfl (by rw [heap_alloc_new]; rfl) (by omega) ?_; intro v2 w2 hI2'; have hI2 := linv_next hI2' hlt hcod.out hc (by rw [List.append_assoc]; rfl); clear hI2' hI1) | (at_builtin; refine wp_app rfl (.tmp 48) (.tmp 51) rfl w B1 B2 n _ _ _ _ (T zs k) rfl (((hI.setCd k _).setSt k _).alloc _) wr.heap.size 2 [(2, ⟨#[120]⟩), (4, ⟨#[123]⟩)] rfl rfl (by rw [blk2]; rfl) (by omega) ?_; intro v1 w1 hI1))
        go_roundw
        case rel => exact ⟨k + 1, by omega, by go_num, hI2⟩
        case measure => simp [intOf]; omega
      · go_wp2_with (first | (at_builtin; refine wp_app rfl (.tmp 81) (.tmp 83) rfl w B1 B2 n _ _ _ _ (T zs k ++ [(5, ⟨#[125]⟩)]) rfl (hI1.alloc _) w1.heap.size 1 [(1, ⟨#[]⟩)] rfl rfl (by rw [heap_alloc_new]; rfl) (by omega) ?_; intro v2 w2 hI2'; have hI2 := linv_next hI2' hlt hcod.out hc (by rw [List.append_assoc]; rfl); clear hI2' hI1) | (at_builtin; refine wp_app rfl (.tmp 55) (.tmp 57) rfl w B1 B2 n _ _ _ _ (T zs k) rfl (((hI.setCd k _).setSt k _).alloc _) wr.heap.size 1 [(5, ⟨#[125]⟩)] rfl rfl (by rw [blk2]; rfl) (by omega) ?_; intro v1 w1 hI1))
        go_roundw
        case rel => exact ⟨k + 1, by omega, by go_num, hI2⟩
        case measure => simp [intOf]; omega
      · go_wp2_with (first | (at_builtin; refine wp_app rfl (.tmp 81) (.tmp 83) rfl w B1 B2 n _ _ _ _ (T zs k ++ [(2, ⟨#[120]⟩), (2, ⟨#[121]⟩)]) rfl (hI1.alloc _) w1.heap.size 1 [(1, ⟨#[]⟩)] rfl rfl (by rw [heap_alloc_new]; rfl) (by omega) ?_; intro v2 w2 hI2'; have hI2 := linv_next hI2' hlt hcod.out hc (by rw [List.append_assoc]; rfl); clear hI2' hI1) | (at_builtin; refine wp_app rfl (.tmp 61) (.tmp 64) rfl w B1 B2 n _ _ _ _ (T zs k) rfl (((hI.setCd k _).setSt k _).alloc _) wr.heap.size 2 [(2, ⟨#[120]⟩), (2, ⟨#[121]⟩)] rfl rfl (by rw [blk2]; rfl) (by omega) ?_; intro v1 w1 hI1))
        go_roundw
        case rel => exact ⟨k + 1, by omega, by go_num, hI2⟩
        case measure => simp [intOf]; omega
      · go_wp2_with (first | (at_builtin; refine wp_app rfl (.tmp 81) (.tmp 83) rfl w B1 B2 n _ _ _ _ (T zs k ++ [(2, ⟨#[115, 116, 114, 117, 99, 116]⟩), (2, ⟨#[83]⟩), (4, ⟨#[123]⟩)]) rfl (hI1.alloc _) w1.heap.size 1 [(1, ⟨#[]⟩)] rfl rfl (by rw [heap_alloc_new]; rfl) (by omega) ?_; intro v2 w2 hI2'; have hI2 := linv_next hI2' hlt hcod.out hc (by rw [List.append_assoc]; rfl); clear hI2' hI1) | (at_builtin; refine wp_app rfl (.tmp 68) (.tmp 72) rfl w B1 B2 n _ _ _ _ (T zs k) rfl (((hI.setCd k _).setSt k _).alloc _) wr.heap.size 3 [(2, ⟨#[115, 116, 114, 117, 99, 116]⟩), (2, ⟨#[83]⟩), (4, ⟨#[123]⟩)] rfl rfl (by rw [blk2]; rfl) (by omega) ?_; intro v1 w1 hI1))
        go_roundw
        case rel => exact ⟨k + 1, by omega, by go_num, hI2⟩
        case measure => simp [intOf]; omega
      · go_wp2_with (at_builtin; refine wp_app rfl (.tmp 81) (.tmp 83) rfl w B1 B2 n _ _ _ _ (T zs k) rfl (((hI.setCd k _).setSt k _).alloc _) wr.heap.size 1 [(1, ⟨#[]⟩)] rfl rfl (by rw [blk2]; rfl) (by omega) ?_; intro v2 w2 hI2'; have hI2 := linv_next hI2' hlt hcod.out hc rfl; clear hI2')
        go_roundw
        case rel => exact ⟨k + 1, by omega, by go_num, hI2⟩
        case measure => simp [intOf]; omega
      · go_wp2_with (first | (at_builtin; refine wp_app rfl (.tmp 81) (.tmp 83) rfl w B1 B2 n _ _ _ _ (T zs k ++ [(2, ⟨#[115, 116, 114, 117, 99, 116]⟩), (6, ⟨#[58]⟩)]) rfl (hI1.alloc _) w1.heap.size 1 [(1, ⟨#[]⟩)] rfl rfl (by rw [heap_alloc_new]; rfl) (by omega) ?_; intro v2 w2 hI2'; have hI2 := linv_next hI2' hlt hcod.out hc (by rw [List.append_assoc]; rfl); clear hI2' hI1) | (at_builtin; refine wp_app rfl (.tmp 76) (.tmp 79) rfl w B1 B2 n _ _ _ _ (T zs k) rfl (((hI.setCd k _).setSt k _).alloc _) wr.heap.size 2 [(2, ⟨#[115, 116, 114, 117, 99, 116]⟩), (6, ⟨#[58]⟩)] rfl rfl (by rw [blk2]; rfl) (by omega) ?_; intro v1 w1 hI1))
        go_roundw
        case rel => exact ⟨k + 1, by omega, by go_num, hI2⟩
        case measure => simp [intOf]; omega
    · have hkn : n = k := by omega
      subst hkn
      clear hk hlt
      have hTl := T_len zs n
      go_wp2_with (at_builtin; refine wp_app rfl (.tmp 87) (.tmp 89) rfl w B1 B2 n _ _ _ _ (T zs n) rfl (hI.alloc _) wr.heap.size 1 [(0, ⟨#[]⟩)] rfl rfl (by rw [heap_alloc_new]; rfl) (by omega) ?_; intro ve we hIe; obtain ⟨g, ce, hve⟩ := own_some hIe.tk; rw [hve] at hIe; rw [hve])
      have HI : Hid (LInv w B1 B2 n (upto (fun i => ((T zs i).length : Int)) n n) (upto (cod zs) n n) (.slice (some ⟨g, 0, none⟩) ((T zs n).length + 1) ce) ((T zs n).length + 1) (cellsT (TA zs n)) we) := hIe
      have HP := plainL zs n
      obtain ⟨R, hR⟩ : ∃ R, wn zs n n 0 0 false = R := ⟨_, rfl⟩
      rw [hR] at HP
      have HR : Hid (wn zs n n 0 0 false = R) := hR
      clear hIe hve hI hR hI0
      go_loop [9, 10, 11, 12] (fun t d s i => ∃ (j : Nat) (dv : Int) (sv : Bool), j ≤ n ∧ t = .int .i64 ((T zs n).length : Nat) ∧ d = .int .i64 dv ∧ s = .bool sv ∧ i = .int .i64 j ∧ 0 ≤ dv ∧ dv ≤ j ∧ Hid (wn zs n (n - j) j dv sv = R)) (fun _ _ _ i => n - (intOf i).toNat)
      case atStart => exact ⟨0, 0, false, by omega, rfl, rfl, rfl, rfl, by omega, by omega, HR.out⟩
      case round =>
        obtain ⟨j, dv, sv, hj, rfl, rfl, rfl, rfl, hd0, hdj, hw⟩ := hrel
        by_cases hjl : j < n
        · have hjI : (j : Int) < (n : Int) := by omega
          have k1 : we.cell? ⟨B1, j, none⟩ = some (.int .i64 (cod zs j)) := by rw [HI.out.cd.cellAt j (by omega), upto_at _ _ _ _ hjl, if_pos hjl]
          have k2 : we.cell? ⟨w.heap.size, j, none⟩ = some (.int .i64 ((T zs j).length : Nat)) := by rw [HI.out.st.cellAt j (by omega), upto_at _ _ _ _ hjl, if_pos hjl]
          by_cases c4 : cod zs j = 4
          · go_wp2
            go_round
            case rel => exact ⟨j + 1, dv, sv, by omega, rfl, rfl, rfl, by go_num, hd0, by omega, (wn_blank hjl c4).symm.trans hw.out⟩
            case measure => simp [intOf]; omega
          · have c4b : (cod zs j == 4) = false := by simpa using c4
            cases sv
            · by_cases c3 : cod zs j = 3
              · have hRj := hw.out
                rw [wn_stop hjl c4 (.inr c3)] at hRj
                subst hRj
                clear hw
                go_wp2_with (go_at_call 6; refine (skip6 we.heap.size g ((T zs n).length + 1) ce (KA zs n) (XA zs n) (fun _ => 0) (fun _ => 0) 0 _ (by omega) (by omega) (KA_last zs n) (par_of HI.out)).mono ?_; rintro e wf ⟨rfl, hpf, hgf⟩; have c1 := hpf.cur; have c2 := hpf.errs; have c3 := hpf.toks)
                go_ret
                exact ⟨rfl, tail_below HI.out hgf⟩
              · have c3b : (cod zs j == 3) = false := by simpa using c3
                by_cases c1 : cod zs j = 1
                · by_cases hd : dv = 0
                  · go_wp2
                    go_round
                    case rel => exact ⟨j + 1, 0, true, by omega, rfl, by first | rfl | rw [hd], rfl, by go_num, by omega, by omega, (hd ▸ (wn_close hjl c1 hd).symm.trans hw.out)⟩
                    case measure => simp [intOf]; omega
                  · have hdb : (dv == 0) = false := by simpa using hd
                    go_wp2
                    go_round
                    case rel => exact ⟨j + 1, dv - 1, false, by omega, rfl, rfl, rfl, by go_num, by omega, by omega, (wn_less hjl c1 hd).symm.trans hw.out⟩
                    case measure => simp [intOf]; omega
                · have c1b : (cod zs j == 1) = false := by simpa using c1
                  by_cases c0 : cod zs j = 0
                  · go_wp2
                    go_round
                    case rel => exact ⟨j + 1, dv + 1, false, by omega, rfl, rfl, rfl, by go_num, by omega, by omega, (wn_more hjl c0).symm.trans hw.out⟩
                    case measure => simp [intOf]; omega
                  · have c0b : (cod zs j == 0) = false := by simpa using c0
                    have c25 : cod zs j = 2 ∨ cod zs j = 5 := by have := cod_b zs j; omega
                    go_wp2
                    go_round
                    case rel => exact ⟨j + 1, dv, false, by omega, rfl, rfl, rfl, by go_num, by omega, by omega, (wn_same hjl c25).symm.trans hw.out⟩
                    case measure => simp [intOf]; omega
            · have hRj := hw.out
              rw [wn_stop hjl c4 (.inl rfl)] at hRj
              subst hRj
              clear hw
              go_wp2_with (go_at_call 6; refine (skip6 we.heap.size g ((T zs n).length + 1) ce (KA zs n) (XA zs n) (fun _ => 0) (fun _ => 0) 0 _ (by omega) (by omega) (KA_last zs n) (par_of HI.out)).mono ?_; rintro e wf ⟨rfl, hpf, hgf⟩; have c1 := hpf.cur; have c2 := hpf.errs; have c3 := hpf.toks)
              go_ret
              exact ⟨rfl, tail_below HI.out hgf⟩
        · have hRj := hw.out
          rw [wn_end hjl] at hRj
          subst hRj
          clear hw
          have hjn : n = j := by omega
          subst hjn
          go_wp2_with (go_at_call 6; refine (skip6 we.heap.size g ((T zs n).length + 1) ce (KA zs n) (XA zs n) (fun _ => 0) (fun _ => 0) 0 _ (by omega) (by omega) (KA_last zs n) (par_of HI.out)).mono ?_; rintro e wf ⟨rfl, hpf, hgf⟩; have c1 := hpf.cur; have c2 := hpf.errs; have c3 := hpf.toks)
          go_ret
          exact ⟨rfl, tail_below HI.out hgf⟩
end Go.Proofs.Ybulkceag
