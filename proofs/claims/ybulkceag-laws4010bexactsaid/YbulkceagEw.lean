import Derived.Test.YbulkceagEx
namespace Go.Proofs.Ybulkceag
open Go.ChangeShapes Go.WideShapes Go.ChangeAt Go.RowKit
set_option linter.unusedVariables false

/-- what the walk is told of the bytes that came in -/
def IsRowE (k : IntKind) (w : World) (a : Option Addr) (len cap : Nat) (zs : List Int) : Prop :=
  (a = none ∧ len = 0 ∧ cap = 0 ∧ zs = []) ∨
  ∃ x, a = some x ∧ len ≤ cap ∧ cap ≤ maxLen ∧ zs.length = cap ∧ (∀ i, i < zs.length → w.cell? (x.add i) = some (.int k (zs.getD i 0))) ∧ ∀ n ∈ zs, (Lit.int k n).wf = true

theorem IsRowE.get {k : IntKind} {w : World} {a : Option Addr} {len cap : Nat} {zs : List Int} (h : IsRowE k w a len cap zs) (i : Nat) (hi : i < len) :
    ∃ b off n, a = some ⟨b, off, none⟩ ∧ len ≤ maxLen ∧ w.cell? ⟨b, off + i, none⟩ = some (.int k n) ∧ (Lit.int k n).wf = true ∧ Hid (zs.getD i 0 = n) := by
  rcases h with ⟨_, h, _⟩ | ⟨x, rfl, h1, h2, h3, h4, h5⟩
  · omega
  · obtain ⟨b, off, rfl, hc⟩ := ints_at h4 (by omega)
    refine ⟨b, off, zs.getD i 0, rfl, by omega, hc i (by omega), ?_, rfl⟩
    refine h5 _ ?_
    have : zs.getD i 0 = zs[i]'(by omega) := by simp [List.getD, List.getElem?_eq_getElem (show i < zs.length by omega)]
    rw [this]
    exact List.getElem_mem _

def tabv (c : Int) : Int := if c = 0 then 1 else if c = 1 then 2 else if c = 2 then 3 else if c = 3 then 4 else if c = 4 then 5 else if c = 5 then 6 else if c = 6 then 2 else 1
def txtv (c : Int) : ByteArray := if c = 1 then ⟨#[115, 116, 114, 117, 99, 116]⟩ else if c = 6 then ⟨#[120]⟩ else ⟨#[]⟩
def kd (zs : List Int) (n j : Nat) : Int := if j < n then tabv (zs.getD j 0 % 8) else 0
def xd (zs : List Int) (n j : Nat) : ByteArray := if j < n then txtv (zs.getD j 0 % 8) else ⟨#[]⟩

theorem made_one (z : Value) (n j : Nat) (h : j < n) : (madeCells #[z] (n * 1)).toList[j]? = some z := by
  rw [Nat.mul_one, toList_madeCells_one]; simp [h]
theorem made_four (a b c d : Value) (n j o : Nat) (h : j < n) (ho : o < 4) : (madeCells #[a, b, c, d] (n * 4)).toList[j * 4 + o]? = [a, b, c, d][o]? := by
  have h1 : j * 4 + o < n * 4 := by omega
  have h2 : (j * 4 + o) % 4 = o := by omega
  simp only [madeCells, Array.toList_map, List.getElem?_map, Array.toList_range]
  rw [List.getElem?_range h1]
  simp only [Option.map_some]
  have hs : (#[a, b, c, d] : Array Value).size = 4 := rfl
  rw [hs, h2]
  have : o = 0 ∨ o = 1 ∨ o = 2 ∨ o = 3 := by omega
  rcases this with rfl | rfl | rfl | rfl <;> rfl

theorem ein_start {w wa wb wc : World} {n : Nat} {K : Nat → Int} {X : Nat → ByteArray}
    (hga : (w.alloc (Obj.cells #[.int .i64 1, .int .i64 2, .int .i64 3, .int .i64 4, .int .i64 5, .int .i64 6, .int .i64 2, .int .i64 1] 25)).grownBy wa none)
    (hoa : wa.ownsRow w.heap.size 24 1 (.slice (some ⟨w.heap.size + 1, 0, none⟩) (n + 1) (n + 1)) (n + 1) (madeCells #[.int .i64 0] ((n + 1) * 1)).toList)
    (hgb : wa.grownBy wb none) (hob : wb.ownsRow w.heap.size 9 1 (.slice (some ⟨wa.heap.size, 0, none⟩) (n + 1) (n + 1)) (n + 1) (madeCells #[.string ⟨#[]⟩] ((n + 1) * 1)).toList)
    (hgc : wb.grownBy wc none) (hoc : wc.ownsRow w.heap.size 32 4 (.slice (some ⟨wb.heap.size, 0, none⟩) (n + 1) (n + 1)) (n + 1) (madeCells #[.int .i64 0, .string ⟨#[]⟩, .int .i64 0, .int .i64 0] ((n + 1) * 4)).toList) :
    EInv w (w.heap.size + 1) wa.heap.size wb.heap.size n K X 0 0 0 wc := by
  have a1 := (hoa.lt _ rfl).2
  have a2 := (hob.lt _ rfl).2
  have a3 := (hoc.lt _ rfl).2
  dsimp only at a1 a2 a3
  have hoa' := (hoa.kept hgb (.inr (by simp [Value.ownBlock]))).kept hgc (.inr (by simp [Value.ownBlock]))
  have hob' := hob.kept hgc (.inr (by simp [Value.ownBlock]))
  have tabc : ∀ o, wc.cell? ⟨w.heap.size, o, none⟩ = #[Value.int .i64 1, .int .i64 2, .int .i64 3, .int .i64 4, .int .i64 5, .int .i64 6, .int .i64 2, .int .i64 1][o]? := by
    intro o
    rw [World.cell?_of_block (hgc.block _ (by dsimp only; omega) (by simp)), World.cell?_of_block (hgb.block _ (by dsimp only; omega) (by simp)), World.cell?_of_block (hga.block _ (by simp) (by simp))]
    simp
  refine ⟨fun j hj => ?_, fun j => hoa'.frozenAt j, fun j hj => ?_, fun j => hob'.frozenAt j, fun j hj => ?_, fun j hj => ?_, fun j hj => ?_, fun j hj => ?_, fun j => hoc.frozenAt j, ⟨?_, ?_, ?_, ?_, ?_, ?_, ?_, ?_⟩, by omega, a1, a2, ?_⟩
  · rw [hoa'.cellAt j (by omega), made_one _ _ _ (by omega), if_neg (by omega)]
  · rw [hob'.cellAt j (by omega), made_one _ _ _ (by omega), if_neg (by omega)]
  · have := hoc.cellAt (j * 4) (by omega)
    have h2 := made_four (.int .i64 0) (.string ⟨#[]⟩) (.int .i64 0) (.int .i64 0) (n + 1) j 0 (by omega) (by omega)
    rw [if_neg (by omega)]
    exact this.trans h2
  · rw [hoc.cellAt _ (by omega), made_four _ _ _ _ _ _ _ (by omega) (by omega), if_neg (by omega)]; rfl
  · rw [hoc.cellAt _ (by omega), made_four _ _ _ _ _ _ _ (by omega) (by omega), if_neg (by omega)]; rfl
  · rw [hoc.cellAt _ (by omega), made_four _ _ _ _ _ _ _ (by omega) (by omega), if_neg (by omega)]; rfl
  · rw [tabc]; rfl
  · rw [tabc]; rfl
  · rw [tabc]; rfl
  · rw [tabc]; rfl
  · rw [tabc]; rfl
  · rw [tabc]; rfl
  · rw [tabc]; rfl
  · rw [tabc]; rfl
  · exact ((((Below.refl _ _).alloc (Nat.le_refl _) _).grown hga (by simp) (fun k hk => by cases hk)).grown hgb (by omega) (fun k hk => by cases hk)).grown hgc (by omega) (fun k hk => by cases hk)

theorem ein_plain {w wr : World} {gk gt go n k : Nat} {K : Nat → Int} {X : Nat → ByteArray} {kv : Int} (hI : EInv w gk gt go n K X k k k wr) (hk : k ≤ n) (hkd : K k = kv) (hxd : X k = ⟨#[]⟩) :
    EInv w gk gt go n K X (k + 1) (k + 1) (k + 1) (((((wr.setCell ⟨gk, k, none⟩ (.int .i64 kv)).setCell ⟨go, k * 4, none⟩ (.int .i64 kv)).setCell ⟨go, k * 4 + 1, none⟩ (.string ⟨#[]⟩)).setCell ⟨go, k * 4 + 2, none⟩ (.int .i64 ((k : Int) + 1))).setCell ⟨go, k * 4 + 3, none⟩ (.int .i64 1)).drew := by
  have h := (((hI.setK hk).skipT hxd).setO hk).drewN 1
  rw [hkd, hxd] at h
  exact h
theorem ein_text {w wr : World} {gk gt go n k : Nat} {K : Nat → Int} {X : Nat → ByteArray} {kv : Int} {xv : ByteArray} (hI : EInv w gk gt go n K X k k k wr) (hk : k ≤ n) (hkd : K k = kv) (hxd : X k = xv) :
    EInv w gk gt go n K X (k + 1) (k + 1) (k + 1) ((((((wr.setCell ⟨gk, k, none⟩ (.int .i64 kv)).setCell ⟨gt, k, none⟩ (.string xv)).setCell ⟨go, k * 4, none⟩ (.int .i64 kv)).setCell ⟨go, k * 4 + 1, none⟩ (.string xv)).setCell ⟨go, k * 4 + 2, none⟩ (.int .i64 ((k : Int) + 1))).setCell ⟨go, k * 4 + 3, none⟩ (.int .i64 1)).drew := by
  have h := (((hI.setK hk).setT hk).setO hk).drewN 1
  rw [hkd, hxd] at h
  exact h

theorem ein_end {w wr : World} {gk gt go n : Nat} {K : Nat → Int} {X : Nat → ByteArray} (hI : EInv w gk gt go n K X n n n wr) (hk : K n = 0) (hx : X n = ⟨#[]⟩) :
    EInv w gk gt go n K X (n + 1) (n + 1) (n + 1) (((((wr.setCell ⟨gk, n, none⟩ (.int .i64 0)).setCell ⟨go, n * 4, none⟩ (.int .i64 0)).setCell ⟨go, n * 4 + 1, none⟩ (.string ⟨#[]⟩)).setCell ⟨go, n * 4 + 2, none⟩ (.int .i64 ((n : Int) + 1))).setCell ⟨go, n * 4 + 3, none⟩ (.int .i64 1)) := by
  have h := ((hI.setK (Nat.le_refl _)).skipT hx).setO (Nat.le_refl _)
  rw [hk, hx] at h
  exact h

/-- the parser at the law's tokens -/
theorem par_ofE {w we : World} {gk gt go n s : Nat} {K : Nat → Int} {X : Nat → ByteArray} (h : EInv w gk gt go n K X (n + 1) (n + 1) (n + 1) we) :
    Par we.heap.size go (n + 1) (n + 1) K X (fun j => (j : Int) + 1) (fun _ => 1) s (we.alloc (Obj.cells #[.string ⟨#[100]⟩, .slice (some ⟨go, 0, none⟩) (n + 1) (n + 1), .int .i64 s, .slice none 0 0, .slice none 0 0, .map none, .int .i64 0, .int .i64 0] 39)) := by
  have hg : go < we.heap.size := World.block_lt_of_cell? _ _ (h.o0 0 (by omega))
  have q : ∀ o, (we.alloc (Obj.cells #[.string ⟨#[100]⟩, .slice (some ⟨go, 0, none⟩) (n + 1) (n + 1), .int .i64 s, .slice none 0 0, .slice none 0 0, .map none, .int .i64 0, .int .i64 0] 39)).cell? ⟨go, o, none⟩ = we.cell? ⟨go, o, none⟩ := fun o => World.cell?_alloc_lt _ _ _ hg
  refine ⟨by simp, by simp, by simp, by simp, by simp, fun j hj => ?_, fun j hj => ?_, fun j hj => ?_, fun j hj => ?_, by omega⟩
  · rw [q, h.o0 j (by omega), if_pos (by omega)]
  · rw [q, h.o1 j (by omega), if_pos (by omega)]
  · rw [q, h.o2 j (by omega), if_pos (by omega)]
  · rw [q, h.o3 j (by omega), if_pos (by omega)]

theorem rows_ofE {w we : World} {gk gt go n : Nat} {K : Nat → Int} {X : Nat → ByteArray} (h : EInv w gk gt go n K X (n + 1) (n + 1) (n + 1) we) (o : Obj) :
    (∀ j, j < n + 1 → (we.alloc o).cell? ⟨gk, j, none⟩ = some (.int .i64 (K j))) ∧ (∀ j, j < n + 1 → (we.alloc o).cell? ⟨gt, j, none⟩ = some (.string (X j))) := by
  have hg : gk < we.heap.size := World.block_lt_of_cell? _ _ (h.kc 0 (by omega))
  have hg2 : gt < we.heap.size := World.block_lt_of_cell? _ _ (h.tc 0 (by omega))
  refine ⟨fun j hj => ?_, fun j hj => ?_⟩
  · rw [World.cell?_alloc_lt _ _ _ hg, h.kc j (by omega), if_pos hj]
  · rw [World.cell?_alloc_lt _ _ _ hg2, h.tc j (by omega), if_pos hj]

theorem rows_after {w we wf : World} {gk gt go n : Nat} {K : Nat → Int} {X : Nat → ByteArray} {o : Obj} (h : EInv w gk gt go n K X (n + 1) (n + 1) (n + 1) we) (hgf : (we.alloc o).grownBy wf (some we.heap.size)) :
    (∀ j, j < n + 1 → wf.cell? ⟨gk, j, none⟩ = some (.int .i64 (K j))) ∧ (∀ j, j < n + 1 → wf.cell? ⟨gt, j, none⟩ = some (.string (X j))) ∧ Below w.heap.size w wf := by
  have hg : gk < we.heap.size := World.block_lt_of_cell? _ _ (h.kc 0 (by omega))
  have hg2 : gt < we.heap.size := World.block_lt_of_cell? _ _ (h.tc 0 (by omega))
  have hw := h.h1
  obtain ⟨a, b⟩ := rows_ofE h o
  refine ⟨fun j hj => ?_, fun j hj => ?_, ?_⟩
  · rw [World.cell?_of_block (hgf.block _ (by simp; omega) (by simp; omega)), a j hj]
  · rw [World.cell?_of_block (hgf.block _ (by simp; omega) (by simp; omega)), b j hj]
  · refine (h.bl.alloc (by omega) o).grown hgf (by simp; omega) ?_
    intro k hk
    cases hk
    omega

set_option maxHeartbeats 800000 in
theorem longE (a0 : Option Addr) (len0 cap0 : Nat) (a1 : Int) (w : World) (h : 1024 < len0) :
    Calls Yba.prog 3 #[.slice a0 len0 cap0, .int .u16 a1] w fun e w' => e = .returned (.bool true) ∧ Below w.heap.size w w' := by
  have h' : (1024 : Int) < (len0 : Int) := by omega
  go_enter Yba.func3, Yba.ntmps3
  go_wp2
  go_ret
  exact ⟨rfl, Below.refl _ _⟩

set_option maxHeartbeats 6400000 in
set_option maxRecDepth 100000 in
theorem walkE (a0 : Option Addr) (n cap0 : Nat) (zs : List Int) (a1 : Int) (w : World) (w0 : IsRowE .u8 w a0 n cap0 zs) (hn : n ≤ 1024) (ha1 : 0 ≤ a1 ∧ a1 ≤ 65535) :
    Calls Yba.prog 3 #[.slice a0 n cap0, .int .u16 a1] w fun e w' => e = .returned (.bool true) ∧ Below w.heap.size w w' := by
  have h' : (n : Int) ≤ 1024 := by omega
  obtain ⟨i0, hi0, hz0, hz1, hz2⟩ := info_parts info24
  obtain ⟨j0, hj0, hy0, hy1, hy2⟩ := info_parts info9
  obtain ⟨l0, hl0, hx0, hx1, hx2⟩ := info_parts info32
  go_enter Yba.func3, Yba.ntmps3
  go_wp2_with (first | (at_make; refine wpList_make_full _ rfl (.tmp 24) (.tmp 24) 26 rfl w.heap.size 24 i0 (.int .i64 0) 1 Yba.underlying26 hi0 hz0 hz1 .i64 .i64 _ _ (n + 1) rfl rfl (by omega) (by omega) (by rw [hz2]; omega) (by unfold maxLen; omega) (by simp) ?_; intro wa hoa hga) | (at_make; refine wpList_make_full _ rfl (.tmp 23) (.tmp 23) 26 rfl w.heap.size 24 i0 (.int .i64 0) 1 Yba.underlying26 hi0 hz0 hz1 .i64 .i64 _ _ (n + 1) rfl rfl (by omega) (by omega) (by rw [hz2]; omega) (by unfold maxLen; omega) (by simp) ?_; intro wa hoa hga) | (at_make; refine wpList_make_full _ rfl (.tmp 26) (.tmp 26) 27 rfl w.heap.size 9 j0 (.string ⟨#[]⟩) 1 Yba.underlying27 hj0 hy0 hy1 .i64 .i64 _ _ (n + 1) rfl rfl (by omega) (by omega) (by rw [hy2]; omega) (by unfold maxLen; omega) (by have := hga.size; simp at this; omega) ?_; intro wb hob hgb) | (at_make; refine wpList_make_full _ rfl (.tmp 29) (.tmp 29) 28 rfl w.heap.size 32 l0 _ 4 Yba.underlying28 hl0 hx0 hx1 .i64 .i64 _ _ (n + 1) rfl rfl (by omega) (by omega) (by rw [hx2]; omega) (by unfold maxLen; omega) (by have := hga.size; have := hgb.size; simp at *; omega) ?_; intro wc hoc hgc))
  rw [World.size_alloc] at hoa
  have hE0 := ein_start (n := n) (K := kd zs n) (X := xd zs n) hga hoa hgb hob hgc hoc
  obtain ⟨gk, hgk⟩ : ∃ g, w.heap.size + 1 = g := ⟨_, rfl⟩
  obtain ⟨gt, hgt⟩ : ∃ g, wa.heap.size = g := ⟨_, rfl⟩
  obtain ⟨go, hgo⟩ : ∃ g, wb.heap.size = g := ⟨_, rfl⟩
  rw [hgk, hgt, hgo] at hE0
  rw [hgk, hgt, hgo]
  clear hoa hga hob hgb hoc hgc hgk hgt hgo
  go_loopw [10] (fun i wr => ∃ k : Nat, k ≤ n ∧ i = .int .i64 k ∧ EInv w gk gt go n (kd zs n) (xd zs n) k k k wr) (fun i _ => n - (intOf i).toNat)
  case atStart => exact ⟨0, by omega, rfl, hE0⟩
  case round =>
    obtain ⟨k, hk, rfl, hI⟩ := hrel
    by_cases hlt : k < n
    · obtain ⟨b, off, x, rfl, _, hcell, hw, hx⟩ := w0.get k hlt
      have hb8 := bounds_u8 hw
      have hcw : wr.cell? ⟨b, off + k, none⟩ = some (.int .u8 x) := (hI.bl.cell (World.block_lt_of_cell? _ _ hcell)).trans hcell
      have hkd : Hid (kd zs n k = tabv (x % 8)) := by show (if k < n then _ else _) = _; rw [if_pos hlt, hx.out]
      have hxd : Hid (xd zs n k = txtv (x % 8)) := by show (if k < n then _ else _) = _; rw [if_pos hlt, hx.out]
      have k1 : wr.cell? ⟨gk, k, none⟩ = some (.int .i64 0) := by rw [hI.kc k (by omega), if_neg (by omega)]
      have q1 := hI.kf k
      have k2 : wr.cell? ⟨gt, k, none⟩ = some (.string ⟨#[]⟩) := by rw [hI.tc k (by omega), if_neg (by omega)]
      have q2 := hI.tf k
      have k30 : wr.cell? ⟨go, k * 4, none⟩ = some (.int .i64 0) := by rw [hI.o0 k (by omega), if_neg (by omega)]
      have k31 : wr.cell? ⟨go, k * 4 + 1, none⟩ = some (.string ⟨#[]⟩) := by rw [hI.o1 k (by omega), if_neg (by omega)]
      have k32 : wr.cell? ⟨go, k * 4 + 2, none⟩ = some (.int .i64 0) := by rw [hI.o2 k (by omega), if_neg (by omega)]
      have k33 : wr.cell? ⟨go, k * 4 + 3, none⟩ = some (.int .i64 0) := by rw [hI.o3 k (by omega), if_neg (by omega)]
      have q30 := hI.of (k * 4)
      have q31 := hI.of (k * 4 + 1)
      have q32 := hI.of (k * 4 + 2)
      have q33 := hI.of (k * 4 + 3)
      obtain ⟨t0, t1, t2, t3, t4, t5, t6, t7⟩ := hI.tb
      have h1 := hI.h1
      have h2 := hI.h2
      have h3 := hI.h3
      have hkI : (k : Int) < (n : Int) + 1 := by omega
      have hc8 : x % 8 = 0 ∨ x % 8 = 1 ∨ x % 8 = 2 ∨ x % 8 = 3 ∨ x % 8 = 4 ∨ x % 8 = 5 ∨ x % 8 = 6 ∨ x % 8 = 7 := by omega
      rcases hc8 with hc | hc | hc | hc | hc | hc | hc | hc
      · go_wp2
        go_region
        go_wp2
        go_roundw
        case rel => exact ⟨k + 1, by omega, by go_num, ein_plain hI hk (hkd.out.trans (by rw [hc]; rfl)) (hxd.out.trans (by rw [hc]; rfl))⟩
        case measure => simp [intOf]; omega
      · go_wp2
        go_region
        go_wp2
        go_roundw
        case rel => exact ⟨k + 1, by omega, by go_num, ein_text hI hk (hkd.out.trans (by rw [hc]; rfl)) (hxd.out.trans (by rw [hc]; rfl))⟩
        case measure => simp [intOf]; omega
      · go_wp2
        go_region
        go_wp2
        go_roundw
        case rel => exact ⟨k + 1, by omega, by go_num, ein_plain hI hk (hkd.out.trans (by rw [hc]; rfl)) (hxd.out.trans (by rw [hc]; rfl))⟩
        case measure => simp [intOf]; omega
      · go_wp2
        go_region
        go_wp2
        go_roundw
        case rel => exact ⟨k + 1, by omega, by go_num, ein_plain hI hk (hkd.out.trans (by rw [hc]; rfl)) (hxd.out.trans (by rw [hc]; rfl))⟩
        case measure => simp [intOf]; omega
      · go_wp2
        go_region
        go_wp2
        go_roundw
        case rel => exact ⟨k + 1, by omega, by go_num, ein_plain hI hk (hkd.out.trans (by rw [hc]; rfl)) (hxd.out.trans (by rw [hc]; rfl))⟩
        case measure => simp [intOf]; omega
      · go_wp2
        go_region
        go_wp2
        go_roundw
        case rel => exact ⟨k + 1, by omega, by go_num, ein_plain hI hk (hkd.out.trans (by rw [hc]; rfl)) (hxd.out.trans (by rw [hc]; rfl))⟩
        case measure => simp [intOf]; omega
      · go_wp2
        go_region
        go_wp2
        go_roundw
        case rel => exact ⟨k + 1, by omega, by go_num, ein_text hI hk (hkd.out.trans (by rw [hc]; rfl)) (hxd.out.trans (by rw [hc]; rfl))⟩
        case measure => simp [intOf]; omega
      · go_wp2
        go_region
        go_wp2
        go_roundw
        case rel => exact ⟨k + 1, by omega, by go_num, ein_plain hI hk (hkd.out.trans (by rw [hc]; rfl)) (hxd.out.trans (by rw [hc]; rfl))⟩
        case measure => simp [intOf]; omega
    · have hkn : n = k := by omega
      subst hkn
      clear hk hlt
      have k1 : wr.cell? ⟨gk, n, none⟩ = some (.int .i64 0) := by rw [hI.kc n (by omega), if_neg (by omega)]
      have q1 := hI.kf n
      have k30 : wr.cell? ⟨go, n * 4, none⟩ = some (.int .i64 0) := by rw [hI.o0 n (by omega), if_neg (by omega)]
      have k31 : wr.cell? ⟨go, n * 4 + 1, none⟩ = some (.string ⟨#[]⟩) := by rw [hI.o1 n (by omega), if_neg (by omega)]
      have k32 : wr.cell? ⟨go, n * 4 + 2, none⟩ = some (.int .i64 0) := by rw [hI.o2 n (by omega), if_neg (by omega)]
      have k33 : wr.cell? ⟨go, n * 4 + 3, none⟩ = some (.int .i64 0) := by rw [hI.o3 n (by omega), if_neg (by omega)]
      have q30 := hI.of (n * 4)
      have q31 := hI.of (n * 4 + 1)
      have q32 := hI.of (n * 4 + 2)
      have q33 := hI.of (n * 4 + 3)
      have h1 := hI.h1
      have h2 := hI.h2
      have h3 := hI.h3
      have hJ := ein_end hI (show kd zs n n = 0 by unfold kd; rw [if_neg (by omega)]) (show xd zs n n = ⟨#[]⟩ by unfold xd; rw [if_neg (by omega)])
      obtain ⟨s, hs, hsn⟩ : ∃ s : Nat, a1 % ((n : Int) + 1) = (s : Int) ∧ s < n + 1 := by
        have h1 := Int.emod_nonneg a1 (b := (n : Int) + 1) (by omega)
        have h2 := Int.emod_lt_of_pos a1 (b := (n : Int) + 1) (by omega)
        exact ⟨(a1 % ((n : Int) + 1)).toNat, by omega, by omega⟩
      have HS : Hid (a1 % ((n : Int) + 1) = (s : Int)) := hs
      clear hs hE0
      go_wp2_with fail
      rw [HS.out]
      obtain ⟨we, hwe⟩ : ∃ we, (((((wr.setCell ⟨gk, n, none⟩ (.int .i64 0)).setCell ⟨go, n * 4, none⟩ (.int .i64 0)).setCell ⟨go, n * 4 + 1, none⟩ (.string ⟨#[]⟩)).setCell ⟨go, n * 4 + 2, none⟩ (.int .i64 ((n : Int) + 1))).setCell ⟨go, n * 4 + 3, none⟩ (.int .i64 1)) = we := ⟨_, rfl⟩
      have hsz : wr.heap.size = we.heap.size := by rw [← hwe]; simp
      rw [hwe] at hJ ⊢
      rw [hsz]
      have HJ : Hid (EInv w gk gt go n (kd zs n) (xd zs n) (n + 1) (n + 1) (n + 1) we) := hJ
      clear hwe hsz hJ hI k1 q1 k30 k31 k32 k33 q30 q31 q32 q33
      refine (model5 gk gt (n + 1) (n + 1) (n + 1) (kd zs n) (xd zs n) s _ hsn (by omega) (show kd zs n (n + 1 - 1) = 0 by unfold kd; rw [if_neg (by omega)]) (rows_ofE HJ.out _).1 (rows_ofE HJ.out _).2).mono ?_
      rintro e wm ⟨rfl, hwm⟩
      subst hwm
      go_wp2_with fail
      refine (skip6 we.heap.size go (n + 1) (n + 1) (kd zs n) (xd zs n) (fun j => (j : Int) + 1) (fun _ => 1) s _ hsn (by omega) (show kd zs n (n + 1 - 1) = 0 by unfold kd; rw [if_neg (by omega)]) (par_ofE HJ.out)).mono ?_
      rintro e wf ⟨rfl, hpf, hgf⟩
      obtain ⟨r1, r2, r3⟩ := rows_after HJ.out hgf
      have HR1 : Hid (∀ j, j < n + 1 → wf.cell? ⟨gk, j, none⟩ = some (.int .i64 (kd zs n j))) := r1
      have HR2 : Hid (∀ j, j < n + 1 → wf.cell? ⟨gt, j, none⟩ = some (.string (xd zs n j))) := r2
      have c0 := hpf.path
      have c1 := hpf.cur
      have c2 := hpf.errs
      have c3 := hpf.toks
      clear r1 r2 hgf
      go_wp2_with fail
      go_loopw [15] (fun i wz => ∃ j nq : Nat, j ≤ n + 1 ∧ i = .int .i64 j ∧ wz = wf.drewN nq) (fun i _ => n + 1 - (intOf i).toNat)
      case atStart => exact ⟨0, 0, by omega, rfl, rfl⟩
      case round =>
        obtain ⟨j, nq, hj, rfl, rfl⟩ := hrel
        by_cases hjl : j < n + 1
        · have k1 := HR1.out j hjl
          have k2 := HR2.out j hjl
          have k3 := hpf.kind j hjl
          have k4 := hpf.text j hjl
          have hjI : (j : Int) ≤ (n : Int) := by omega
          have hjI2 : (j : Int) < (n : Int) + 1 := by omega
          have e1 : (kd zs n j != kd zs n j) = false := by simp
          go_wp2_with fail
          go_quiet (fail)
          go_wp2
          go_roundw
          case rel => exact ⟨j + 1, _, by omega, by go_num, rfl⟩
          case measure => simp [intOf]; omega
        · have hjn : j = n + 1 := by omega
          subst hjn
          go_wp2
          go_ret
          exact ⟨rfl, below_drewN r3 _⟩
end Go.Proofs.Ybulkceag
