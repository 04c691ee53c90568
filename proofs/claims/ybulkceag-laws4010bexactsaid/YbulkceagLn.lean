import Derived.Test.YbulkceagSk
namespace Go.Proofs.Ybulkceag
open Go.ChangeShapes Go.WideShapes Go.ChangeAt Go.RowKit
set_option linter.unusedVariables false

theorem info32 : (Yba.prog.info? 32).map (fun i => (i.zero, i.size, i.bytes)) = some (some (.agg #[.int .i64 0, .string ⟨#[]⟩, .int .i64 0, .int .i64 0]), 4, 40) := by kernel_rfl
theorem info3 : (Yba.prog.info? 3).map (fun i => (i.zero, i.size, i.bytes)) = some (some (.int .i64 0), 1, 8) := by kernel_rfl

/-- a token's four cells -/
def tkc (t : Int × ByteArray) : List Value := [.int .i64 t.1, .string t.2, .int .i64 0, .int .i64 0]
def cellsT (l : List (Int × ByteArray)) : List Value := l.flatMap tkc
theorem cellsT_append (a b : List (Int × ByteArray)) : cellsT (a ++ b) = cellsT a ++ cellsT b := by unfold cellsT; rw [List.flatMap_append]
theorem cellsT_length (l : List (Int × ByteArray)) : (cellsT l).length = l.length * 4 := by
  induction l with
  | nil => rfl
  | cons a l ih => unfold cellsT at *; rw [List.flatMap_cons, List.length_append, ih]; simp [tkc]; omega
theorem cellsT_at (l : List (Int × ByteArray)) (j o : Nat) (hj : j < l.length) (ho : o < 4) : (cellsT l)[j * 4 + o]? = (tkc (l.getD j (0, ⟨#[]⟩)))[o]? := by
  induction l generalizing j with
  | nil => simp at hj
  | cons a l ih =>
    have e : cellsT (a :: l) = tkc a ++ cellsT l := by unfold cellsT; rw [List.flatMap_cons]
    rw [e]
    cases j with
    | zero => rw [Nat.zero_mul, Nat.zero_add, List.getElem?_append_left (by simpa [tkc] using ho)]; rfl
    | succ j =>
      rw [List.getElem?_append_right (by simp [tkc]; omega)]
      have h := ih j (by simpa using hj)
      have e2 : (j + 1) * 4 + o - (tkc a).length = j * 4 + o := by simp [tkc]; omega
      rw [e2, h]; rfl
theorem cellsT_one (l : List (Int × ByteArray)) : ∀ u ∈ cellsT l, u.oneCell' = true := by
  intro u hu
  unfold cellsT at hu
  rw [List.mem_flatMap] at hu
  obtain ⟨t, _, h⟩ := hu
  simp only [tkc, List.mem_cons, List.not_mem_nil, or_false] at h
  rcases h with rfl | rfl | rfl | rfl <;> rfl

/-- the tokens of one line -/
def ln (c : Int) : List (Int × ByteArray) :=
  if c = 0 then [(2, ⟨#[120]⟩), (4, ⟨#[123]⟩), (1, ⟨#[]⟩)]
  else if c = 1 then [(5, ⟨#[125]⟩), (1, ⟨#[]⟩)]
  else if c = 2 then [(2, ⟨#[120]⟩), (2, ⟨#[121]⟩), (1, ⟨#[]⟩)]
  else if c = 3 then [(2, ⟨#[115, 116, 114, 117, 99, 116]⟩), (2, ⟨#[83]⟩), (4, ⟨#[123]⟩), (1, ⟨#[]⟩)]
  else if c = 5 then [(2, ⟨#[115, 116, 114, 117, 99, 116]⟩), (6, ⟨#[58]⟩), (1, ⟨#[]⟩)]
  else [(1, ⟨#[]⟩)]
theorem ln_len (c : Int) : 1 ≤ (ln c).length ∧ (ln c).length ≤ 4 := by
  unfold ln
  repeat' split
  all_goals simp

/-- the code of line i -/
def cod (zs : List Int) (i : Nat) : Int := zs.getD i 0 % 6
/-- the tokens of the first k lines -/
def T (zs : List Int) : Nat → List (Int × ByteArray)
  | 0 => []
  | k + 1 => T zs k ++ ln (cod zs k)
theorem T_len (zs : List Int) (k : Nat) : k ≤ (T zs k).length ∧ (T zs k).length ≤ 4 * k := by
  induction k with
  | zero => simp [T]
  | succ k ih => have := ln_len (cod zs k); simp only [T, List.length_append]; omega

/-- a row of n numbers whose first k are set -/
def upto (f : Nat → Int) (n k : Nat) : List Value := (List.range n).map fun i => .int .i64 (if i < k then f i else 0)
theorem upto_set (f : Nat → Int) (n k : Nat) (h : k < n) : (upto f n k).set k (.int .i64 (f k)) = upto f n (k + 1) := by
  apply List.ext_getElem?
  intro i
  unfold upto
  rw [List.getElem?_set]
  by_cases hik : k = i
  · subst hik; simp [h]
  · rw [if_neg hik]
    by_cases hi : i < n
    · simp [hi]
      by_cases h2 : i < k
      · simp [h2, show i < k + 1 by omega]
      · simp [h2, show ¬ i < k + 1 by omega]
    · simp [hi]
theorem upto_at (f : Nat → Int) (n k i : Nat) (h : i < n) : (upto f n k)[i]? = some (.int .i64 (if i < k then f i else 0)) := by
  unfold upto; simp [h]
theorem upto_zero (f : Nat → Int) (n : Nat) : upto f n 0 = List.replicate n (.int .i64 0) := by
  unfold upto
  apply List.ext_getElem?
  intro i
  by_cases hi : i < n <;> simp [hi]

/-- the law's own memory while the tokens are made -/
structure LInv (w : World) (B1 B2 n : Nat) (S Cd : List Value) (v : Value) (m : Nat) (xs : List Value) (wr : World) : Prop where
  st : wr.ownsRow w.heap.size 3 1 (.slice (some ⟨w.heap.size, 0, none⟩) n n) n S
  cd : wr.ownsRow w.heap.size 3 1 (.slice (some ⟨B1, 0, none⟩) n n) n Cd
  tk : wr.ownsRow B2 32 4 v m xs
  h1 : w.heap.size < B1
  h2 : B1 < B2
  sz : B2 ≤ wr.heap.size
  bl : Below w.heap.size w wr

section
variable {w : World} {B1 B2 n : Nat} {S Cd : List Value} {v : Value} {m : Nat} {xs : List Value} {wr : World}

theorem own_ne {base e size : Nat} {v : Value} {n : Nat} {xs : List Value} {w : World} (h : w.ownsRow base e size v n xs) (j : Nat) (hj : j < base) : v.ownBlock = none ∨ v.ownBlock ≠ some j := by
  right; intro e; have := (h.lt j e).1; omega

theorem LInv.setCd (h : LInv w B1 B2 n S Cd v m xs wr) (j : Nat) (u : Value) : LInv w B1 B2 n S (Cd.set j u) v m xs (wr.setCell ⟨B1, j, none⟩ u) := by
  have hs := h.cd.stored j u
  have h1 := h.h1; have h2 := h.h2
  refine ⟨h.st.kept hs.2 (.inr ?_), hs.1, h.tk.kept hs.2 (own_ne h.tk B1 h.h2), h.h1, h.h2, by simpa using h.sz, h.bl.setCell (by show w.heap.size ≤ B1; omega) _⟩
  simp [Value.ownBlock]; omega
theorem LInv.setSt (h : LInv w B1 B2 n S Cd v m xs wr) (j : Nat) (u : Value) : LInv w B1 B2 n (S.set j u) Cd v m xs (wr.setCell ⟨w.heap.size, j, none⟩ u) := by
  have hs := h.st.stored j u
  have h1 := h.h1; have h2 := h.h2
  refine ⟨hs.1, h.cd.kept hs.2 (.inr ?_), h.tk.kept hs.2 (own_ne h.tk _ (by omega)), h.h1, h.h2, by simpa using h.sz, h.bl.setCell (Nat.le_refl _) _⟩
  simp [Value.ownBlock]; omega
theorem LInv.alloc (h : LInv w B1 B2 n S Cd v m xs wr) (o : Obj) : LInv w B1 B2 n S Cd v m xs (wr.alloc o) := by
  have := h.sz; have h1 := h.h1; have h2 := h.h2
  exact ⟨h.st.alloc o, h.cd.alloc o, h.tk.alloc o, h.h1, h.h2, by simp; omega, h.bl.alloc (by omega) _⟩
theorem LInv.grown (h : LInv w B1 B2 n S Cd v m xs wr) {w1 : World} {v' : Value} {m' : Nat} {xs' : List Value} (hg : wr.grownBy w1 v.ownBlock) (ho : w1.ownsRow B2 32 4 v' m' xs') : LInv w B1 B2 n S Cd v' m' xs' w1 := by
  have h1 := h.h1; have h2 := h.h2; have := h.sz; have := hg.size
  refine ⟨h.st.kept hg (.inr ?_), h.cd.kept hg (.inr ?_), ho, h.h1, h.h2, by omega, h.bl.grown hg (by omega) (fun k hk => by have := (h.tk.lt k hk).1; omega)⟩
  · intro e; have := (h.tk.lt _ e.symm).1; dsimp only at this; omega
  · intro e; have := (h.tk.lt _ e.symm).1; dsimp only at this; omega
theorem own_slice {w : World} {base e size : Nat} {v : Value} {n : Nat} {xs : List Value} (h : w.ownsRow base e size v n xs) : ∃ ao cap, v = .slice ao n cap := by
  rcases h.2 with ⟨h', h0⟩ | ⟨g, cap, cur, h', _⟩
  · subst h0; exact ⟨none, 0, h'⟩
  · exact ⟨_, _, h'⟩
end

/-- tokens appended to the law's own tokens -/
theorem wp_app {w : World} {ops : Array Oper} {rest : List Oper} {o : Oper} {a : Act} {Q : Exit → Act → World → Prop} (hgd : o.guard = none) (s x : Operand)
    (ho : o.op = .call { callee := .builtin .append, args := #[s, x], argTypes := #[28, 28] })
    (w0 : World) (B1 B2 n : Nat) (S Cd : List Value) (v : Value) (q : Nat) (l : List (Int × ByteArray)) (hs : a.eval s = v) (hI : LInv w0 B1 B2 n S Cd v q (cellsT l) w)
    (g m : Nat) (news : List (Int × ByteArray)) (hx : a.eval x = .slice (some ⟨g, 0, none⟩) m m) (hm : news.length = m) (hblk : w.heap[g]? = some (.cells (cellsT news).toArray 32 (0, 0)))
    (hn : q + m ≤ 5000)
    (h : ∀ v' w', LInv w0 B1 B2 n S Cd v' (q + m) (cellsT (l ++ news)) w' → wpList Yba.prog ops Q rest (a.put o.dst v') w') : wpList Yba.prog ops Q (o :: rest) a w := by
  obtain ⟨i0, hi0, hz0, hz1, hz2⟩ := info_parts info32
  refine wpList_append_own w hgd s x 28 ho B2 32 i0 _ 4 40 Yba.underlying28 hi0 hz0 hz1 hz2 rfl (by decide) v q (cellsT l) hs hI.tk ⟨g, 0, none⟩ m m (cellsT news) hx (by rw [cellsT_length, hm]) ?_ (cellsT_one _) (by unfold maxLen; omega) (by omega) hI.sz ?_
  · intro j u hj
    have hj' : j < (cellsT news).length := by
      rcases Nat.lt_or_ge j (cellsT news).length with h | h
      · exact h
      · rw [List.getElem?_eq_none h] at hj; cases hj
    rw [add_plain, Nat.zero_add, cell_of_row w g j _ 32 (0, 0) hblk]
    simpa using hj
  · intro v' w' hown hg _
    refine h v' w' (hI.grown hg ?_)
    rw [cellsT_append]; exact hown

theorem LInv.len {w : World} {B1 B2 n : Nat} {S Cd : List Value} {v : Value} {q : Nat} {l : List (Int × ByteArray)} {wr : World} (h : LInv w B1 B2 n S Cd v q (cellsT l) wr) : q = l.length := by
  have := h.tk.1
  rw [cellsT_length] at this
  omega
end Go.Proofs.Ybulkceag
