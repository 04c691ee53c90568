/-
  The plain functions: what the parser's helpers compute, no Go in sight.
-/
namespace Go.Proofs.Ybulkceag

/-- the end of the line -/
def eol (K : Nat → Int) : Nat → Nat → Nat
  | 0, i => i
  | f + 1, i => if K i = 1 ∨ K i = 0 then i else eol K f (i + 1)
/-- past the ends of lines -/
def nbl (K : Nat → Int) : Nat → Nat → Nat
  | 0, i => i
  | f + 1, i => if K i = 1 then nbl K f (i + 1) else i

theorem eol_stop {K : Nat → Int} {f i : Nat} (h : K i = 1 ∨ K i = 0) : eol K f i = i := by
  cases f with
  | zero => rfl
  | succ f => simp only [eol]; rw [if_pos h]
theorem eol_step {K : Nat → Int} {N i : Nat} (hi : i < N) (h1 : K i ≠ 1) (h0 : K i ≠ 0) : eol K (N - i) i = eol K (N - (i + 1)) (i + 1) := by
  obtain ⟨f, hf⟩ : ∃ f, N - i = f + 1 := ⟨N - i - 1, by omega⟩
  rw [hf]
  simp only [eol]
  rw [if_neg (by omega), show N - (i + 1) = f by omega]
theorem nbl_stop {K : Nat → Int} {f i : Nat} (h : K i ≠ 1) : nbl K f i = i := by
  cases f with
  | zero => rfl
  | succ f => simp only [nbl]; rw [if_neg h]
theorem nbl_step {K : Nat → Int} {N i : Nat} (hi : i < N) (h1 : K i = 1) : nbl K (N - i) i = nbl K (N - (i + 1)) (i + 1) := by
  obtain ⟨f, hf⟩ : ∃ f, N - i = f + 1 := ⟨N - i - 1, by omega⟩
  rw [hf]
  simp only [nbl]
  rw [if_pos h1, show N - (i + 1) = f by omega]

theorem eol_ge (K : Nat → Int) (f i : Nat) : i ≤ eol K f i := by
  induction f generalizing i with
  | zero => exact Nat.le_refl _
  | succ f ih =>
    simp only [eol]
    split
    · exact Nat.le_refl _
    · have := ih (i + 1); omega
theorem nbl_ge (K : Nat → Int) (f i : Nat) : i ≤ nbl K f i := by
  induction f generalizing i with
  | zero => exact Nat.le_refl _
  | succ f ih =>
    simp only [nbl]
    split
    · have := ih (i + 1); omega
    · exact Nat.le_refl _
/-- the last token ends the file: the end of the line is there -/
theorem eol_lt {K : Nat → Int} {N : Nat} (hE : K (N - 1) = 0) (i : Nat) (hi : i < N) : eol K (N - i) i < N ∧ (K (eol K (N - i) i) = 1 ∨ K (eol K (N - i) i) = 0) := by
  obtain ⟨f, hf⟩ : ∃ f, N - i = f + 1 := ⟨N - i - 1, by omega⟩
  induction f generalizing i with
  | zero =>
    have : i = N - 1 := by omega
    rw [eol_stop (by rw [this]; exact .inr hE)]
    exact ⟨hi, by rw [this]; exact .inr hE⟩
  | succ f ih =>
    by_cases h : K i = 1 ∨ K i = 0
    · rw [eol_stop h]; exact ⟨hi, h⟩
    · rw [eol_step hi (fun e => h (.inl e)) (fun e => h (.inr e))]
      exact ih (i + 1) (by omega) (by omega)
theorem nbl_lt {K : Nat → Int} {N : Nat} (hE : K (N - 1) = 0) (i : Nat) (hi : i < N) : nbl K (N - i) i < N ∧ K (nbl K (N - i) i) ≠ 1 := by
  obtain ⟨f, hf⟩ : ∃ f, N - i = f + 1 := ⟨N - i - 1, by omega⟩
  induction f generalizing i with
  | zero =>
    have : i = N - 1 := by omega
    have h : K i ≠ 1 := by rw [this, hE]; omega
    rw [nbl_stop h]
    exact ⟨hi, h⟩
  | succ f ih =>
    by_cases h : K i = 1
    · rw [nbl_step hi h]
      exact ih (i + 1) (by omega) (by omega)
    · rw [nbl_stop h]; exact ⟨hi, h⟩

def braceB (K : Nat → Int) (i e : Nat) : Bool := decide (i < e ∧ K (e - 1) = 4)
def structB (K : Nat → Int) (X : Nat → ByteArray) (i : Nat) : Bool := decide (K i = 2) && ((X i).toList == [115, 116, 114, 117, 99, 116]) && (K (i + 1) != 6)

/-- where skipDecl comes to stand: at most f lines -/
def sd (K : Nat → Int) (X : Nat → ByteArray) (N : Nat) : Nat → Nat → Int → Nat
  | 0, i, _ => i
  | f + 1, i, d =>
    if K i = 0 then i
    else if structB K X i then i
    else
      let e := eol K (N - i) i
      let b := nbl K (N - e) e
      if K i = 5 then (if d = 0 then b else sd K X N f b (d - 1))
      else if braceB K i e then sd K X N f b (d + 1) else sd K X N f b d
end Go.Proofs.Ybulkceag
