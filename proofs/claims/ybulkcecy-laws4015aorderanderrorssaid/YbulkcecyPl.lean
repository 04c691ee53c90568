import Derived.Test.YbulkcecyRows
import Derived.Maps.OwnSet
namespace Go.Proofs.Ybulkcecy
open Go.Maps

/-- the key that a string is -/
def key (s : ByteArray) : Lit := .string s.data.toList
theorem key_inj {a b : ByteArray} (h : key a = key b) : a = b := by
  unfold key at h
  have h1 : a.data.toList = b.data.toList := by injection h
  have h2 : a.data = b.data := Array.toList_inj.1 h1
  cases a; cases b; simp_all

theorem key_lit (s : ByteArray) : WideAt.IsKeyLit (key s) := by
  unfold key; simp [WideAt.IsKeyLit]

/-- the map of places after k names -/
def C (S : Nat → ByteArray) : Nat → DataW Unit
  | 0 => .map []
  | k + 1 => (C S k).put (key (S k)) (.lit (.int .i64 k))

theorem C_map (S : Nat → ByteArray) (k : Nat) : IsMap (C S k) := by
  induction k with
  | zero => exact isMap_empty
  | succ k ih => exact ih.put _ _
theorem C_tidy (S : Nat → ByteArray) (k : Nat) : Tidy (C S k) := by
  induction k with
  | zero => exact tidy_empty
  | succ k ih => exact ih.put (key_lit _) _

/-- the last of the first k places at which the i-th name stands (i itself before any) -/
def lst (S : Nat → ByteArray) (i : Nat) : Nat → Nat
  | 0 => i
  | k + 1 => if S k = S i then k else lst S i k
/-- is i the first place of its name, as far as the first k places tell? -/
def fst (S : Nat → ByteArray) (i : Nat) : Nat → Bool
  | 0 => true
  | k + 1 => if S k = S i ∧ k < i then false else fst S i k
/-- how many of the first k names are new -/
def dst (S : Nat → ByteArray) (n : Nat) : Nat → Nat
  | 0 => 0
  | k + 1 => if fst S k n then dst S n k + 1 else dst S n k

theorem C_at (S : Nat → ByteArray) (i k : Nat) (h : ∃ j, j < k ∧ S j = S i) (z : DataW Unit) : (C S k).atKey (key (S i)) z = .lit (.int .i64 (lst S i k)) ∧ Maps.has (C S k) (key (S i)) = true := by
  induction k with
  | zero => obtain ⟨j, hj, _⟩ := h; omega
  | succ k ih =>
    simp only [C, lst]
    by_cases e : S k = S i
    · rw [if_pos e, e]
      exact ⟨atKey_put_same (C_map S k) (key_lit _) _ _, has_put_same (C_map S k) (key_lit _) _⟩
    · have hne : key (S i) ≠ key (S k) := fun h => e (key_inj h).symm
      have hex : ∃ j, j < k ∧ S j = S i := by
        obtain ⟨j, hj, hs⟩ := h
        by_cases hjk : j = k
        · subst hjk; exact absurd hs e
        · exact ⟨j, by omega, hs⟩
      rw [if_neg e, atKey_put_other hne, has_put_other hne]
      exact ih hex
theorem C_hasnt (S : Nat → ByteArray) (i k : Nat) (h : ∀ j, j < k → S j ≠ S i) : Maps.has (C S k) (key (S i)) = false := by
  induction k with
  | zero => rfl
  | succ k ih =>
    simp only [C]
    have hne : key (S i) ≠ key (S k) := fun e => h k (by omega) (key_inj e).symm
    rw [has_put_other hne]
    exact ih (fun j hj => h j (by omega))

theorem fst_true (S : Nat → ByteArray) (i k : Nat) (h : ∀ j, j < i → S j ≠ S i) : fst S i k = true := by
  induction k with
  | zero => rfl
  | succ k ih =>
    simp only [fst]
    rw [if_neg (fun e => h k e.2 e.1), ih]
theorem fst_false (S : Nat → ByteArray) (i k : Nat) (h : ∃ j, j < i ∧ j < k ∧ S j = S i) : fst S i k = false := by
  induction k with
  | zero => obtain ⟨j, _, hj, _⟩ := h; omega
  | succ k ih =>
    simp only [fst]
    by_cases e : S k = S i ∧ k < i
    · rw [if_pos e]
    · rw [if_neg e]
      obtain ⟨j, hj, hk, hs⟩ := h
      refine ih ⟨j, hj, ?_, hs⟩
      by_cases hjk : j = k
      · subst hjk; exact absurd ⟨hs, hj⟩ e
      · omega

theorem C_size (S : Nat → ByteArray) (n k : Nat) (h : k ≤ n) : Maps.size (C S k) = dst S n k := by
  induction k with
  | zero => rfl
  | succ k ih =>
    simp only [C, dst]
    rw [size_put (C_tidy S k), ih (by omega)]
    by_cases he : ∃ j, j < k ∧ S j = S k
    · rw [(C_at S k k he (.map [])).2, if_pos rfl]
      obtain ⟨j, hj, hs⟩ := he
      rw [fst_false S k n ⟨j, hj, by omega, hs⟩]; rfl
    · have hno : ∀ j, j < k → S j ≠ S k := fun j hj hs => he ⟨j, hj, hs⟩
      rw [C_hasnt S k k hno, fst_true S k n hno]; rfl
theorem dst_le (S : Nat → ByteArray) (n k : Nat) : dst S n k ≤ k := by
  induction k with
  | zero => exact Nat.le_refl _
  | succ k ih => simp only [dst]; split <;> omega
theorem lst_le (S : Nat → ByteArray) (i k n : Nat) (hi : i < n) (hk : k ≤ n) : lst S i k < n := by
  induction k with
  | zero => exact hi
  | succ k ih => simp only [lst]; split
                 · omega
                 · exact ih (by omega)
end Go.Proofs.Ybulkcecy
