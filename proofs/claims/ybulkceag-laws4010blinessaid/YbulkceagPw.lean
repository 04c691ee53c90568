import Derived.Test.YbulkceagLn
namespace Go.Proofs.Ybulkceag

/-- all tokens -/
def TA (zs : List Int) (n : Nat) : List (Int × ByteArray) := T zs n ++ [(0, ⟨#[]⟩)]
def KA (zs : List Int) (n : Nat) (j : Nat) : Int := ((TA zs n).getD j (0, ⟨#[]⟩)).1
def XA (zs : List Int) (n : Nat) (j : Nat) : ByteArray := ((TA zs n).getD j (0, ⟨#[]⟩)).2

/-- where the law expects the parser, from line j on -/
def wn (zs : List Int) (n : Nat) : Nat → Nat → Int → Bool → Nat
  | 0, _, _, _ => (T zs n).length
  | f + 1, j, d, s =>
    if cod zs j = 4 then wn zs n f (j + 1) d s
    else if s = true ∨ cod zs j = 3 then (T zs j).length
    else if cod zs j = 1 then (if d = 0 then wn zs n f (j + 1) d true else wn zs n f (j + 1) (d - 1) s)
    else if cod zs j = 0 then wn zs n f (j + 1) (d + 1) s
    else wn zs n f (j + 1) d s

theorem TA_len (zs : List Int) (n : Nat) : (TA zs n).length = (T zs n).length + 1 := by unfold TA; simp
theorem KA_last (zs : List Int) (n : Nat) : KA zs n ((T zs n).length + 1 - 1) = 0 := by
  unfold KA TA; simp

theorem wn_end {zs : List Int} {n j : Nat} {d : Int} {s : Bool} (h : ¬ j < n) : wn zs n (n - j) j d s = (T zs n).length := by
  rw [show n - j = 0 by omega]; rfl
theorem wn_blank {zs : List Int} {n j : Nat} {d : Int} {s : Bool} (h : j < n) (hc : cod zs j = 4) : wn zs n (n - j) j d s = wn zs n (n - (j + 1)) (j + 1) d s := by
  obtain ⟨f, hf⟩ : ∃ f, n - j = f + 1 := ⟨n - j - 1, by omega⟩
  rw [hf, show n - (j + 1) = f by omega, wn, if_pos hc]
theorem wn_stop {zs : List Int} {n j : Nat} {d : Int} {s : Bool} (h : j < n) (hc : cod zs j ≠ 4) (hs : s = true ∨ cod zs j = 3) : wn zs n (n - j) j d s = (T zs j).length := by
  obtain ⟨f, hf⟩ : ∃ f, n - j = f + 1 := ⟨n - j - 1, by omega⟩
  rw [hf, wn, if_neg hc, if_pos hs]
theorem wn_close {zs : List Int} {n j : Nat} {d : Int} (h : j < n) (hc : cod zs j = 1) (hd : d = 0) : wn zs n (n - j) j d false = wn zs n (n - (j + 1)) (j + 1) d true := by
  obtain ⟨f, hf⟩ : ∃ f, n - j = f + 1 := ⟨n - j - 1, by omega⟩
  rw [hf, show n - (j + 1) = f by omega, wn, if_neg (by omega), if_neg (by simp; omega), if_pos hc, if_pos hd]
theorem wn_less {zs : List Int} {n j : Nat} {d : Int} (h : j < n) (hc : cod zs j = 1) (hd : d ≠ 0) : wn zs n (n - j) j d false = wn zs n (n - (j + 1)) (j + 1) (d - 1) false := by
  obtain ⟨f, hf⟩ : ∃ f, n - j = f + 1 := ⟨n - j - 1, by omega⟩
  rw [hf, show n - (j + 1) = f by omega, wn, if_neg (by omega), if_neg (by simp; omega), if_pos hc, if_neg hd]
theorem wn_more {zs : List Int} {n j : Nat} {d : Int} (h : j < n) (hc : cod zs j = 0) : wn zs n (n - j) j d false = wn zs n (n - (j + 1)) (j + 1) (d + 1) false := by
  obtain ⟨f, hf⟩ : ∃ f, n - j = f + 1 := ⟨n - j - 1, by omega⟩
  rw [hf, show n - (j + 1) = f by omega, wn, if_neg (by omega), if_neg (by simp; omega), if_neg (by omega), if_pos hc]
theorem wn_same {zs : List Int} {n j : Nat} {d : Int} (h : j < n) (hc : cod zs j = 2 ∨ cod zs j = 5) : wn zs n (n - j) j d false = wn zs n (n - (j + 1)) (j + 1) d false := by
  obtain ⟨f, hf⟩ : ∃ f, n - j = f + 1 := ⟨n - j - 1, by omega⟩
  rw [hf, show n - (j + 1) = f by omega, wn, if_neg (by omega), if_neg (by simp; omega), if_neg (by omega), if_neg (by omega)]

/-- the parser at the law's tokens, read off the law's memory -/
theorem par_of {w we : World} {B1 B2 n g cap : Nat} {S Cd : List Value} {zs : List Int} (h : LInv w B1 B2 n S Cd (.slice (some ⟨g, 0, none⟩) ((T zs n).length + 1) cap) ((T zs n).length + 1) (cellsT (TA zs n)) we) :
    Par we.heap.size g ((T zs n).length + 1) cap (KA zs n) (XA zs n) (fun _ => 0) (fun _ => 0) 0 (we.alloc (Obj.cells #[.string ⟨#[100]⟩, .slice (some ⟨g, 0, none⟩) ((T zs n).length + 1) cap, .int .i64 0, .slice none 0 0, .slice none 0 0, .map none, .int .i64 0, .int .i64 0] 39)) := by
  have hg := (h.tk.lt _ rfl).2
  dsimp only at hg
  have key : ∀ j o, j < (T zs n).length + 1 → o < 4 → (we.alloc (Obj.cells #[.string ⟨#[100]⟩, .slice (some ⟨g, 0, none⟩) ((T zs n).length + 1) cap, .int .i64 0, .slice none 0 0, .slice none 0 0, .map none, .int .i64 0, .int .i64 0] 39)).cell? ⟨g, j * 4 + o, none⟩ = (tkc ((TA zs n).getD j (0, ⟨#[]⟩)))[o]? := by
    intro j o hj ho
    rw [World.cell?_alloc_lt _ _ _ hg, h.tk.cellAt _ (by omega), cellsT_at _ _ _ (by rw [TA_len]; exact hj) ho]
  refine ⟨?_, ?_, ?_, ?_, ?_, fun j hj => ?_, fun j hj => ?_, fun j hj => ?_, fun j hj => ?_, by omega⟩
  · simp
  · simp
  · simp
  · simp
  · simp
  · exact (key j 0 hj (by omega)).trans rfl
  · rw [key j 1 hj (by omega)]; rfl
  · rw [key j 2 hj (by omega)]; rfl
  · rw [key j 3 hj (by omega)]; rfl

theorem own_some {w : World} {base e size : Nat} {v : Value} {n : Nat} {xs : List Value} (h : w.ownsRow base e size v (n + 1) xs) : ∃ g cap, v = .slice (some ⟨g, 0, none⟩) (n + 1) cap := by
  rcases h.2 with ⟨_, h0⟩ | ⟨g, cap, cur, h', _⟩
  · omega
  · exact ⟨_, _, h'⟩
end Go.Proofs.Ybulkceag
