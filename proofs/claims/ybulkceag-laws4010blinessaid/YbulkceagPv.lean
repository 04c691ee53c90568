import Derived.Test.YbulkceagPw
namespace Go.Proofs.Ybulkceag

/-- the tokens of the lines from j on, f of them -/
def Tf (zs : List Int) : Nat → Nat → List (Int × ByteArray)
  | 0, _ => [(0, ⟨#[]⟩)]
  | f + 1, j => ln (cod zs j) ++ Tf zs f (j + 1)

theorem T_Tf (zs : List Int) (f j : Nat) : T zs j ++ Tf zs f j = TA zs (j + f) := by
  induction f generalizing j with
  | zero => rfl
  | succ f ih =>
    rw [Tf, ← List.append_assoc, ← T, ih (j + 1)]
    congr 1; omega

theorem TA_split (zs : List Int) (n j : Nat) (h : j < n) : TA zs n = T zs j ++ (ln (cod zs j) ++ Tf zs (n - (j + 1)) (j + 1)) := by
  have := T_Tf zs (n - j) j
  rw [show j + (n - j) = n by omega] at this
  rw [← this, show n - j = (n - (j + 1)) + 1 by omega]
  rfl

theorem getD_mid (a b c : List (Int × ByteArray)) (o : Nat) (h : o < b.length) (z : Int × ByteArray) : (a ++ (b ++ c)).getD (a.length + o) z = b.getD o z := by
  simp only [List.getD]
  rw [List.getElem?_append_right (by omega), show a.length + o - a.length = o by omega, List.getElem?_append_left h]

theorem K_at (zs : List Int) (n j o : Nat) (h : j < n) (ho : o < (ln (cod zs j)).length) : KA zs n ((T zs j).length + o) = ((ln (cod zs j)).getD o (0, ⟨#[]⟩)).1 := by
  unfold KA; rw [TA_split zs n j h, getD_mid _ _ _ _ ho]
theorem X_at (zs : List Int) (n j o : Nat) (h : j < n) (ho : o < (ln (cod zs j)).length) : XA zs n ((T zs j).length + o) = ((ln (cod zs j)).getD o (0, ⟨#[]⟩)).2 := by
  unfold XA; rw [TA_split zs n j h, getD_mid _ _ _ _ ho]
theorem K_end (zs : List Int) (n : Nat) : KA zs n (T zs n).length = 0 := KA_last zs n
theorem T_succ_len (zs : List Int) (j : Nat) : (T zs (j + 1)).length = (T zs j).length + (ln (cod zs j)).length := by rw [T, List.length_append]
theorem T_le (zs : List Int) (j n : Nat) (h : j ≤ n) : (T zs j).length ≤ (T zs n).length := by
  obtain ⟨d, rfl⟩ : ∃ d, n = j + d := ⟨n - j, by omega⟩
  induction d with
  | zero => exact Nat.le_refl _
  | succ d ih => have := ih (by omega); have := T_succ_len zs (j + d); rw [show j + (d + 1) = (j + d) + 1 by omega]; omega
theorem T_lt (zs : List Int) (j n : Nat) (h : j < n) : (T zs j).length + (ln (cod zs j)).length ≤ (T zs n).length := by
  have := T_le zs (j + 1) n (by omega); rw [T_succ_len] at this; exact this

/-- the first line from j on that is not blank (f: how many are left) -/
def nx (zs : List Int) : Nat → Nat → Nat
  | 0, j => j
  | f + 1, j => if cod zs j = 4 then nx zs f (j + 1) else j
theorem nx_b (zs : List Int) (f j : Nat) : j ≤ nx zs f j ∧ nx zs f j ≤ j + f ∧ (nx zs f j < j + f → cod zs (nx zs f j) ≠ 4) := by
  induction f generalizing j with
  | zero => simp only [nx]; omega
  | succ f ih =>
    simp only [nx]
    by_cases h : cod zs j = 4
    · rw [if_pos h]; have := ih (j + 1); omega
    · rw [if_neg h]; exact ⟨Nat.le_refl _, by omega, fun _ => h⟩

theorem ln4 : ln 4 = [(1, ⟨#[]⟩)] := rfl

/-- the ends of lines are skipped up to a line that is not blank -/
theorem nbl_nx (zs : List Int) (n f j : Nat) (h : j + f = n) : nbl (KA zs n) ((T zs n).length + 1 - (T zs j).length) (T zs j).length = (T zs (nx zs f j)).length := by
  induction f generalizing j with
  | zero =>
    have : j = n := by omega
    subst this
    rw [nbl_stop (by rw [K_end]; omega)]; rfl
  | succ f ih =>
    have hj : j < n := by omega
    have hT := T_lt zs j n hj
    simp only [nx]
    by_cases hc : cod zs j = 4
    · rw [if_pos hc, ← ih (j + 1) (by omega)]
      have hl : (ln (cod zs j)).length = 1 := by rw [hc]; rfl
      have hk := K_at zs n j 0 hj (by omega)
      rw [Nat.add_zero, hc] at hk
      rw [nbl_step (by omega) hk, T_succ_len, hl]
    · rw [if_neg hc]
      have hl := ln_len (cod zs j)
      have hk := K_at zs n j 0 hj (by omega)
      rw [Nat.add_zero] at hk
      refine nbl_stop ?_
      rw [hk]
      have hb : cod zs j = 0 ∨ cod zs j = 1 ∨ cod zs j = 2 ∨ cod zs j = 3 ∨ cod zs j = 5 := by unfold cod at *; omega
      rcases hb with e | e | e | e | e <;> rw [e] <;> decide

theorem wn_nx (zs : List Int) (n f j : Nat) (h : j + f = n) (d : Int) (s : Bool) : wn zs n f j d s = wn zs n (n - nx zs f j) (nx zs f j) d s := by
  induction f generalizing j with
  | zero => simp only [nx]; rw [show n - j = 0 by omega]
  | succ f ih =>
    simp only [nx]
    by_cases hc : cod zs j = 4
    · rw [if_pos hc, ← ih (j + 1) (by omega), wn, if_pos hc]
    · rw [if_neg hc, show n - j = f + 1 by omega]

/-- the end of line j: it is the line's last token; behind it, the next line that is not blank -/
theorem line_end (zs : List Int) (n j : Nat) (hj : j < n) :
    eol (KA zs n) ((T zs n).length + 1 - (T zs j).length) (T zs j).length = (T zs j).length + ((ln (cod zs j)).length - 1) ∧
    nbl (KA zs n) ((T zs n).length + 1 - ((T zs j).length + ((ln (cod zs j)).length - 1))) ((T zs j).length + ((ln (cod zs j)).length - 1)) = (T zs (nx zs (n - (j + 1)) (j + 1))).length := by
  have hT := T_lt zs j n hj
  have hl := ln_len (cod zs j)
  have hk := fun o => K_at zs n j o hj
  have hb : cod zs j = 0 ∨ cod zs j = 1 ∨ cod zs j = 2 ∨ cod zs j = 3 ∨ cod zs j = 4 ∨ cod zs j = 5 := by unfold cod; omega
  have hs := T_succ_len zs j
  have hnb := nbl_nx zs n (n - (j + 1)) (j + 1) (by omega)
  generalize (T zs j).length = i at *
  have last : KA zs n (i + ((ln (cod zs j)).length - 1)) = 1 := by
    rw [hk _ (by omega)]
    rcases hb with e | e | e | e | e | e <;> rw [e] <;> decide
  refine ⟨?_, ?_⟩
  · rcases hb with e | e | e | e | e | e
    · have h0 := hk 0 (by omega); have h1 := hk 1 (by rw [e]; decide)
      rw [e] at h0 h1 last hT ⊢
      rw [Nat.add_zero] at h0
      have h0' : KA zs n i = 2 := h0
      have h1' : KA zs n (i + 1) = 4 := h1
      have hT' : i + 3 ≤ (T zs n).length := hT
      rw [eol_step (by omega) (by omega) (by omega), eol_step (by omega) (by omega) (by omega)]
      exact eol_stop (.inl last)
    · have h0 := hk 0 (by omega)
      rw [e] at h0 last hT ⊢
      rw [Nat.add_zero] at h0
      have h0' : KA zs n i = 5 := h0
      have hT' : i + 2 ≤ (T zs n).length := hT
      rw [eol_step (by omega) (by omega) (by omega)]
      exact eol_stop (.inl last)
    · have h0 := hk 0 (by omega); have h1 := hk 1 (by rw [e]; decide)
      rw [e] at h0 h1 last hT ⊢
      rw [Nat.add_zero] at h0
      have h0' : KA zs n i = 2 := h0
      have h1' : KA zs n (i + 1) = 2 := h1
      have hT' : i + 3 ≤ (T zs n).length := hT
      rw [eol_step (by omega) (by omega) (by omega), eol_step (by omega) (by omega) (by omega)]
      exact eol_stop (.inl last)
    · have h0 := hk 0 (by omega); have h1 := hk 1 (by rw [e]; decide); have h2 := hk 2 (by rw [e]; decide)
      rw [e] at h0 h1 h2 last hT ⊢
      rw [Nat.add_zero] at h0
      have h0' : KA zs n i = 2 := h0
      have h1' : KA zs n (i + 1) = 2 := h1
      have h2' : KA zs n (i + 1 + 1) = 4 := h2
      have hT' : i + 4 ≤ (T zs n).length := hT
      rw [eol_step (by omega) (by omega) (by omega), eol_step (by omega) (by omega) (by omega), eol_step (by omega) (by omega) (by omega)]
      exact eol_stop (.inl last)
    · rw [e] at last ⊢
      exact eol_stop (.inl last)
    · have h0 := hk 0 (by omega); have h1 := hk 1 (by rw [e]; decide)
      rw [e] at h0 h1 last hT ⊢
      rw [Nat.add_zero] at h0
      have h0' : KA zs n i = 2 := h0
      have h1' : KA zs n (i + 1) = 6 := h1
      have hT' : i + 3 ≤ (T zs n).length := hT
      rw [eol_step (by omega) (by omega) (by omega), eol_step (by omega) (by omega) (by omega)]
      exact eol_stop (.inl last)
  · rw [nbl_step (by omega) last, ← hnb, hs, show i + ((ln (cod zs j)).length - 1) + 1 = i + (ln (cod zs j)).length by omega]

theorem tl_x : ((⟨#[120]⟩ : ByteArray).toList == [115, 116, 114, 117, 99, 116]) = false := by decide +kernel
theorem tl_s : ((⟨#[115, 116, 114, 117, 99, 116]⟩ : ByteArray).toList == [115, 116, 114, 117, 99, 116]) = true := by decide +kernel

theorem lines_main (zs : List Int) (n : Nat) : ∀ m j f d, n - j = m → j ≤ n → n - j + 1 ≤ f → sd (KA zs n) (XA zs n) ((T zs n).length + 1) f (T zs j).length d = wn zs n (n - j) j d false := by
  intro m
  induction m using Nat.strongRecOn with
  | _ m ih =>
    intro j f d hm hj hf
    by_cases hjn : j = n
    · subst hjn
      rw [sd_end (K_end zs j), show j - j = 0 by omega]; rfl
    · have hlt : j < n := by omega
      obtain ⟨f, rfl⟩ : ∃ f', f = f' + 1 := ⟨f - 1, by omega⟩
      obtain ⟨he, hb⟩ := line_end zs n j hlt
      have hl := ln_len (cod zs j)
      have hk := fun o => K_at zs n j o hlt
      have hx := fun o => X_at zs n j o hlt
      have h0 := hk 0 (by omega)
      have x0 := hx 0 (by omega)
      rw [Nat.add_zero] at h0 x0
      obtain ⟨b1, b2, b3⟩ := nx_b zs (n - (j + 1)) (j + 1)
      have hw := fun d s => wn_nx zs n (n - (j + 1)) (j + 1) (by omega) d s
      generalize hj' : nx zs (n - (j + 1)) (j + 1) = j' at *
      have IH := fun d => ih (n - j') (by omega) j' f d rfl (by omega) (by omega)
      have hc : cod zs j = 0 ∨ cod zs j = 1 ∨ cod zs j = 2 ∨ cod zs j = 3 ∨ cod zs j = 4 ∨ cod zs j = 5 := by unfold cod; omega
      rcases hc with e | e | e | e | e | e
      · -- x {
        have h1 := hk 1 (by rw [e]; decide)
        rw [e] at h0 x0 h1 he hb
        have h0' : KA zs n (T zs j).length = 2 := h0
        have x0' : XA zs n (T zs j).length = ⟨#[120]⟩ := x0
        have h1' : KA zs n ((T zs j).length + 1) = 4 := h1
        have hst : structB (KA zs n) (XA zs n) (T zs j).length = false := by unfold structB; rw [x0', tl_x, Bool.and_false, Bool.false_and]
        have hbr : braceB (KA zs n) (T zs j).length ((T zs j).length + ((ln 0).length - 1)) = true := by
          unfold braceB
          rw [show (T zs j).length + ((ln 0).length - 1) - 1 = (T zs j).length + 1 from rfl, h1', show (ln 0).length - 1 = 2 from rfl]
          simp
        rw [sd_more (by rw [h0']; omega) hst he hb (by rw [h0']; omega) hbr, IH, wn_more hlt e, hw]
      · -- }
        rw [e] at h0 x0 he hb
        have h0' : KA zs n (T zs j).length = 5 := h0
        have hst : structB (KA zs n) (XA zs n) (T zs j).length = false := by unfold structB; rw [h0']; rfl
        by_cases hd : d = 0
        · rw [sd_close (by rw [h0']; omega) hst he hb h0' hd, wn_close hlt e hd, hw]
          by_cases hn' : j' < n
          · rw [wn_stop hn' (b3 (by omega)) (.inl rfl)]
          · rw [wn_end hn', show j' = n by omega]
        · rw [sd_less (by rw [h0']; omega) hst he hb h0' hd, IH, wn_less hlt e hd, hw]
      · -- x y
        have h1 := hk 1 (by rw [e]; decide)
        rw [e] at h0 x0 h1 he hb
        have h0' : KA zs n (T zs j).length = 2 := h0
        have x0' : XA zs n (T zs j).length = ⟨#[120]⟩ := x0
        have h1' : KA zs n ((T zs j).length + 1) = 2 := h1
        have hst : structB (KA zs n) (XA zs n) (T zs j).length = false := by unfold structB; rw [x0', tl_x, Bool.and_false, Bool.false_and]
        have hbr : braceB (KA zs n) (T zs j).length ((T zs j).length + ((ln 2).length - 1)) = false := by
          unfold braceB
          rw [show (T zs j).length + ((ln 2).length - 1) - 1 = (T zs j).length + 1 from rfl, h1']
          simp
        rw [sd_same (by rw [h0']; omega) hst he hb (by rw [h0']; omega) hbr, IH, wn_same hlt (.inl e), hw]
      · -- struct S {
        have h1 := hk 1 (by rw [e]; decide)
        rw [e] at h0 x0 h1
        have h0' : KA zs n (T zs j).length = 2 := h0
        have x0' : XA zs n (T zs j).length = ⟨#[115, 116, 114, 117, 99, 116]⟩ := x0
        have h1' : KA zs n ((T zs j).length + 1) = 2 := h1
        have hst : structB (KA zs n) (XA zs n) (T zs j).length = true := by unfold structB; rw [x0', h0', h1', tl_s]; decide
        rw [sd_struct hst, wn_stop hlt (by omega) (.inr e)]
      · -- a blank line
        rw [e] at h0 x0 he hb
        have h0' : KA zs n (T zs j).length = 1 := h0
        have hst : structB (KA zs n) (XA zs n) (T zs j).length = false := by unfold structB; rw [h0']; rfl
        have hbr : braceB (KA zs n) (T zs j).length ((T zs j).length + ((ln 4).length - 1)) = false := by
          unfold braceB
          rw [show (ln 4).length - 1 = 0 from rfl]
          simp
        rw [sd_same (by rw [h0']; omega) hst he hb (by rw [h0']; omega) hbr, IH, wn_blank hlt e, hw]
      · -- struct :
        have h1 := hk 1 (by rw [e]; decide)
        rw [e] at h0 x0 h1 he hb
        have h0' : KA zs n (T zs j).length = 2 := h0
        have h1' : KA zs n ((T zs j).length + 1) = 6 := h1
        have hst : structB (KA zs n) (XA zs n) (T zs j).length = false := by unfold structB; rw [h1']; simp
        have hbr : braceB (KA zs n) (T zs j).length ((T zs j).length + ((ln 5).length - 1)) = false := by
          unfold braceB
          rw [show (T zs j).length + ((ln 5).length - 1) - 1 = (T zs j).length + 1 from rfl, h1']
          simp
        rw [sd_same (by rw [h0']; omega) hst he hb (by rw [h0']; omega) hbr, IH, wn_same hlt (.inr e), hw]

/-- where skipDecl stands is where the law expects it -/
theorem plainL (zs : List Int) (n : Nat) : sd (KA zs n) (XA zs n) ((T zs n).length + 1) ((T zs n).length + 1 + 1) 0 0 = wn zs n n 0 0 false := by
  have h := lines_main zs n n 0 ((T zs n).length + 1 + 1) 0 (by omega) (by omega) (by have := T_len zs n; omega)
  rw [show n - 0 = n by omega] at h
  exact h
end Go.Proofs.Ybulkceag
