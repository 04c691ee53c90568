import Derived.Test.YbulkceiiRows
import Derived.Deep.Quiet
namespace Go.Proofs.Ybulkceii

/-- One operation of a region of n operations at its place: slots are given out in order from c on (the last may write a slot r below c that none reads); it waits for what it reads. -/
def lexOne (c n r i : Nat) (o : Oper) : Bool :=
  (match o.dst with | some d => Nat.beq d (c + i) || (Nat.beq (i + 1) n && Nat.beq d r) | none => false) &&
  (match o.op with | .select .. => false | _ => true) &&
  o.after.toList.all (fun e => Nat.blt e.on i) &&
  (o.op.operands.toList.all fun x => match x with
    | .tmp t => (Nat.blt t c && !Nat.beq t r) || (Nat.ble c t && Nat.blt t (c + i) && o.after.toList.any fun e => Region.binds .any e && Nat.beq e.on (t - c))
    | _ => true) &&
  (match o.guard with
    | some (g, _) => Nat.blt g i && o.after.toList.any (fun e => Region.binds .any e && Nat.beq e.on g)
    | none => true)
def lexAll (c n r : Nat) : Nat → List Oper → Bool
  | i, [] => Nat.beq i n && Nat.blt r c
  | i, o :: l => lexOne c n r i o && lexAll c n r (i + 1) l

theorem lexAll_get {c n r : Nat} : ∀ {i : Nat} {l : List Oper}, lexAll c n r i l = true → (∀ (j : Nat) (o : Oper), l[j]? = some o → lexOne c n r (i + j) o = true) ∧ i + l.length = n ∧ r < c
  | i, [], h => by
    simp only [lexAll, Bool.and_eq_true, Nat.blt_eq] at h
    refine ⟨fun j o ho => by simp at ho, ?_, h.2⟩
    have := Nat.eq_of_beq_eq_true h.1
    simpa using this
  | i, a :: l, h => by
    simp only [lexAll, Bool.and_eq_true] at h
    obtain ⟨h1, h2, h3⟩ := lexAll_get h.2
    refine ⟨fun j o ho => ?_, by simp only [List.length_cons]; omega, h3⟩
    cases j with
    | zero => simp at ho; subst ho; exact h.1
    | succ j =>
      have := h1 j o (by simpa using ho)
      rw [show i + (j + 1) = i + 1 + j by omega]
      exact this

structure LexOne (c n r i : Nat) (o : Oper) : Prop where
  dst : o.dst = some (c + i) ∨ (i + 1 = n ∧ o.dst = some r)
  sel : (match o.op with | .select .. => false | _ => true) = true
  aft : ∀ e ∈ o.after, e.on < i
  ops : ∀ t, Operand.tmp t ∈ o.op.operands → (t < c ∧ t ≠ r) ∨ (c ≤ t ∧ t < c + i ∧ ∃ e ∈ o.after, Region.binds .any e = true ∧ e.on = t - c)
  grd : ∀ g b, o.guard = some (g, b) → g < i ∧ ∃ e ∈ o.after, Region.binds .any e = true ∧ e.on = g

theorem lexOne_spec {c n r i : Nat} {o : Oper} (h : lexOne c n r i o = true) : LexOne c n r i o := by
  simp only [lexOne, Bool.and_eq_true] at h
  obtain ⟨⟨⟨⟨h1, h2⟩, h3⟩, h4⟩, h5⟩ := h
  refine ⟨?_, h2, ?_, ?_, ?_⟩
  · split at h1
    · rename_i d hd
      simp only [Bool.or_eq_true, Bool.and_eq_true] at h1
      rcases h1 with h1 | ⟨h1, h2⟩
      · exact .inl (by rw [hd, Nat.eq_of_beq_eq_true h1])
      · exact .inr ⟨Nat.eq_of_beq_eq_true h1, by rw [hd, Nat.eq_of_beq_eq_true h2]⟩
    · cases h1
  · intro e he
    have := List.all_eq_true.1 h3 e (Array.mem_def.1 he)
    simpa [Nat.blt_eq] using this
  · intro t ht
    have := List.all_eq_true.1 h4 _ (Array.mem_def.1 ht)
    simp only [Bool.or_eq_true, Bool.and_eq_true, Nat.blt_eq, List.any_eq_true, Nat.ble_eq, Bool.not_eq_true'] at this
    rcases this with ⟨h, h'⟩ | ⟨⟨h0, h⟩, e, he, hb, hon⟩
    · exact .inl ⟨h, Nat.ne_of_beq_eq_false h'⟩
    · exact .inr ⟨h0, h, e, Array.mem_def.2 he, hb, Nat.eq_of_beq_eq_true hon⟩
  · intro g b hg
    rw [hg] at h5
    simp only [Bool.and_eq_true, Nat.blt_eq, List.any_eq_true] at h5
    obtain ⟨h, e, he, hb, hon⟩ := h5
    exact ⟨h, e, Array.mem_def.2 he, hb, Nat.eq_of_beq_eq_true hon⟩

theorem lex_looks {c n r : Nat} {l : List Oper} (hn : l.length = n) (H : ∀ (j : Nat) (o : Oper), l[j]? = some o → LexOne c n r j o) {j : Nat} {o : Oper} (ho : l[j]? = some o) {t : Nat}
    (ht : t ∈ o.looksAt l.toArray) : (t < c ∧ t ≠ r) ∨ (c ≤ t ∧ t < c + j ∧ ∃ e ∈ o.after, Region.binds .any e = true ∧ e.on = t - c) := by
  have h := H j o ho
  unfold Oper.looksAt at ht
  rcases List.mem_append.1 ht with ht | ht
  · obtain ⟨x, hx, hxt⟩ := List.mem_filterMap.1 ht
    cases x <;> simp at hxt
    subst hxt
    exact h.ops _ (Array.mem_def.2 hx)
  · cases hg : o.guard with
    | none => simp [hg] at ht
    | some p =>
      obtain ⟨g, b⟩ := p
      obtain ⟨hgj, e, he, hb, hon⟩ := h.grd g b hg
      have hjl := (List.getElem?_eq_some_iff.1 ho).1
      have hgl : g < l.length := Nat.lt_trans hgj hjl
      have hgo : l[g]? = some l[g] := List.getElem?_eq_getElem hgl
      have hd := (H g _ hgo).dst.resolve_right fun h => by omega
      simp only [hg, List.getElem?_toArray, hgo, Option.bind_some, hd, Option.toList_some, List.mem_singleton] at ht
      subst ht
      exact .inr ⟨by omega, by omega, e, he, hb, by omega⟩

theorem lex_apart {c n r : Nat} {l : List Oper} (hn : l.length = n) (hr : r < c) (H : ∀ (j : Nat) (o : Oper), l[j]? = some o → LexOne c n r j o) {k j : Nat} {x y : Oper} (hx : l[k]? = some x) (hy : l[j]? = some y) (hkj : k < j) :
    (y.after.any (fun e => Region.binds .any e && e.on == k) || x.apart l.toArray y) = true := by
  rw [Bool.or_eq_true]
  have hjl := (List.getElem?_eq_some_iff.1 hy).1
  by_cases hw : (c + k) ∈ y.looksAt l.toArray
  · rcases lex_looks hn H hy hw with h | ⟨_, _, e, he, hb, hon⟩
    · omega
    · refine .inl (Array.any_eq_true'.2 ⟨e, he, ?_⟩)
      simp only [hb, Bool.true_and, beq_iff_eq]
      omega
  · refine .inr ?_
    have hxd := (H k x hx).dst.resolve_right fun h => by omega
    rcases (H j y hy).dst with hyd | ⟨_, hyd⟩
    · have hz : (c + j) ∉ x.looksAt l.toArray := fun hm => by
        rcases lex_looks hn H hx hm with h | ⟨_, h, _⟩ <;> omega
      simp only [Oper.apart, hxd, hyd, Bool.and_eq_true]
      refine ⟨⟨?_, ?_⟩, ?_⟩
      · simpa using hw
      · simp; omega
      · simpa using hz
    · have hz : r ∉ x.looksAt l.toArray := fun hm => by
        rcases lex_looks hn H hx hm with h | ⟨_, h, _⟩ <;> omega
      simp only [Oper.apart, hxd, hyd, Bool.and_eq_true]
      refine ⟨⟨?_, ?_⟩, ?_⟩
      · simpa using hw
      · simp; omega
      · simpa using hz

theorem lexFrom_of {c n r : Nat} {l : List Oper} (hn : l.length = n) (hr : r < c) (H : ∀ (j : Nat) (o : Oper), l[j]? = some o → LexOne c n r j o) :
    ∀ (fuel k : Nat) (listed : Array Bool), k + fuel = l.length → listed.size = l.length → (∀ i, i < l.length → ∀ d, listed.getD i d = decide (i < k)) →
      Region.lexFrom .any l.toArray fuel k listed = true
  | 0, k, listed, hk, hs, hl => by
    simp only [Region.lexFrom, List.isEmpty_iff]
    refine List.eq_nil_iff_forall_not_mem.2 fun j hj => ?_
    obtain ⟨h0, o, ho, _⟩ := mem_ready.1 hj
    have hlt : j < l.length := by simpa using (Array.getElem?_eq_some_iff.1 ho).1
    rw [hl j hlt] at h0
    have := of_decide_eq_false h0
    omega
  | fuel + 1, k, listed, hk, hs, hl => by
    have hkl : k < l.length := by omega
    have hko : l[k]? = some l[k] := List.getElem?_eq_getElem hkl
    simp only [Region.lexFrom, Bool.and_eq_true]
    refine ⟨⟨?_, ?_⟩, lexFrom_of hn hr H fuel (k + 1) _ (by omega) (by simpa using hs) ?_⟩
    · rw [List.contains_iff_mem, mem_ready]
      refine ⟨by rw [hl k hkl]; simp, l[k], by simp, fun e he _ => ?_⟩
      have := (H k _ hko).aft e he
      rw [hl e.on (by omega)]
      simpa using this
    · simp only [Region.free, List.getElem?_toArray, hko, List.all_eq_true, List.mem_range, List.size_toArray]
      intro j hj
      have hjo : l[j]? = some l[j] := List.getElem?_eq_getElem hj
      rw [hl j hj, hjo]
      simp only [Bool.or_eq_true]
      by_cases h1 : j = k
      · exact .inl (.inl (by simpa using h1))
      · by_cases h2 : j < k
        · exact .inl (.inr (by simpa using h2))
        · exact .inr ((Bool.or_eq_true _ _).mp (lex_apart hn hr H hko hjo (by omega)))
    · intro i hi d
      by_cases hik : k = i
      · subst hik
        simp [hs, hi]
      · rw [getD_set_ne d hik, hl i hi]
        by_cases h : i < k
        · simp [h]; omega
        · simp [h]; omega

theorem lexB_of (c n r : Nat) {l : List Oper} (h : lexAll c n r 0 l = true) : Region.lexB .any l.toArray = true := by
  obtain ⟨H0, hn, hr⟩ := lexAll_get h
  rw [Nat.zero_add] at hn
  have H : ∀ (j : Nat) (o : Oper), l[j]? = some o → LexOne c n r j o := fun j o ho => by
    have := lexOne_spec (H0 j o ho)
    rwa [Nat.zero_add] at this
  simp only [Region.lexB, Bool.and_eq_true]
  refine ⟨?_, lexFrom_of hn hr H _ _ _ (by simp) (by simp) ?_⟩
  · unfold Region.noSelect
    refine Array.all_eq_true_iff_forall_mem.2 fun o ho => ?_
    obtain ⟨j, hj⟩ := List.getElem?_of_mem (Array.mem_def.1 ho)
    exact (H j o (by simpa using hj)).sel
  · intro i hi d
    simp [hi]

theorem wp_quiet_lit (c n r : Nat) {P : Program} {id : Nat} {Q : Exit → Act → World → Prop} {a : Act} {w : World} {l : List Oper} (hm : P.follows .mixedOrders = true) (hB : lexAll c n r 0 l = true)
    (h : wpQuiet P l.toArray (fun w' => ∃ n, w' = w.drewN n) (fun a' => ∀ w', (∃ n, w' = w.drewN n) → Q .normal a' w') l a) : (Code.region id l.toArray true).wp P Q a w :=
  wp_region_quiet_lit hm (lexB_of c n r hB) h
end Go.Proofs.Ybulkceii
