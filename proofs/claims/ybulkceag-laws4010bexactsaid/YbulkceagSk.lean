import Derived.Test.YbulkceagPb
namespace Go.Proofs.Ybulkceag
open Go.ChangeShapes Go.WideShapes Go.ChangeAt Go.RowKit
set_option linter.unusedVariables false

theorem sd_end {K : Nat → Int} {X : Nat → ByteArray} {N f i : Nat} {d : Int} (h : K i = 0) : sd K X N f i d = i := by
  cases f with
  | zero => rfl
  | succ f => simp only [sd]; rw [if_pos h]
theorem sd_struct {K : Nat → Int} {X : Nat → ByteArray} {N f i : Nat} {d : Int} (h : structB K X i = true) : sd K X N f i d = i := by
  cases f with
  | zero => rfl
  | succ f =>
    simp only [sd]
    by_cases h0 : K i = 0
    · rw [if_pos h0]
    · rw [if_neg h0, if_pos h]
theorem sd_close {K : Nat → Int} {X : Nat → ByteArray} {N f i e b : Nat} {d : Int} (h0 : K i ≠ 0) (h : structB K X i = false) (he : eol K (N - i) i = e) (hb : nbl K (N - e) e = b) (h5 : K i = 5) (hd : d = 0) :
    sd K X N (f + 1) i d = b := by
  simp only [sd]
  rw [if_neg h0, if_neg (by simp [h]), he, hb, if_pos h5, if_pos hd]
theorem sd_less {K : Nat → Int} {X : Nat → ByteArray} {N f i e b : Nat} {d : Int} (h0 : K i ≠ 0) (h : structB K X i = false) (he : eol K (N - i) i = e) (hb : nbl K (N - e) e = b) (h5 : K i = 5) (hd : d ≠ 0) :
    sd K X N (f + 1) i d = sd K X N f b (d - 1) := by
  simp only [sd]
  rw [if_neg h0, if_neg (by simp [h]), he, hb, if_pos h5, if_neg hd]
theorem sd_more {K : Nat → Int} {X : Nat → ByteArray} {N f i e b : Nat} {d : Int} (h0 : K i ≠ 0) (h : structB K X i = false) (he : eol K (N - i) i = e) (hb : nbl K (N - e) e = b) (h5 : K i ≠ 5) (hd : braceB K i e = true) :
    sd K X N (f + 1) i d = sd K X N f b (d + 1) := by
  simp only [sd]
  rw [if_neg h0, if_neg (by simp [h]), he, hb, if_neg h5, if_pos hd]
theorem sd_same {K : Nat → Int} {X : Nat → ByteArray} {N f i e b : Nat} {d : Int} (h0 : K i ≠ 0) (h : structB K X i = false) (he : eol K (N - i) i = e) (hb : nbl K (N - e) e = b) (h5 : K i ≠ 5) (hd : braceB K i e = false) :
    sd K X N (f + 1) i d = sd K X N f b d := by
  simp only [sd]
  rw [if_neg h0, if_neg (by simp [h]), he, hb, if_neg h5, if_neg (by simp [hd])]

theorem adv {K : Nat → Int} {N j e b : Nat} (h0 : K j ≠ 0) (he : eol K (N - j) j = e) (h1 : K e = 1 ∨ K e = 0) (hb : nbl K (N - e) e = b) (h2 : K b ≠ 1) : j < b := by
  have a1 := eol_ge K (N - j) j
  have a2 := nbl_ge K (N - e) e
  rw [he] at a1
  rw [hb] at a2
  by_cases hj : j = b
  · have : e = j := by omega
    subst this
    rcases h1 with h1 | h1
    · rw [← hj] at h2; exact absurd h1 h2
    · exact absurd h1 h0
  · omega

set_option maxHeartbeats 1600000 in
theorem skip6 (pb g N cap : Nat) (K : Nat → Int) (X : Nat → ByteArray) (L C : Nat → Int) (i : Nat) (w : World) (hi : i < N) (hN : N ≤ 5000) (hE : K (N - 1) = 0) (hp : Par pb g N cap K X L C i w) :
    Calls Yba.prog 6 #[.pointer (some ⟨pb, 0, none⟩)] w fun e w' => e = .returned (.tuple #[]) ∧ Par pb g N cap K X L C (sd K X N (N + 1) i 0) w' ∧ w.grownBy w' (some pb) := by
  have HE : Hid (K (N - 1) = 0) := hE
  clear hE
  have f0 := fld
  go_enter Yba.func6, Yba.ntmps6
  go_wp2_with fail
  go_loopg [2] (N - i) (fun k s wr => ∃ (j t : Nat) (d : Int), k = N - j ∧ j < N ∧ t ≤ j ∧ 0 ≤ d ∧ d ≤ t ∧ s = .int .i64 d ∧ Par pb g N cap K X L C j wr ∧ Hid (sd K X N (N + 1 - t) j d = sd K X N (N + 1) i 0) ∧ w.grownBy wr (some pb))
  case atStart => exact ⟨i, 0, 0, rfl, hi, by omega, by omega, by omega, rfl, hp, rfl, grow_refl _ _⟩
  case round =>
    obtain ⟨j, t, d, hk, hj, htj, hd0, hdt, rfl, hpj, hsd, hgr⟩ := hrel
    have HK : Hid (gk = N - j) := hk
    clear hk
    by_cases h0 : K j = 0
    · go_wp2_with (first | (go_at_call 7; refine (tok7 pb g N cap K X L C j _ hj hN (by assumption)).mono ?_; rintro e w' ⟨rfl, hb⟩; have hpn : Par pb g N cap K X L C j w' := Par.below (by assumption) hb; have hgn : w.grownBy w' (some pb) := grow_trans (by assumption) (grow_below hb _); clear hb))
      go_end0
      exact ⟨rfl, by rw [← hsd.out, sd_end h0]; exact hpn, hgn⟩
    · have hj1 : j + 1 < N := by
        by_cases h : j = N - 1
        · exfalso; rw [h] at h0; exact h0 HE.out
        · omega
      have b0 : (K j != 0) = true := by simpa using h0
      cases hst : structB K X j
      · have e1 := eol_lt HE.out j hj
        obtain ⟨e, he⟩ : ∃ e, eol K (N - j) j = e := ⟨_, rfl⟩
        rw [he] at e1
        have e1' := nbl_lt HE.out e e1.1
        obtain ⟨b, hb⟩ : ∃ b, nbl K (N - e) e = b := ⟨_, rfl⟩
        rw [hb] at e1'
        have HE1 : Hid (eol K (N - j) j = e) := he
        have HB1 : Hid (nbl K (N - e) e = b) := hb
        have hjb : j < b := adv h0 he e1.2 hb e1'.2
        obtain ⟨f, hf⟩ : ∃ f, N + 1 - t = f + 1 := ⟨N - t, by omega⟩
        have HF : Hid (N + 1 - t = f + 1) := hf
        clear he hb hf
        go_wp2_with (first | (go_at_call 7; refine (tok7 pb g N cap K X L C j _ hj hN (by assumption)).mono ?_; rintro e w' ⟨rfl, hb⟩; have hpn : Par pb g N cap K X L C j w' := Par.below (by assumption) hb; have hgn : w.grownBy w' (some pb) := grow_trans (by assumption) (grow_below hb _); clear hb) | (go_at_call 8; refine (atStruct8 pb g N cap K X L C j _ hj1 hN (by assumption)).mono ?_; rintro e w' ⟨rfl, hb⟩; have hpn : Par pb g N cap K X L C j w' := Par.below (by assumption) hb; have hgn : w.grownBy w' (some pb) := grow_trans (by assumption) (grow_below hb _); clear hb) | (go_at_call 9; refine (brace9 pb g N cap K X L C j _ hj hN HE.out (by assumption)).mono ?_; rintro e w' ⟨rfl, rfl⟩))
        have hpj' := hpn
        have hgj' := hgn
        clear hpn hgn
        go_loopg [] (N - j) (fun k2 wz => ∃ m : Nat, k2 = N - m ∧ m < N ∧ Par pb g N cap K X L C m wz ∧ Hid (eol K (N - m) m = e) ∧ w.grownBy wz (some pb))
        case atStart => exact ⟨j, rfl, hj, hpj', HE1.out, hgj'⟩
        case round =>
          obtain ⟨m, hk2, hm, hpm, hem, hgm⟩ := hrel
          have HK2 : Hid (gk = N - m) := hk2
          clear hk2
          by_cases hn : K m = 1 ∨ K m = 0
          · have hme : m = e := by have := hem.out; rw [eol_stop hn] at this; exact this
            subst hme
            clear hem
            by_cases h5 : K j = 5
            · by_cases hd : d = 0
              · rcases hn with hn | hn
                all_goals
                  go_wp2_with (first | (go_at_call 7; refine (tok7 pb g N cap K X L C m _ hm hN (by assumption)).mono ?_; rintro e w' ⟨rfl, hb⟩; have hpm : Par pb g N cap K X L C m w' := Par.below (by assumption) hb; have hgm : w.grownBy w' (some pb) := grow_trans (by assumption) (grow_below hb _); clear hb) | (go_at_call 11; refine (blank11 pb g N cap K X L C m _ hm hN HE.out (by assumption)).mono ?_; rintro e w' ⟨rfl, hpb, hgb⟩; have hgb' : w.grownBy w' (some pb) := grow_trans (by assumption) hgb))
                  refine bodyPost_ret (results_none rfl _ _ _) rfl ?_
                  refine ⟨rfl, ?_, hgb'⟩
                  rw [← hsd.out, HF.out, sd_close h0 hst HE1.out HB1.out h5 hd, ← HB1.out]
                  exact hpb
              · have hdb : (d == 0) = false := by simpa using hd
                rcases hn with hn | hn
                all_goals
                  go_wp2_with (first | (go_at_call 7; refine (tok7 pb g N cap K X L C m _ hm hN (by assumption)).mono ?_; rintro e w' ⟨rfl, hb⟩; have hpm : Par pb g N cap K X L C m w' := Par.below (by assumption) hb; have hgm : w.grownBy w' (some pb) := grow_trans (by assumption) (grow_below hb _); clear hb) | (go_at_call 11; refine (blank11 pb g N cap K X L C m _ hm hN HE.out (by assumption)).mono ?_; rintro e w' ⟨rfl, hpb, hgb⟩; have hgb' : w.grownBy w' (some pb) := grow_trans (by assumption) hgb))
                  rw [HB1.out] at hpb
                  go_roundg (N - b)
                  case measure => have := HK.out; omega
                  case rel => exact ⟨b, t + 1, d - 1, rfl, e1'.1, by omega, by omega, by omega, rfl, hpb, (by rw [show N + 1 - (t + 1) = f by have := HF.out; omega]; exact (sd_less h0 hst HE1.out HB1.out h5 hd).symm.trans (HF.out ▸ hsd.out)), hgb'⟩
            · have h5b : (K j == 5) = false := by simpa using h5
              cases hbr : braceB K j (eol K (N - j) j)
              · rcases hn with hn | hn
                all_goals
                  go_wp2_with (first | (go_at_call 7; refine (tok7 pb g N cap K X L C m _ hm hN (by assumption)).mono ?_; rintro e w' ⟨rfl, hb⟩; have hpm : Par pb g N cap K X L C m w' := Par.below (by assumption) hb; have hgm : w.grownBy w' (some pb) := grow_trans (by assumption) (grow_below hb _); clear hb) | (go_at_call 11; refine (blank11 pb g N cap K X L C m _ hm hN HE.out (by assumption)).mono ?_; rintro e w' ⟨rfl, hpb, hgb⟩; have hgb' : w.grownBy w' (some pb) := grow_trans (by assumption) hgb))
                  rw [HB1.out] at hpb
                  go_roundg (N - b)
                  case measure => have := HK.out; omega
                  case rel => exact ⟨b, t + 1, d, rfl, e1'.1, by omega, by omega, by omega, rfl, hpb, (by rw [show N + 1 - (t + 1) = f by have := HF.out; omega]; exact (sd_same h0 hst HE1.out HB1.out h5 (HE1.out ▸ hbr)).symm.trans (HF.out ▸ hsd.out)), hgb'⟩
              · rcases hn with hn | hn
                all_goals
                  go_wp2_with (first | (go_at_call 7; refine (tok7 pb g N cap K X L C m _ hm hN (by assumption)).mono ?_; rintro e w' ⟨rfl, hb⟩; have hpm : Par pb g N cap K X L C m w' := Par.below (by assumption) hb; have hgm : w.grownBy w' (some pb) := grow_trans (by assumption) (grow_below hb _); clear hb) | (go_at_call 11; refine (blank11 pb g N cap K X L C m _ hm hN HE.out (by assumption)).mono ?_; rintro e w' ⟨rfl, hpb, hgb⟩; have hgb' : w.grownBy w' (some pb) := grow_trans (by assumption) hgb))
                  rw [HB1.out] at hpb
                  go_roundg (N - b)
                  case measure => have := HK.out; omega
                  case rel => exact ⟨b, t + 1, d + 1, rfl, e1'.1, by omega, by omega, by omega, rfl, hpb, (by rw [show N + 1 - (t + 1) = f by have := HF.out; omega]; exact (sd_more h0 hst HE1.out HB1.out h5 (HE1.out ▸ hbr)).symm.trans (HF.out ▸ hsd.out)), hgb'⟩
          · have n1 : K m ≠ 1 := fun h => hn (.inl h)
            have n0 : K m ≠ 0 := fun h => hn (.inr h)
            have hm1 : m + 1 < N := by
              by_cases h : m = N - 1
              · exfalso; rw [h] at n0; exact n0 HE.out
              · omega
            have c1 : (K m != 1) = true := by simpa using n1
            have c0 : (K m != 0) = true := by simpa using n0
            go_wp2_with (first | (go_at_call 7; refine (tok7 pb g N cap K X L C m _ hm hN (by assumption)).mono ?_; rintro e w' ⟨rfl, hb⟩; have hpm : Par pb g N cap K X L C m w' := Par.below (by assumption) hb; have hgm : w.grownBy w' (some pb) := grow_trans (by assumption) (grow_below hb _); clear hb) | (go_at_call 10; refine (next10 pb g N cap K X L C m _ hm1 hN (by assumption)).mono ?_; rintro e w' ⟨rfl, hpx, hgx⟩; have hgx' : w.grownBy w' (some pb) := grow_trans (by assumption) hgx))
            go_roundg (N - (m + 1))
            case measure => have := HK2.out; omega
            case rel => exact ⟨m + 1, rfl, hm1, hpx, (eol_step hm n1 n0).symm.trans hem.out, hgx'⟩
      · go_wp2_with (first | (go_at_call 7; refine (tok7 pb g N cap K X L C j _ hj hN (by assumption)).mono ?_; rintro e w' ⟨rfl, hb⟩; have hpn : Par pb g N cap K X L C j w' := Par.below (by assumption) hb; have hgn : w.grownBy w' (some pb) := grow_trans (by assumption) (grow_below hb _); clear hb) | (go_at_call 8; refine (atStruct8 pb g N cap K X L C j _ hj1 hN (by assumption)).mono ?_; rintro e w' ⟨rfl, hb⟩; have hpn : Par pb g N cap K X L C j w' := Par.below (by assumption) hb; have hgn : w.grownBy w' (some pb) := grow_trans (by assumption) (grow_below hb _); clear hb))
        go_end0
        exact ⟨rfl, by rw [← hsd.out, sd_struct hst]; exact hpn, hgn⟩
end Go.Proofs.Ybulkceag
