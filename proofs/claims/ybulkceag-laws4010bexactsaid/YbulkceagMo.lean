import Derived.Test.YbulkceagSk
namespace Go.Proofs.Ybulkceag
open Go.ChangeShapes Go.WideShapes Go.ChangeAt Go.RowKit
set_option linter.unusedVariables false

theorem brace_eq {K : Nat → Int} {j m : Nat} (h : j < m + 1) : braceB K j (m + 1) = (K m == 4) := by
  unfold braceB
  rw [Bool.eq_iff_iff]; simp [h]
theorem brace_no {K : Nat → Int} {j : Nat} : braceB K j j = false := by unfold braceB; simp

theorem ret_int {k : IntKind} {a b : Int} (h : a = b) : Ending.returned (.int k a) = .returned (.int k b) := by rw [h]

set_option maxHeartbeats 3200000 in
set_option maxRecDepth 100000 in
theorem model5 (gk gt N ck ct : Nat) (K : Nat → Int) (X : Nat → ByteArray) (i : Nat) (w : World) (hi : i < N) (hN : N ≤ 5000) (hE : K (N - 1) = 0)
    (hK : ∀ j, j < N → w.cell? ⟨gk, j, none⟩ = some (.int .i64 (K j))) (hX : ∀ j, j < N → w.cell? ⟨gt, j, none⟩ = some (.string (X j))) :
    Calls Yba.prog 5 #[.slice (some ⟨gk, 0, none⟩) N ck, .slice (some ⟨gt, 0, none⟩) N ct, .int .i64 i] w fun e w' => e = .returned (.int .i64 (sd K X N (N + 1) i 0 : Nat)) ∧ w' = w := by
  have HE : Hid (K (N - 1) = 0) := hE
  have HK : Hid (∀ j, j < N → w.cell? ⟨gk, j, none⟩ = some (.int .i64 (K j))) := hK
  have HX : Hid (∀ j, j < N → w.cell? ⟨gt, j, none⟩ = some (.string (X j))) := hX
  obtain ⟨R, hR⟩ : ∃ R, sd K X N (N + 1) i 0 = R := ⟨_, rfl⟩
  rw [hR]
  have HR : Hid (sd K X N (N + 1) i 0 = R) := hR
  clear hE hK hX hR
  go_enter Yba.func5, Yba.ntmps5
  go_wp2
  go_loop [2, 7, 8] (fun p d s => ∃ (j t : Nat) (dv : Int), j < N ∧ t ≤ j ∧ 0 ≤ dv ∧ dv ≤ t ∧ p = .int .i64 j ∧ d = .int .i64 dv ∧ s = .int .i64 t ∧ Hid (sd K X N (N + 1 - t) j dv = R)) (fun p _ _ => N - (intOf p).toNat)
  case atStart => exact ⟨i, 0, 0, hi, by omega, by omega, by omega, rfl, rfl, rfl, HR.out⟩
  case round =>
    obtain ⟨j, t, dv, hj, htj, hd0, hdt, rfl, rfl, rfl, hsd⟩ := hrel
    have hjI : (j : Int) < (N : Int) := by omega
    have htN : (t : Int) ≤ (N : Int) := by omega
    have kj := HK.out j hj
    have xj := HX.out j hj
    by_cases h0 : K j = 0
    · have hRj := hsd.out
      rw [sd_end h0] at hRj
      have HRj : Hid (j = R) := hRj
      clear hRj
      go_wp2
      go_ret
      exact ⟨ret_int (by rw [HRj.out]), rfl⟩
    · have hj1 : j + 1 < N := by
        by_cases h : j = N - 1
        · exfalso; rw [h] at h0; exact h0 HE.out
        · omega
      have hj1I : (j : Int) + 1 < (N : Int) := by omega
      have kj1 := HK.out (j + 1) hj1
      have b0 : (K j == 0) = false := by simpa using h0
      cases hst : structB K X j
      · have e1 := eol_lt HE.out j hj
        obtain ⟨e, he⟩ : ∃ e, eol K (N - j) j = e := ⟨_, rfl⟩
        rw [he] at e1
        have e1' := nbl_lt HE.out e e1.1
        obtain ⟨b, hb⟩ : ∃ b, nbl K (N - e) e = b := ⟨_, rfl⟩
        rw [hb] at e1'
        have HE1 : Hid (eol K (N - j) j = e) := he
        have HB1 : Hid (nbl K (N - e) e = b) := hb
        have hjb : j < b := adv h0 he e1.2 hb e1'.2
        have hje : j ≤ e := by rw [← he]; exact eol_ge K (N - j) j
        obtain ⟨f, hf⟩ : ∃ f, N + 1 - t = f + 1 := ⟨N - t, by omega⟩
        have HF : Hid (N + 1 - t = f + 1) := hf
        have HST : Hid (structB K X j = false) := hst
        have H0 : Hid (K j ≠ 0) := h0
        have hcase : (K j == 2) = false ∨ ((K j == 2) = true ∧ ((X j).toList == [115, 116, 114, 117, 99, 116]) = false) ∨ ((K j == 2) = true ∧ ((X j).toList == [115, 116, 114, 117, 99, 116]) = true ∧ (K (j + 1) != 6) = false) := by
          unfold structB at hst
          cases h2 : (K j == 2)
          · exact .inl rfl
          · have h2' : decide (K j = 2) = true := by simpa using h2
            rw [h2', Bool.true_and] at hst
            cases hxx : ((X j).toList == [115, 116, 114, 117, 99, 116])
            · exact .inr (.inl ⟨rfl, rfl⟩)
            · rw [hxx, Bool.true_and] at hst
              exact .inr (.inr ⟨rfl, rfl, hst⟩)
        clear he hb hf hst h0
        rcases hcase with s1 | ⟨s1, s2⟩ | ⟨s1, s2, s3⟩
        all_goals
          go_wp2
          clear s1
          go_loop [10] (fun x => ∃ m : Nat, j ≤ m ∧ m ≤ e ∧ x = .int .i64 m ∧ Hid (eol K (N - m) m = e)) (fun x => N - (intOf x).toNat)
          case atStart => exact ⟨j, Nat.le_refl _, hje, rfl, HE1.out⟩
          case round =>
            obtain ⟨m, hm0, hme, rfl, hem⟩ := hrel
            have hm : m < N := by omega
            have hmI : (m : Int) < (N : Int) := by omega
            have km := HK.out m hm
            by_cases hn : K m = 1 ∨ K m = 0
            · have hmE : m = e := by have := hem.out; rw [eol_stop hn] at this; exact this
              subst hmE
              clear hem
              have hmb : m ≤ b := by rw [← HB1.out]; exact nbl_ge K (N - m) m
              by_cases hmj : j < m
              · obtain ⟨m', rfl⟩ : ∃ m', m = m' + 1 := ⟨m - 1, by omega⟩
                have km' := HK.out m' (by omega)
                have hmjI : (j : Int) < (m' : Int) + 1 := by omega
                have hm'I : (m' : Int) < (N : Int) := by omega
                rcases hn with hn | hn
                all_goals
                  go_wp2
                  clear km km' hn
                  go_loop [10] (fun x => ∃ q : Nat, m' + 1 ≤ q ∧ q ≤ b ∧ x = .int .i64 q ∧ Hid (nbl K (N - q) q = b)) (fun x => N - (intOf x).toNat)
                  case atStart => exact ⟨m' + 1, Nat.le_refl _, hmb, rfl, HB1.out⟩
                  case round =>
                    obtain ⟨q, hq0, hqb, rfl, heq⟩ := hrel
                    have hq : q < N := by omega
                    have hqI : (q : Int) < (N : Int) := by omega
                    have kq := HK.out q hq
                    by_cases hq1 : K q = 1
                    · have hlt : q < b := by
                        rcases Nat.lt_or_ge q b with h | h
                        · exact h
                        · have : q = b := by omega
                          rw [this] at hq1; exact absurd hq1 e1'.2
                      have HS : Hid (nbl K (N - (q + 1)) (q + 1) = b) := (nbl_step (N := N) hq hq1).symm.trans heq.out
                      clear heq
                      go_wp2
                      go_round
                      case rel => exact ⟨q + 1, by omega, hlt, by go_num, HS.out⟩
                      case measure => simp [intOf]; omega
                    · have hqB : q = b := by have := heq.out; rw [nbl_stop hq1] at this; exact this
                      subst hqB
                      clear heq
                      have q1 : (K q == 1) = false := by simpa using hq1
                      clear hq1
                      by_cases h5 : K j = 5
                      · by_cases hd : dv = 0
                        · have HRj : Hid (R = q) := hsd.out.symm.trans ((congrArg (fun z => sd K X N z j dv) HF.out).trans (sd_close H0.out HST.out HE1.out HB1.out h5 hd))
                          go_wp2
                          go_ret
                          exact ⟨ret_int (by rw [HRj.out]), rfl⟩
                        · have hdb : (dv == 0) = false := by simpa using hd
                          have HS : Hid (sd K X N (N + 1 - (t + 1)) q (dv - 1) = R) := (by rw [show N + 1 - (t + 1) = f by have := HF.out; omega]; exact ((sd_less H0.out HST.out HE1.out HB1.out h5 hd).symm.trans ((congrArg (fun z => sd K X N z j dv) HF.out).symm.trans hsd.out)))
                          go_wp2
                          go_round
                          case rel => exact ⟨q, t + 1, dv - 1, by omega, by omega, by omega, by omega, rfl, rfl, by go_num, HS.out⟩
                          case measure => simp [intOf]; omega
                      · have h5b : (K j == 5) = false := by simpa using h5
                        cases hbr : (K m' == 4)
                        · have HS : Hid (sd K X N (N + 1 - (t + 1)) q dv = R) := (by rw [show N + 1 - (t + 1) = f by have := HF.out; omega]; exact ((sd_same H0.out HST.out HE1.out HB1.out h5 ((brace_eq hmj).trans hbr)).symm.trans ((congrArg (fun z => sd K X N z j dv) HF.out).symm.trans hsd.out)))
                          go_wp2
                          go_round
                          case rel => exact ⟨q, t + 1, dv, by omega, by omega, by omega, by omega, rfl, rfl, by go_num, HS.out⟩
                          case measure => simp [intOf]; omega
                        · have HS : Hid (sd K X N (N + 1 - (t + 1)) q (dv + 1) = R) := (by rw [show N + 1 - (t + 1) = f by have := HF.out; omega]; exact ((sd_more H0.out HST.out HE1.out HB1.out h5 ((brace_eq hmj).trans hbr)).symm.trans ((congrArg (fun z => sd K X N z j dv) HF.out).symm.trans hsd.out)))
                          go_wp2
                          go_round
                          case rel => exact ⟨q, t + 1, dv + 1, by omega, by omega, by omega, by omega, rfl, rfl, by go_num, HS.out⟩
                          case measure => simp [intOf]; omega
              · have hmj' : j = m := by omega
                subst hmj'
                rcases hn with hn | hn
                · have h5 : K j ≠ 5 := by omega
                  have H1 : Hid (K j = 1) := hn
                  go_wp2
                  go_loop [10] (fun x => ∃ q : Nat, j ≤ q ∧ q ≤ b ∧ x = .int .i64 q ∧ Hid (nbl K (N - q) q = b)) (fun x => N - (intOf x).toNat)
                  case atStart => exact ⟨j, Nat.le_refl _, hmb, rfl, HB1.out⟩
                  case round =>
                    obtain ⟨q, hq0, hqb, rfl, heq⟩ := hrel
                    have hq : q < N := by omega
                    have hqI : (q : Int) < (N : Int) := by omega
                    have kq := HK.out q hq
                    by_cases hq1 : K q = 1
                    · have hlt : q < b := by
                        rcases Nat.lt_or_ge q b with h | h
                        · exact h
                        · have : q = b := by omega
                          rw [this] at hq1; exact absurd hq1 e1'.2
                      have HS : Hid (nbl K (N - (q + 1)) (q + 1) = b) := (nbl_step (N := N) hq hq1).symm.trans heq.out
                      clear heq
                      go_wp2
                      go_round
                      case rel => exact ⟨q + 1, by omega, hlt, by go_num, HS.out⟩
                      case measure => simp [intOf]; omega
                    · have hqB : q = b := by have := heq.out; rw [nbl_stop hq1] at this; exact this
                      subst hqB
                      clear heq
                      have q1 : (K q == 1) = false := by simpa using hq1
                      clear hq1
                      have HS : Hid (sd K X N (N + 1 - (t + 1)) q dv = R) := (by rw [show N + 1 - (t + 1) = f by have := HF.out; omega]; exact ((sd_same H0.out HST.out HE1.out HB1.out h5 brace_no).symm.trans ((congrArg (fun z => sd K X N z j dv) HF.out).symm.trans hsd.out)))
                      go_wp2
                      go_round
                      case rel => exact ⟨q, t + 1, dv, by omega, by omega, by omega, by omega, rfl, rfl, by go_num, HS.out⟩
                      case measure => simp [intOf]; omega
                · exact absurd hn H0.out
            · have n1 : (K m != 1) = true := by simpa using fun h => hn (.inl h)
              have n0 : (K m != 0) = true := by simpa using fun h => hn (.inr h)
              have hlt : m < e := by
                rcases Nat.lt_or_ge m e with h | h
                · exact h
                · have : m = e := by omega
                  rw [this] at hn; exact absurd e1.2 hn
              have hstep := (eol_step (N := N) hm (fun h => hn (.inl h)) (fun h => hn (.inr h))).symm.trans hem.out
              have HS : Hid (eol K (N - (m + 1)) (m + 1) = e) := hstep
              clear hstep hn hem
              go_wp2
              go_round
              case rel => exact ⟨m + 1, by omega, hlt, by go_num, HS.out⟩
              case measure => simp [intOf]; omega
      · have hs3 : K j = 2 ∧ (X j).toList = [115, 116, 114, 117, 99, 116] ∧ (K (j + 1) != 6) = true := by
          unfold structB at hst; simp only [Bool.and_eq_true, decide_eq_true_eq, beq_iff_eq] at hst; exact ⟨hst.1.1, hst.1.2, hst.2⟩
        obtain ⟨s1, s2, s3⟩ := hs3
        have hRj := hsd.out
        rw [sd_struct hst] at hRj
        have HRj : Hid (j = R) := hRj
        clear hRj hst
        go_wp2
        go_ret
        exact ⟨ret_int (by rw [HRj.out]), rfl⟩
end Go.Proofs.Ybulkceag
