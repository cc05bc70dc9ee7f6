/- 'zzResetStateB1' behind a reset. -/
import Derived.Test.Qxb6600929aReset
namespace Go.Proofs.Qxb6600929a
open Go.RowKit
set_option linter.unusedSimpArgs false
set_option linter.unusedVariables false

theorem reset_flat (S : St) : S.reset.vals.flatten = [] := by
  simp only [St.reset]
  induction S.vals with
  | nil => rfl
  | cons a l ih => simp
theorem reset_len (S : St) : S.reset.vals.length = S.vals.length := by simp [St.reset]
theorem reset_vlen (S : St) : S.reset.vlen = if S.vals.length = 0 then 0 else 1 := by
  unfold St.vlen
  by_cases h : S.vals = []
  · simp [St.reset, h]
  · have : S.vals.length ≠ 0 := by simpa using h
    simp [St.reset, h, this]
theorem reset_nlen (S : St) : S.reset.nlen = 0 := by
  unfold St.nlen
  simp only [St.reset, inF_nils, getD_nils, List.length_nil]
theorem reset_reset (S : St) : S.reset.reset = S.reset := by simp [St.reset]

set_option maxHeartbeats 2000000 in
theorem state25 {w : World} {base b : Nat} {S : St} {F : List Nat} (h : RecS w base b S.reset F) (hn : S.vals.length ≤ 1000000) :
    Calls Try.prog 25 #[.pointer (some ⟨b, 0, none⟩), .int .i64 S.vals.length] w fun e w' => e = .returned (.bool true) ∧ RecS w' base b S.reset F ∧ Step w w' F F := by
  have hl := reset_len S
  have C18 := hide (count_any h)
  rw [hl] at C18
  have V := hide (view17 h (by omega))
  have hvl := reset_vlen S
  have C11 : Hid (∀ w1, RecS w1 base b S.reset F → Calls Try.prog 11 #[.pointer (some ⟨b, 0, none⟩)] w1 fun e w' => e = .returned (.int .i64 0) ∧ RecS w' base b S.reset F ∧ Step w1 w' F F) := by
    intro w1 h1
    have := sum11 h1 (by omega) (by rw [reset_flat]; simp) (by simp [St.reset]) (by rw [reset_flat]; simp)
    rw [reset_flat] at this
    simp only [St.reset, List.sum_nil, Int.add_zero] at this
    rw [wrap64_id 0 (by omega) (by omega)] at this
    exact this
  have C13 : Hid (∀ w1, RecS w1 base b S.reset F → Calls Try.prog 13 #[.pointer (some ⟨b, 0, none⟩)] w1 fun e w' => e = .returned (.int .i64 0) ∧ Same w1 w') := by
    intro w1 h1
    have := len_any h1 (by rw [reset_nlen]; omega) (by simp [St.reset])
    rw [reset_nlen] at this
    exact this
  have C14 : Hid (∀ w1, RecS w1 base b S.reset F → Calls Try.prog 14 #[.pointer (some ⟨b, 0, none⟩)] w1 fun e w' => e = .returned (.int .i64 0) ∧ Same w1 w') := by
    intro w1 h1
    have := nlen_any h1 (by rw [reset_nlen]; omega)
    rw [reset_nlen] at this
    exact this
  have C19 : Hid (∀ w1, RecS w1 base b S.reset F → Calls Try.prog 19 #[.pointer (some ⟨b, 0, none⟩)] w1 fun e w' => e = .returned (.int .i64 0) ∧ w1 = w') := fun w1 h1 => full_any h1
  have C20 : Hid (∀ w1, RecS w1 base b S.reset F → Calls Try.prog 20 #[.pointer (some ⟨b, 0, none⟩)] w1 fun e w' => e = .returned (.int .i64 0) ∧ w1 = w') := fun w1 h1 => inFull_any h1
  have C28 : Hid (∀ w1, RecS w1 base b S.reset F → ∃ a c, Calls Try.prog 28 #[.pointer (some ⟨b, 0, none⟩)] w1 fun e w' => e = .returned (.slice a 0 c) ∧ w1 = w') := by
    intro w1 h1
    obtain ⟨na, nc, ca, cc, wa, wc, _, _, _, _, h4⟩ := h1.cells
    exact ⟨wa, wc, wide_any b wa 0 wc w1 h4⟩
  obtain ⟨m, hm⟩ : ∃ m, m = S.vals.length := ⟨_, rfl⟩
  rw [← hm] at C18 hvl hn
  rw [← hm]
  have HVL := hide hvl
  have HRec := hide h
  clear hvl hm hl h
  by_cases h0 : m = 0
  · subst h0
    have hv0 := unhide HVL
    rw [if_pos rfl] at hv0
    have HV0 := hide hv0
    clear hv0
    go_enter Try.func25, Try.ntmps25
    go_wp2_with (first | (go_at_call 18; refine (unhide C18).mono ?_; rintro e w' ⟨rfl, rfl⟩) | (go_at_call 17; refine (unhide V).mono ?_; rintro e w1 ⟨v, rfl, hr1, st1, hview⟩; obtain ⟨va, vc, rfl, hvl, hvw⟩ := hview.rows; rw [unhide HV0]; have HR1 := hide hr1; have HST := hide st1; clear hr1 st1 hview hvl hvw) | (go_at_call 11; refine (unhide C11 _ (unhide HR1)).mono ?_; rintro e w2 ⟨rfl, hr2, st2⟩; have HR2 := hide hr2; have HST2 := hide ((unhide HST).trans st2); clear hr2 st2) | (go_at_call 13; refine (unhide C13 _ (unhide HR2)).mono ?_; rintro e w3 ⟨rfl, hs3⟩; have HR3 := hide ((unhide HR2).same hs3); have HST3 := hide ((unhide HST2).trans (hs3.step _)); clear hs3) | (go_at_call 14; refine (unhide C14 _ (unhide HR3)).mono ?_; rintro e w4 ⟨rfl, hs4⟩; have HR4 := hide ((unhide HR3).same hs4); have HST4 := hide ((unhide HST3).trans (hs4.step _)); clear hs4; obtain ⟨a28, c28, hc28⟩ := unhide C28 _ (unhide HR4); have HC28 := hide hc28; clear hc28) | (go_at_call 19; refine (unhide C19 _ (unhide HR4)).mono ?_; rintro e w' ⟨rfl, rfl⟩) | (go_at_call 20; refine (unhide C20 _ (unhide HR4)).mono ?_; rintro e w' ⟨rfl, rfl⟩) | (go_at_call 28; refine (unhide HC28).mono ?_; rintro e w' ⟨rfl, rfl⟩))
    go_ret
    exact ⟨rfl, unhide HR4, unhide HST4⟩
  · have hv0 := unhide HVL
    rw [if_neg h0] at hv0
    have hg : S.reset.vals.getD 0 [] = [] := by simp only [St.reset, getD_nils]
    have HV0 := hide hv0
    have HG := hide hg
    have hm1 : 0 < m := by omega
    clear hv0 hg h0
    go_enter Try.func25, Try.ntmps25
    go_wp2_with (first | (go_at_call 18; refine (unhide C18).mono ?_; rintro e w' ⟨rfl, rfl⟩) | (go_at_call 17; refine (unhide V).mono ?_; rintro e w1 ⟨v, rfl, hr1, st1, hview⟩; obtain ⟨va, vc, rfl, hvl, hvw⟩ := hview.rows; rw [unhide HV0] at hvw; obtain ⟨cb, blks, rfl, q1, q2⟩ := hvw (by omega); have qc := q1 0 (by omega); rw [unhide HG, capOf_zero, List.length_nil] at qc; rw [unhide HV0]; have HR1 := hide hr1; have HST := hide st1; clear hr1 st1 hview hvl hvw q1 q2) | (go_at_call 11; refine (unhide C11 _ (unhide HR1)).mono ?_; rintro e w2 ⟨rfl, hr2, st2⟩; have HR2 := hide hr2; have HST2 := hide ((unhide HST).trans st2); clear hr2 st2) | (go_at_call 13; refine (unhide C13 _ (unhide HR2)).mono ?_; rintro e w3 ⟨rfl, hs3⟩; have HR3 := hide ((unhide HR2).same hs3); have HST3 := hide ((unhide HST2).trans (hs3.step _)); clear hs3) | (go_at_call 14; refine (unhide C14 _ (unhide HR3)).mono ?_; rintro e w4 ⟨rfl, hs4⟩; have HR4 := hide ((unhide HR3).same hs4); have HST4 := hide ((unhide HST3).trans (hs4.step _)); clear hs4; obtain ⟨a28, c28, hc28⟩ := unhide C28 _ (unhide HR4); have HC28 := hide hc28; clear hc28) | (go_at_call 19; refine (unhide C19 _ (unhide HR4)).mono ?_; rintro e w' ⟨rfl, rfl⟩) | (go_at_call 20; refine (unhide C20 _ (unhide HR4)).mono ?_; rintro e w' ⟨rfl, rfl⟩) | (go_at_call 28; refine (unhide HC28).mono ?_; rintro e w' ⟨rfl, rfl⟩))
    go_ret
    exact ⟨rfl, unhide HR4, unhide HST4⟩

end Go.Proofs.Qxb6600929a
