/- The law FnSumIsTotalOfAdded, walked. -/
import Derived.Test.Qxb6600929aLists
namespace Go.Proofs.Qxb6600929a
open Go.RowKit
set_option linter.unusedSimpArgs false
set_option linter.unusedVariables false

set_option maxHeartbeats 400000 in
theorem bytes8 (a0 : Option Addr) (len cap : Nat) (w : World) (h : len ≤ 1048576) :
    Calls Try.prog 8 #[.slice a0 len cap] w fun e w' => e = .returned (.bool true) ∧ w = w' := by
  go_enter Try.func8, Try.ntmps8
  go_wp2
  go_ret
  exact ⟨rfl, rfl⟩
set_option maxHeartbeats 400000 in
theorem bytes8_no (a0 : Option Addr) (len cap : Nat) (w : World) (h : 1048576 < len) :
    Calls Try.prog 8 #[.slice a0 len cap] w fun e w' => e = .returned (.bool false) ∧ w = w' := by
  go_enter Try.func8, Try.ntmps8
  go_wp2
  go_ret
  exact ⟨rfl, rfl⟩

set_option maxHeartbeats 1000000 in
theorem walk3_long (a0 : Option Addr) (cap0 len : Nat) (w : World) (h : 131072 < len) (hm : len ≤ maxLen) :
    Calls Try.prog 3 #[.slice a0 len cap0] w fun e w' => e = .returned (.bool true) ∧ Below w.heap.size w w' := by
  unfold maxLen at hm
  by_cases h2 : len ≤ 1048576
  · go_enter Try.func3, Try.ntmps3
    go_wp2_with (first | (go_at_call 8; refine (bytes8 _ _ _ _ (by omega)).mono ?_; rintro e w' ⟨rfl, rfl⟩))
    go_ret
    exact ⟨rfl, Below.refl _ _⟩
  · go_enter Try.func3, Try.ntmps3
    go_wp2_with (first | (go_at_call 8; refine (bytes8_no _ _ _ _ (by omega)).mono ?_; rintro e w' ⟨rfl, rfl⟩))
    go_ret
    exact ⟨rfl, Below.refl _ _⟩

set_option maxHeartbeats 1000000 in
theorem walk3_neg (a0 : Option Addr) (cap0 : Nat) (ds : List Int) (w : World) (hrow : InRow .i64 w a0 ds) (hlen : ds.length ≤ 131072) (hn : hasNeg ds = true) :
    Calls Try.prog 3 #[.slice a0 ds.length cap0] w fun e w' => e = .returned (.bool true) ∧ Below w.heap.size w w' := by
  have hneg := neg9 a0 cap0 ds w hrow (by omega)
  rw [hn] at hneg
  have HN := hide hneg
  clear hneg hn hrow
  go_enter Try.func3, Try.ntmps3
  go_wp2_with (first | (go_at_call 8; refine (bytes8 _ _ _ _ (by omega)).mono ?_; rintro e w' ⟨rfl, rfl⟩) | (go_at_call 9; refine (unhide HN).mono ?_; rintro e w' ⟨rfl, rfl⟩))
  go_ret
  exact ⟨rfl, Below.refl _ _⟩

set_option maxHeartbeats 2000000 in
theorem walk3 (a0 : Option Addr) (cap0 : Nat) (ds : List Int) (w : World) (hrow : InRow .i64 w a0 ds) (hlen : ds.length ≤ 131072) (hn : hasNeg ds = false) :
    Calls Try.prog 3 #[.slice a0 ds.length cap0] w fun e w' => e = .returned (.bool true) ∧ Below w.heap.size w w' := by
  have hneg := neg9 a0 cap0 ds w hrow (by omega)
  rw [hn] at hneg
  have HN := hide hneg
  have HR := hide hrow
  have HB := hide (nonneg_of ds hn)
  clear hneg hn hrow
  go_enter Try.func3, Try.ntmps3
  go_wp2_with (first | (go_at_call 8; refine (bytes8 _ _ _ _ (by omega)).mono ?_; rintro e w' ⟨rfl, rfl⟩) | (go_at_call 9; refine (unhide HN).mono ?_; rintro e w' ⟨rfl, rfl⟩))
  go_loopw [5] (fun i wr => ∃ k : Nat, k ≤ ds.length ∧ i = .int .i64 k ∧ ∃ F, RecS wr w.heap.size w.heap.size (fill (ds.take k)) F ∧ Below w.heap.size w wr) (fun i _ => ds.length - (intOf i).toNat)
  case atStart => exact ⟨0, Nat.zero_le _, rfl, _, rec_made w, (Below.refl _ _).alloc (Nat.le_refl _) _⟩
  case round =>
    obtain ⟨k, hk, rfl, F, hrec, hbel⟩ := hrel
    have HRec := hide hrec
    have HBel := hide hbel
    by_cases hlt : k < ds.length
    · obtain ⟨bb, off, rfl, hbb, hc⟩ := (unhide HR).below hbel (by omega)
      have hck := hc k hlt
      have hbk := unhide HB k hlt
      have HStep := hide (round_add hrec hlt hbk (by omega))
      have HE : Hid (∃ x, x = ds.getD k 0) := ⟨_, rfl⟩
      obtain ⟨x, hx⟩ := unhide HE
      rw [← hx] at hck hbk HStep
      have HX := hide hx
      clear hx hc hrec hbel
      go_wp2_with (first | (go_at_call 10; refine (unhide HStep).mono ?_; rintro e w' ⟨rfl, F', hrec', st'⟩))
      go_roundw
      case rel =>
        have hr := unhide HRec
        exact ⟨k + 1, by omega, by go_num, F', by rw [fill_snoc ds k hlt, ← unhide HX]; exact hrec', (unhide HBel).trans (hr.stepBelow st')⟩
      case measure => simp [intOf]; omega
    · obtain rfl : k = ds.length := by omega
      rw [List.take_length] at hrec HRec
      have g := fill_greedy_all ds
      have hbs := fill_bounds ds ds.length (Nat.le_refl _) (by omega)
      rw [List.take_length] at hbs
      have hx : ∀ x, x ∈ (fill ds).vals.flatten → 0 ≤ x ∧ x ≤ 4294967295 := by
        intro x hx
        rw [g.flat] at hx
        unfold narrows at hx
        rw [List.mem_filter] at hx
        obtain ⟨i, hi, he⟩ := List.getElem_of_mem hx.1
        have h0 := unhide HB i hi
        simp [List.getD, hi, he] at h0
        exact ⟨h0, by simpa using hx.2⟩
      have hsum := sum11 hrec hbs.1 hbs.2.1 hbs.2.2 hx
      have esum : (fill ds).vals.flatten.sum + (fill ds).wide.sum = ds.sum := by rw [g.flat, g.wide, both_sum]
      rw [esum] at hsum
      have hnl := g.nlen
      have hbl := both_len ds
      have hwl : (fill ds).wide.length = (wides ds).length := by rw [g.wide]
      obtain ⟨S, hS⟩ : ∃ S, S = fill ds := ⟨_, rfl⟩
      rw [← hS] at hsum hnl hwl HRec
      obtain ⟨n1, hn1⟩ : ∃ n1, n1 = (narrows ds).length := ⟨_, rfl⟩
      rw [← hn1] at hnl hbl
      have HSum := hide hsum
      have HLen : Hid (∀ w', RecS w' w.heap.size w.heap.size S F → Calls Try.prog 13 #[.pointer (some ⟨w.heap.size, 0, none⟩)] w' fun e w'' => e = .returned (.int .i64 ds.length) ∧ Same w' w'') := by
        intro w' hr
        have := len_any hr (by omega) (by omega)
        have e : S.nlen + S.wide.length = ds.length := by omega
        rw [e] at this
        exact this
      have HNl : Hid (∀ w', RecS w' w.heap.size w.heap.size S F → Calls Try.prog 14 #[.pointer (some ⟨w.heap.size, 0, none⟩)] w' fun e w'' => e = .returned (.int .i64 n1) ∧ Same w' w'') := by
        intro w' hr
        have := nlen_any hr (by omega)
        rw [hnl] at this
        exact this
      have HT : Hid (∀ w', Below w.heap.size w w' → Calls Try.prog 12 #[.slice a0 ds.length cap0] w' fun e w'' => e = .returned (.int .i64 (wrap64 ds.sum)) ∧ w' = w'') :=
        fun w' hb => total12 a0 cap0 ds w' ((unhide HR).below hb) (by omega)
      have HC : Hid (∀ w', Below w.heap.size w w' → Calls Try.prog 15 #[.slice a0 ds.length cap0] w' fun e w'' => e = .returned (.int .i64 n1) ∧ w' = w'') := by
        intro w' hb
        rw [hn1]
        exact count15 a0 cap0 ds w' ((unhide HR).below hb) (by omega) (unhide HB)
      obtain ⟨T, hT⟩ : ∃ T, T = wrap64 ds.sum := ⟨_, rfl⟩
      rw [← hT] at HSum HT
      clear hsum hS hn1 hnl hbl hwl g hbs hx esum hrec hbel hT HB HR
      go_wp2_with (first | (go_at_call 11; refine (unhide HSum).mono ?_; rintro e w1 ⟨rfl, hr1, st1⟩; have hb1 := hide ((unhide HBel).trans ((unhide HRec).stepBelow st1)); have HR1 := hide hr1; clear hr1 st1) | (go_at_call 12; refine (unhide HT _ (unhide hb1)).mono ?_; rintro e w' ⟨rfl, rfl⟩) | (go_at_call 13; refine (unhide HLen _ (unhide HR1)).mono ?_; rintro e w2 ⟨rfl, hs2⟩; have HS2 := hide hs2; clear hs2) | (go_at_call 14; refine (unhide HNl _ ((unhide HR1).same (unhide HS2))).mono ?_; rintro e w3 ⟨rfl, hs3⟩; have HS3 := hide hs3; clear hs3) | (go_at_call 15; refine (unhide HC _ (((unhide hb1).trans ((unhide HS2).below _)).trans ((unhide HS3).below _))).mono ?_; rintro e w' ⟨rfl, rfl⟩))
      go_ret
      exact ⟨rfl, ((unhide hb1).trans ((unhide HS2).below _)).trans ((unhide HS3).below _)⟩
end Go.Proofs.Qxb6600929a
