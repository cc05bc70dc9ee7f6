/- The law FnResetIsIdempotent, walked. -/
import Derived.Test.Qxb6600929aResetState
namespace Go.Proofs.Qxb6600929a
open Go.RowKit
set_option linter.unusedSimpArgs false
set_option linter.unusedVariables false

set_option maxHeartbeats 400000 in
theorem bytes29 (a0 : Option Addr) (len cap : Nat) (w : World) (h : len ≤ 1048576) :
    Calls Try.prog 29 #[.slice a0 len cap] w fun e w' => e = .returned (.bool true) ∧ w = w' := by
  go_enter Try.func29, Try.ntmps29
  go_wp2
  go_ret
  exact ⟨rfl, rfl⟩
set_option maxHeartbeats 400000 in
theorem bytes29_no (a0 : Option Addr) (len cap : Nat) (w : World) (h : 1048576 < len) :
    Calls Try.prog 29 #[.slice a0 len cap] w fun e w' => e = .returned (.bool false) ∧ w = w' := by
  go_enter Try.func29, Try.ntmps29
  go_wp2
  go_ret
  exact ⟨rfl, rfl⟩

set_option maxHeartbeats 1000000 in
theorem walk7_long (a0 : Option Addr) (cap0 len : Nat) (w : World) (h : 131072 < len) (hm : len ≤ maxLen) :
    Calls Try.prog 7 #[.slice a0 len cap0] w fun e w' => e = .returned (.bool true) ∧ Below w.heap.size w w' := by
  unfold maxLen at hm
  by_cases h2 : len ≤ 1048576
  · go_enter Try.func7, Try.ntmps7
    go_wp2_with (first | (go_at_call 29; refine (bytes29 _ _ _ _ (by omega)).mono ?_; rintro e w' ⟨rfl, rfl⟩))
    go_ret
    exact ⟨rfl, Below.refl _ _⟩
  · go_enter Try.func7, Try.ntmps7
    go_wp2_with (first | (go_at_call 29; refine (bytes29_no _ _ _ _ (by omega)).mono ?_; rintro e w' ⟨rfl, rfl⟩))
    go_ret
    exact ⟨rfl, Below.refl _ _⟩

set_option maxHeartbeats 1000000 in
theorem walk7_neg (a0 : Option Addr) (cap0 : Nat) (ds : List Int) (w : World) (hrow : InRow .i64 w a0 ds) (hlen : ds.length ≤ 131072) (hn : hasNeg ds = true) :
    Calls Try.prog 7 #[.slice a0 ds.length cap0] w fun e w' => e = .returned (.bool true) ∧ Below w.heap.size w w' := by
  have hneg := neg9 a0 cap0 ds w hrow (by omega)
  rw [hn] at hneg
  have HN := hide hneg
  clear hneg hn hrow
  go_enter Try.func7, Try.ntmps7
  go_wp2_with (first | (go_at_call 29; refine (bytes29 _ _ _ _ (by omega)).mono ?_; rintro e w' ⟨rfl, rfl⟩) | (go_at_call 9; refine (unhide HN).mono ?_; rintro e w' ⟨rfl, rfl⟩))
  go_ret
  exact ⟨rfl, Below.refl _ _⟩

set_option maxHeartbeats 2000000 in
theorem walk7 (a0 : Option Addr) (cap0 : Nat) (ds : List Int) (w : World) (hrow : InRow .i64 w a0 ds) (hlen : ds.length ≤ 131072) (hn : hasNeg ds = false) :
    Calls Try.prog 7 #[.slice a0 ds.length cap0] w fun e w' => e = .returned (.bool true) ∧ Below w.heap.size w w' := by
  have hneg := neg9 a0 cap0 ds w hrow (by omega)
  rw [hn] at hneg
  have HN := hide hneg
  have HR := hide hrow
  have HB := hide (nonneg_of ds hn)
  clear hneg hn hrow
  go_enter Try.func7, Try.ntmps7
  go_wp2_with (first | (go_at_call 29; refine (bytes29 _ _ _ _ (by omega)).mono ?_; rintro e w' ⟨rfl, rfl⟩) | (go_at_call 9; refine (unhide HN).mono ?_; rintro e w' ⟨rfl, rfl⟩))
  go_loopw [5] (fun i wr => ∃ k : Nat, k ≤ ds.length ∧ i = .int .i64 k ∧ ∃ F, RecS wr w.heap.size w.heap.size (fill (ds.take k)) F ∧ Below w.heap.size w wr) (fun i _ => ds.length - (intOf i).toNat)
  case atStart => exact ⟨0, Nat.zero_le _, rfl, _, rec_made w, (Below.refl _ _).alloc (Nat.le_refl _) _⟩
  case round =>
    obtain ⟨k, hk, rfl, F, hrec, hbel⟩ := hrel
    have HRec := hide hrec
    have HBel := hide hbel
    by_cases hlt : k < ds.length
    · obtain ⟨bb, off, rfl, hbb, hc⟩ := (unhide HR).below hbel (by omega)
      have hck := hc k hlt
      have hbk := unhide HB k hlt
      have HStep := hide (round_add hrec hlt hbk (by omega))
      have HE : Hid (∃ x, x = ds.getD k 0) := ⟨_, rfl⟩
      obtain ⟨x, hx⟩ := unhide HE
      rw [← hx] at hck hbk HStep
      have HX := hide hx
      clear hx hc hrec hbel
      go_wp2_with (first | (go_at_call 10; refine (unhide HStep).mono ?_; rintro e w' ⟨rfl, F', hrec', st'⟩))
      go_roundw
      case rel =>
        have hr := unhide HRec
        exact ⟨k + 1, by omega, by go_num, F', by rw [fill_snoc ds k hlt, ← unhide HX]; exact hrec', (unhide HBel).trans (hr.stepBelow st')⟩
      case measure => simp [intOf]; omega
    · obtain rfl : k = ds.length := by omega
      rw [List.take_length] at hrec HRec
      have hbs := fill_bounds ds ds.length (Nat.le_refl _) (by omega)
      rw [List.take_length] at hbs
      obtain ⟨S, hS⟩ : ∃ S, S = fill ds := ⟨_, rfl⟩
      rw [← hS] at hrec hbs HRec
      have C18 := hide (count_any hrec)
      have R24 := hide (reset24 hrec hbs.1)
      have C25 : Hid (∀ w1, RecS w1 w.heap.size w.heap.size S.reset F → Calls Try.prog 25 #[.pointer (some ⟨w.heap.size, 0, none⟩), .int .i64 S.vals.length] w1 fun e w' => e = .returned (.bool true) ∧ RecS w' w.heap.size w.heap.size S.reset F ∧ Step w1 w' F F) :=
        fun w1 h1 => state25 h1 hbs.1
      have R24b : Hid (∀ w1, RecS w1 w.heap.size w.heap.size S.reset F → Calls Try.prog 24 #[.pointer (some ⟨w.heap.size, 0, none⟩)] w1 fun e w' => e = .returned (.tuple #[]) ∧ RecS w' w.heap.size w.heap.size S.reset F ∧ Step w1 w' F F) := by
        intro w1 h1
        have := reset24 h1 (by rw [reset_len]; exact hbs.1)
        rw [reset_reset] at this
        exact this
      obtain ⟨m, hm⟩ : ∃ m, m = S.vals.length := ⟨_, rfl⟩
      rw [← hm] at C18 C25
      clear hm hbs hS hrec hbel HB HR HN
      go_wp2_with (first | (go_at_call 18; refine (unhide C18).mono ?_; rintro e w' ⟨rfl, rfl⟩) | (go_at_call 25; refine (unhide C25 _ (unhide HR3)).mono ?_; rintro e w4 ⟨rfl, hr4, st4⟩; have HB4 := hide ((unhide HB3).trans ((unhide HR3).stepBelow st4)); clear hr4 st4) | (go_at_call 25; refine (unhide C25 _ (unhide HR1)).mono ?_; rintro e w2 ⟨rfl, hr2, st2⟩; have HR2 := hide hr2; have HB2 := hide ((unhide HB1).trans ((unhide HR1).stepBelow st2)); clear hr2 st2) | (go_at_call 24; refine (unhide R24b _ (unhide HR2)).mono ?_; rintro e w3 ⟨rfl, hr3, st3⟩; have HR3 := hide hr3; have HB3 := hide ((unhide HB2).trans ((unhide HR2).stepBelow st3)); clear hr3 st3) | (go_at_call 24; refine (unhide R24).mono ?_; rintro e w1 ⟨rfl, hr1, st1⟩; have HR1 := hide hr1; have HB1 := hide ((unhide HBel).trans ((unhide HRec).stepBelow st1)); clear hr1 st1))
      go_ret
      exact ⟨rfl, unhide HB4⟩
end Go.Proofs.Qxb6600929a
