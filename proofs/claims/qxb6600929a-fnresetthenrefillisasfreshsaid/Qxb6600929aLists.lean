/- The laws' own helpers over a list that came in: zzHasNegativeB1, zzTotalB1, zzNarrowCountB1. -/
import Derived.Test.Qxb6600929aSum
namespace Go.Proofs.Qxb6600929a
open Go.RowKit
set_option linter.unusedSimpArgs false
set_option linter.unusedVariables false

theorem ret_bool {a b : Bool} (h : a = b) : Ending.returned (.bool a) = .returned (.bool b) := by rw [h]

def hasNeg (ds : List Int) : Bool := ds.any (fun x => decide (x < 0))
theorem hasNeg_true (ds : List Int) (k : Nat) (h : k < ds.length) (hx : ds.getD k 0 < 0) : hasNeg ds = true := by
  unfold hasNeg
  rw [List.any_eq_true]
  refine ⟨ds.getD k 0, ?_, by simpa using hx⟩
  simp [List.getD, h]
theorem hasNeg_false (ds : List Int) (h : ∀ j, j < ds.length → 0 ≤ ds.getD j 0) : hasNeg ds = false := by
  unfold hasNeg
  rw [List.any_eq_false]
  intro x hx
  obtain ⟨i, hi, he⟩ := List.getElem_of_mem hx
  have := h i hi
  simp [List.getD, hi, he] at this
  simpa using this
theorem nonneg_of (ds : List Int) (h : hasNeg ds = false) : ∀ j, j < ds.length → 0 ≤ ds.getD j 0 := by
  intro j hj
  apply Classical.byContradiction
  intro hn
  rw [hasNeg_true ds j hj (by omega)] at h
  cases h

set_option maxHeartbeats 1000000 in
theorem neg9 (a0 : Option Addr) (cap0 : Nat) (ds : List Int) (w : World) (hrow : InRow .i64 w a0 ds) (hlen : ds.length ≤ 1000000) :
    Calls Try.prog 9 #[.slice a0 ds.length cap0] w fun e w' => e = .returned (.bool (hasNeg ds)) ∧ w = w' := by
  have HR := hide hrow
  clear hrow
  go_enter Try.func9, Try.ntmps9
  go_wp2_with fail
  go_loop [3] (fun i => ∃ k : Nat, k ≤ ds.length ∧ i = .int .i64 k ∧ ∀ j, j < k → 0 ≤ ds.getD j 0) (fun i => ds.length - (intOf i).toNat)
  case atStart => exact ⟨0, Nat.zero_le _, rfl, fun j hj => by omega⟩
  case round =>
    obtain ⟨k, hk, rfl, hall⟩ := hrel
    have HA := hide hall
    clear hall
    by_cases hlt : k < ds.length
    · obtain ⟨bb, off, rfl, hbb, hc⟩ := unhide HR (by omega)
      have hck := hc k hlt
      obtain ⟨x, hx⟩ : ∃ x, x = ds.getD k 0 := ⟨_, rfl⟩
      rw [← hx] at hck
      have HX := hide hx
      clear hx hc
      by_cases hn : x < 0
      · go_wp2_with fail
        go_ret
        exact ⟨ret_bool (hasNeg_true ds k hlt (by rw [← unhide HX]; exact hn)).symm, rfl⟩
      · go_wp2_with fail
        go_round
        case rel =>
          refine ⟨k + 1, by omega, by go_num, fun j hj => ?_⟩
          by_cases e : j = k
          · rw [e, ← unhide HX]; omega
          · exact unhide HA j (by omega)
        case measure => simp [intOf]; omega
    · obtain rfl : k = ds.length := by omega
      go_wp2_with fail
      go_ret
      exact ⟨ret_bool (hasNeg_false ds (unhide HA)).symm, rfl⟩

set_option maxHeartbeats 1000000 in
theorem total12 (a0 : Option Addr) (cap0 : Nat) (ds : List Int) (w : World) (hrow : InRow .i64 w a0 ds) (hlen : ds.length ≤ 1000000) :
    Calls Try.prog 12 #[.slice a0 ds.length cap0] w fun e w' => e = .returned (.int .i64 (wrap64 ds.sum)) ∧ w = w' := by
  have HR := hide hrow
  clear hrow
  go_enter Try.func12, Try.ntmps12
  go_wp2_with fail
  go_loop [3, 4] (fun t i => ∃ k : Nat, k ≤ ds.length ∧ i = .int .i64 k ∧ t = .int .i64 (wrap64 (psum ds k))) (fun _ i => ds.length - (intOf i).toNat)
  case atStart => exact ⟨0, Nat.zero_le _, rfl, by rw [psum_zero, wrap64_id 0 (by omega) (by omega)]⟩
  case round =>
    obtain ⟨k, hk, rfl, rfl⟩ := hrel
    by_cases hlt : k < ds.length
    · obtain ⟨bb, off, rfl, hbb, hc⟩ := unhide HR (by omega)
      have hck := hc k hlt
      have hps := psum_step ds k hlt
      obtain ⟨x, hx⟩ : ∃ x, x = ds.getD k 0 := ⟨_, rfl⟩
      obtain ⟨p, hp⟩ : ∃ p, p = wrap64 (psum ds k) := ⟨_, rfl⟩
      rw [← hx] at hck hps
      rw [← hp]
      have HP := hide hp
      have HPS := hide hps
      clear hx hc hp hps
      go_wp2_with fail
      go_round
      case rel => exact ⟨k + 1, by omega, by go_num, by rw [unhide HPS, unhide HP, wrap64_add]⟩
      case measure => simp [intOf]; omega
    · obtain rfl : k = ds.length := by omega
      rw [psum_all]
      go_wp2_with fail
      go_ret
      exact ⟨rfl, rfl⟩

theorem narrows_snoc (ds : List Int) (k : Nat) (h : k < ds.length) : (narrows (ds.take (k + 1))).length = (narrows (ds.take k)).length + if ds.getD k 0 ≤ 4294967295 then 1 else 0 := by
  rw [take_snoc ds k h]
  generalize ds.getD k 0 = x
  by_cases e : x ≤ 4294967295
  · simp [narrows, List.filter_append, e]
  · simp [narrows, List.filter_append, e]

set_option maxHeartbeats 1000000 in
theorem count15 (a0 : Option Addr) (cap0 : Nat) (ds : List Int) (w : World) (hrow : InRow .i64 w a0 ds) (hlen : ds.length ≤ 1000000) (hpos : ∀ j, j < ds.length → 0 ≤ ds.getD j 0) :
    Calls Try.prog 15 #[.slice a0 ds.length cap0] w fun e w' => e = .returned (.int .i64 (narrows ds).length) ∧ w = w' := by
  have HR := hide hrow
  have HP := hide hpos
  clear hrow hpos
  go_enter Try.func15, Try.ntmps15
  go_wp2_with fail
  go_loop [3, 4] (fun t i => ∃ k : Nat, k ≤ ds.length ∧ i = .int .i64 k ∧ t = .int .i64 (narrows (ds.take k)).length) (fun _ i => ds.length - (intOf i).toNat)
  case atStart => exact ⟨0, Nat.zero_le _, rfl, rfl⟩
  case round =>
    obtain ⟨k, hk, rfl, rfl⟩ := hrel
    by_cases hlt : k < ds.length
    · obtain ⟨bb, off, rfl, hbb, hc⟩ := unhide HR (by omega)
      have hck := hc k hlt
      have hx0 := unhide HP k hlt
      have hsn := narrows_snoc ds k hlt
      have hb : (narrows (ds.take k)).length ≤ 1000000 := by have := narrows_len (ds.take k); simp at this; omega
      obtain ⟨x, hx⟩ : ∃ x, x = ds.getD k 0 := ⟨_, rfl⟩
      obtain ⟨p, hp⟩ : ∃ p, p = (narrows (ds.take k)).length := ⟨_, rfl⟩
      rw [← hx] at hck hx0 hsn
      rw [← hp] at hsn hb
      rw [← hp]
      have HSN := hide hsn
      clear hx hc hp hsn
      by_cases hn : x ≤ 4294967295
      · go_wp2_with fail
        go_round
        case rel => exact ⟨k + 1, by omega, by go_num, by rw [unhide HSN, if_pos hn]; go_num⟩
        case measure => simp [intOf]; omega
      · go_wp2_with fail
        go_round
        case rel => exact ⟨k + 1, by omega, by go_num, by rw [unhide HSN, if_neg hn]; rfl⟩
        case measure => simp [intOf]; omega
    · obtain rfl : k = ds.length := by omega
      rw [List.take_length]
      go_wp2_with fail
      go_ret
      exact ⟨rfl, rfl⟩

theorem fill_snoc (ds : List Int) (k : Nat) (h : k < ds.length) : fill (ds.take (k + 1)) = (fill (ds.take k)).add (ds.getD k 0) := by
  rw [take_snoc ds k h]
  exact fillFrom_snoc _ _ _

theorem fill_bounds (ds : List Int) (k : Nat) (h : k ≤ ds.length) (hl : ds.length ≤ 262144) : (fill (ds.take k)).vals.length ≤ 1000000 ∧ (fill (ds.take k)).vals.flatten.length ≤ 1000000 ∧ (fill (ds.take k)).wide.length ≤ 1000000 := by
  have g := fill_greedy ds k h
  have h1 := g.count
  have h2 := narrows_len (ds.take k)
  have h3 := wides_len (ds.take k)
  have h4 : (ds.take k).length ≤ 262144 := by simp; omega
  rw [g.flat, g.wide]
  omega

theorem round_add {wr : World} {base b : Nat} {ds : List Int} {k : Nat} {F : List Nat} (h : RecS wr base b (fill (ds.take k)) F) (hlt : k < ds.length) (h0 : 0 ≤ ds.getD k 0) (hl : ds.length ≤ 262144) :
    Calls Try.prog 10 #[.pointer (some ⟨b, 0, none⟩), .int .i64 (ds.getD k 0)] wr fun e w' => e = .returned (.bool ((fill (ds.take k)).moved (ds.getD k 0))) ∧ ∃ F', RecS w' base b ((fill (ds.take k)).add (ds.getD k 0)) F' ∧ Step wr w' F F' := by
  obtain ⟨h1, h2, h3⟩ := fill_bounds ds k (by omega) hl
  exact add_any h _ h0 h1 h2 h3



end Go.Proofs.Qxb6600929a
