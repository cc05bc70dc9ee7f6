/- The list side, walked: zzLastIndex, zzHasModel. -/
import Derived.Test.Qxb6601093aLabels
namespace Go.Proofs.Qxb6601093a
open Go.RowKit
set_option linter.unusedSimpArgs false
set_option linter.unusedVariables false

/-- A slice of pairs as the walk reads it. -/
def InPairs (w : World) (a : Option Addr) (ls : List Pr) : Prop :=
  0 < ls.length → ∃ bb off, a = some ⟨bb, off, none⟩ ∧ bb < w.heap.size ∧ ∀ j, j < ls.length → w.cell? ⟨bb, off + j * 2, none⟩ = some (.string (ls.getD j nop).1) ∧ w.cell? ⟨bb, off + j * 2 + 1, none⟩ = some (.string (ls.getD j nop).2)

theorem InPairs.below {w w' : World} {a : Option Addr} {ls : List Pr} (h : InPairs w a ls) {B : Nat} (hb : Below B w w') (hB : ∀ x, a = some x → x.block < B) : InPairs w' a ls := by
  intro hp
  obtain ⟨bb, off, e, hl, hc⟩ := h hp
  have hbb : bb < B := hB _ e
  exact ⟨bb, off, e, by have := hb.size; omega, fun j hj => ⟨(hb.cell (p := ⟨bb, off + j * 2, none⟩) hbb).trans (hc j hj).1, (hb.cell (p := ⟨bb, off + j * 2 + 1, none⟩) hbb).trans (hc j hj).2⟩⟩

def Same (w w' : World) : Prop := w'.heap = w.heap ∧ w'.os = w.os ∧ w'.tape = w.tape ∧ w'.output = w.output
theorem Same.refl (w : World) : Same w w := ⟨rfl, rfl, rfl, rfl⟩
theorem Same.trans {a b c : World} (h : Same a b) (k : Same b c) : Same a c := ⟨k.1.trans h.1, k.2.1.trans h.2.1, k.2.2.1.trans h.2.2.1, k.2.2.2.trans h.2.2.2⟩
theorem Same.cell {w w' : World} (h : Same w w') (a : Addr) : w'.cell? a = w.cell? a := by simp [World.cell?, h.1]
theorem Same.below {w w' : World} (h : Same w w') (B : Nat) : Below B w w' := ⟨h.2.1, h.2.2.1, h.2.2.2, by rw [h.1]; exact Nat.le_refl _, fun _ _ => by rw [h.1]⟩
theorem same_drewN (w : World) (k : Nat) : Same w (w.drewN k) := ⟨rfl, rfl, rfl, rfl⟩
theorem InPairs.same {w w' : World} {a : Option Addr} {ls : List Pr} (h : InPairs w a ls) (hs : Same w w') : InPairs w' a ls := by
  intro hp
  obtain ⟨bb, off, e, hl, hc⟩ := h hp
  exact ⟨bb, off, e, by rw [hs.1]; exact hl, fun j hj => ⟨(hs.cell _).trans (hc j hj).1, (hs.cell _).trans (hc j hj).2⟩⟩

theorem eq_bytes {a b : ByteArray} : (a.toList == b.toList) = true ↔ a = b := by
  rw [ByteArray.toList_eq, ByteArray.toList_eq, beq_iff_eq]
  exact ⟨WideShapes.bytes_inj, fun h => by rw [h]⟩

set_option maxHeartbeats 1000000 in
theorem last26 (a : Option Addr) (c : Nat) (ls : List Pr) (key : ByteArray) (w : World) (hr : InPairs w a ls) (hl : ls.length ≤ 1000000) :
    Calls Try.prog 26 #[.slice a ls.length c, .string key] w fun e w' => e = .returned (.int .i64 (lastIdx ls key)) ∧ w = w' := by
  have HR := hide hr
  clear hr
  go_enter Try.func26, Try.ntmps26
  go_wp2_with fail
  go_loop [5, 6] (fun j i => ∃ k : Nat, k ≤ ls.length ∧ i = .int .i64 k ∧ j = .int .i64 (lastI ls key k)) (fun _ i => ls.length - (intOf i).toNat)
  case atStart => exact ⟨0, Nat.zero_le _, rfl, rfl⟩
  case round =>
    obtain ⟨k, hk, rfl, rfl⟩ := hrel
    by_cases hlt : k < ls.length
    · obtain ⟨bb, off, rfl, hbb, hc⟩ := unhide HR (by omega)
      obtain ⟨c1, c2⟩ := hc k hlt
      have hst : lastI ls key (k + 1) = if (ls.getD k nop).1 = key then (k : Int) else lastI ls key k := rfl
      obtain ⟨x, hx⟩ : ∃ x, x = (ls.getD k nop).1 := ⟨_, rfl⟩
      rw [← hx] at c1 hst
      have HST := hide hst
      obtain ⟨z, hz⟩ : ∃ z, z = lastI ls key k := ⟨_, rfl⟩
      rw [← hz] at HST
      rw [← hz]
      clear hc hx c2 hst hz
      by_cases he : x = key
      · have he' : (x.toList == key.toList) = true := eq_bytes.2 he
        have HE := hide he
        clear he
        go_wp2_with fail
        go_round
        case rel => exact ⟨k + 1, by omega, by go_num, by rw [unhide HST, if_pos (unhide HE)]⟩
        case measure => simp [intOf]; omega
      · have he' : (x.toList == key.toList) = false := by
          cases hb : (x.toList == key.toList) with
          | false => rfl
          | true => exact absurd (eq_bytes.1 hb) he
        have HE := hide he
        clear he
        go_wp2_with fail
        go_round
        case rel => exact ⟨k + 1, by omega, by go_num, by rw [unhide HST, if_neg (unhide HE)]⟩
        case measure => simp [intOf]; omega
    · obtain rfl : k = ls.length := by omega
      go_wp2_with fail
      go_ret
      exact ⟨rfl, rfl⟩

theorem model_step (labels want : List Pr) (h : ∀ i, i < want.length → okAt labels want (want.getD i nop).1 = true) : model labels want = true := by
  unfold model
  rw [List.all_eq_true]
  intro i hi
  exact h i (by simpa using hi)
theorem model_stop (labels want : List Pr) (i : Nat) (hi : i < want.length) (h : okAt labels want (want.getD i nop).1 = false) : model labels want = false := by
  cases hm : model labels want with
  | false => rfl
  | true =>
    unfold model at hm
    rw [List.all_eq_true] at hm
    have := hm i (by simpa using hi)
    rw [h] at this
    cases this

set_option maxHeartbeats 2000000 in
theorem model15 (a b : Option Addr) (c d : Nat) (labels want : List Pr) (w : World) (ha : InPairs w a labels) (hb : InPairs w b want) (hl1 : labels.length ≤ 1000000) (hl2 : want.length ≤ 1000000) :
    Calls Try.prog 15 #[.slice a labels.length c, .slice b want.length d] w fun e w' => e = .returned (.bool (model labels want)) ∧ Same w w' := by
  have HA := hide ha
  have HB := hide hb
  clear ha hb
  go_enter Try.func15, Try.ntmps15
  go_wp2_with fail
  go_loopw [5] (fun i wr => ∃ k : Nat, k ≤ want.length ∧ i = .int .i64 k ∧ Same w wr ∧ ∀ j, j < k → okAt labels want (want.getD j nop).1 = true) (fun i _ => want.length - (intOf i).toNat)
  case atStart => exact ⟨0, Nat.zero_le _, rfl, Same.refl _, fun j hj => by omega⟩
  case round =>
    obtain ⟨k, hk, rfl, hsame, hall⟩ := hrel
    have HS := hide hsame
    have HAll := hide hall
    by_cases hlt : k < want.length
    · have hb2 := (unhide HB).same hsame
      have ha2 := (unhide HA).same hsame
      have L1 := hide (last26 a c labels (want.getD k nop).1 wr ha2 hl1)
      have L2 := hide (last26 b d want (want.getD k nop).1 wr hb2 hl2)
      obtain ⟨bb, off, rfl, hbb, hc⟩ := hb2 (by omega)
      obtain ⟨c1, c2⟩ := hc k hlt
      have bl := lastI_bounds labels (want.getD k nop).1 labels.length
      have bw := lastI_bounds want (want.getD k nop).1 want.length
      have pw := lastI_pos want (want.getD k nop).1 want.length k hlt rfl
      have hok : Hid (okAt labels want (want.getD k nop).1 = (decide (0 ≤ lastIdx labels (want.getD k nop).1) && ((labels.getD (lastIdx labels (want.getD k nop).1).toNat nop).2.toList == (want.getD (lastIdx want (want.getD k nop).1).toNat nop).2.toList))) := rfl
      have hla : 0 ≤ lastIdx labels (want.getD k nop).1 → ∃ b2 o2, a = some ⟨b2, o2, none⟩ ∧ wr.cell? ⟨b2, o2 + (lastIdx labels (want.getD k nop).1).toNat * 2 + 1, none⟩ = some (.string (labels.getD (lastIdx labels (want.getD k nop).1).toNat nop).2) := fun h0 => by
        unfold lastIdx at h0
        obtain ⟨b2, o2, e, _, hc2⟩ := ha2 (by omega)
        exact ⟨b2, o2, e, (hc2 _ (by unfold lastIdx; omega)).2⟩
      have hlw := (hc (lastIdx want (want.getD k nop).1).toNat (by unfold lastIdx; omega)).2
      change -1 ≤ lastIdx labels (want.getD k nop).1 ∧ _ at bl
      change _ ∧ lastIdx want (want.getD k nop).1 < _ at bw
      change 0 ≤ lastIdx want (want.getD k nop).1 at pw
      obtain ⟨key, hkey⟩ : ∃ key, key = (want.getD k nop).1 := ⟨_, rfl⟩
      rw [← hkey] at c1 L1 L2 bl bw pw hok hla hlw
      have HK := hide hkey
      obtain ⟨j1, hj1⟩ : ∃ j1, j1 = lastIdx labels key := ⟨_, rfl⟩
      obtain ⟨j2, hj2⟩ : ∃ j2, j2 = lastIdx want key := ⟨_, rfl⟩
      rw [← hj1] at L1 bl hok hla
      rw [← hj2] at L2 bw pw hok hlw
      have hj1u : j1 < (labels.length : Int) := by rw [hj1]; exact (lastI_bounds labels key labels.length).2
      obtain ⟨v2, hv2⟩ : ∃ v2, v2 = (want.getD j2.toNat nop).2 := ⟨_, rfl⟩
      rw [← hv2] at hlw hok
      have bl1 := bl.1
      have bw2 := bw.2
      clear hc c2 bl bw hkey hj1 hj2 hv2 ha2 hsame hall
      by_cases h0 : 0 ≤ j1
      · obtain ⟨b2, o2, rfl, hc2⟩ := hla h0
        obtain ⟨v1, hv1⟩ : ∃ v1, v1 = (labels.getD j1.toNat nop).2 := ⟨_, rfl⟩
        rw [← hv1] at hc2 hok
        clear hv1 hla
        cases hv : (v1.toList == v2.toList) with
        | true =>
          have hn : (v1.toList != v2.toList) = false := by simp [bne, hv]
          have HOK : Hid (okAt labels want key = true) := by
            show okAt labels want key = true
            rw [unhide hok, hv]; simp [h0]
          clear hok
          go_wp2_with fail
          refine (unhide L1).mono ?_
          rintro e w1 ⟨rfl, rfl⟩
          go_wp2_with fail
          refine (unhide L2).mono ?_
          rintro e w1 ⟨rfl, rfl⟩
          go_wp2_with fail
          go_quiet (fail)
          go_wp2_with fail
          go_roundw
          case rel =>
            refine ⟨k + 1, by omega, by go_num, (unhide HS).trans (same_drewN _ _), fun j hj => ?_⟩
            by_cases e : j = k
            · subst e; rw [← unhide HK]; exact unhide HOK
            · exact unhide HAll j (by omega)
          case measure => simp [intOf]; omega
        | false =>
          have hn : (v1.toList != v2.toList) = true := by simp [bne, hv]
          have HOK : Hid (okAt labels want key = false) := by
            show okAt labels want key = false
            rw [unhide hok, hv]; simp
          clear hok
          go_wp2_with fail
          refine (unhide L1).mono ?_
          rintro e w1 ⟨rfl, rfl⟩
          go_wp2_with fail
          refine (unhide L2).mono ?_
          rintro e w1 ⟨rfl, rfl⟩
          go_wp2_with fail
          go_quiet (fail)
          go_wp2_with fail
          go_ret
          exact ⟨ret_bool (model_stop labels want k hlt (by rw [← unhide HK]; exact unhide HOK)).symm, (unhide HS).trans (same_drewN _ _)⟩
      · have HOK : Hid (okAt labels want key = false) := by
          show okAt labels want key = false
          rw [unhide hok]
          simp [h0]
        have h0' : j1 < 0 := by omega
        clear hok hla h0
        go_wp2_with fail
        refine (unhide L1).mono ?_
        rintro e w1 ⟨rfl, rfl⟩
        go_wp2_with fail
        go_ret
        exact ⟨ret_bool (model_stop labels want k hlt (by rw [← unhide HK]; exact unhide HOK)).symm, unhide HS⟩
    · obtain rfl : k = want.length := by omega
      clear hsame hall
      go_wp2_with fail
      go_ret
      exact ⟨ret_bool (model_step labels want (unhide HAll)).symm, unhide HS⟩
end Go.Proofs.Qxb6601093a
