/- zzMapOf, walked. -/
import Derived.Test.Qxb6601093aModel
import Derived.Lib.SliceRun
namespace Go.Proofs.Qxb6601093a
open Go.RowKit Go.WideMaps
set_option linter.unusedSimpArgs false
set_option linter.unusedVariables false

theorem mkmap (n : Nat) : ∀ w : World, (Instr.makeMap 27 (some (.int .i64 (n : Int)))).run Try.prog w =
    .ok (.map (some w.heap.size)) (w.alloc (.map #[] 0)) := by
  intro w
  simp [Instr.makeMap, run_underlying Try.underlying27, asInt, asIntOf, Result.andThen]

theorem law9 : Maps.Keyed Try.prog 9 := Maps.string_keyed Try.underlying9
/-- The call's own map. -/
abbrev Owns (w : World) (B n : Nat) (D : DataW Unit) : Prop := w.ownsMap Try.prog 9 (plainElem (H := Unit) Try.prog 9) B n D

set_option maxHeartbeats 1000000 in
theorem map_nil (n c : Nat) (w : World) :
    Calls Try.prog 14 #[.slice none n c] w fun e w' => e = .returned (.map none) ∧ w = w' := by
  have HN : ∀ w : World, (binOp .eql 22 (.slice none n c) (.slice none 0 0)).run Try.prog w = .ok (.bool true) w := fun w => Lib.run_eql_slice_nil w 22 36 none n c 0 0 Try.underlying22
  go_enter Try.func14, Try.ntmps14
  go_wp2_with fail
  go_ret
  exact ⟨rfl, rfl⟩

set_option maxHeartbeats 2000000 in
theorem map_some (x : Addr) (c : Nat) (ls : List Pr) (w : World) (hr : InPairs w (some x) ls) (hl : ls.length ≤ 4096)
    (hsz : ∀ k, k < ls.length → (ls.getD k nop).1.size ≤ maxLen ∧ (ls.getD k nop).2.size ≤ maxLen) :
    Calls Try.prog 14 #[.slice (some x) ls.length c] w fun e w' => e = .returned (.map (some w.heap.size)) ∧ Owns w' w.heap.size ls.length (mapD ls ls.length) ∧ Below w.heap.size w w' := by
  have HN : ∀ w : World, (binOp .eql 22 (.slice (some x) ls.length c) (.slice none 0 0)).run Try.prog w = .ok (.bool false) w := fun w => Lib.run_eql_slice_nil w 22 36 (some x) ls.length c 0 0 Try.underlying22
  have HM := mkmap ls.length
  have HR := hide hr
  have HZ := hide hsz
  clear hr hsz
  go_enter Try.func14, Try.ntmps14
  go_wp2_with fail
  go_loopw [4] (fun i wr => ∃ k : Nat, k ≤ ls.length ∧ i = .int .i64 k ∧ Owns wr w.heap.size k (mapD ls k) ∧ Below w.heap.size w wr) (fun i _ => ls.length - (intOf i).toNat)
  case atStart => exact ⟨0, Nat.zero_le _, rfl, World.ownsMap_made _ _ _ _, (Below.refl _ _).alloc (Nat.le_refl _) _⟩
  case round =>
    obtain ⟨k, hk, rfl, hown, hnx⟩ := hrel
    have HO := hide hown
    have HB := hide hnx
    by_cases hlt : k < ls.length
    · obtain ⟨bb, off, he, hbH, hc⟩ := (unhide HR) (by omega)
      obtain rfl : x = ⟨bb, off, none⟩ := Option.some.inj he
      obtain ⟨s1, s2⟩ := hc k hlt
      have c1 := (hnx.cell (p := ⟨bb, off + k * 2, none⟩) hbH).trans s1
      have c2 := (hnx.cell (p := ⟨bb, off + k * 2 + 1, none⟩) hbH).trans s2
      obtain ⟨z1, z2⟩ := (unhide HZ) k hlt
      have hst : mapD ls (k + 1) = (mapD ls k).put (keyL (ls.getD k nop).1) (valD (ls.getD k nop).2) := rfl
      obtain ⟨kx, hx⟩ : ∃ kx, kx = (ls.getD k nop).1 := ⟨_, rfl⟩
      obtain ⟨vx, hy⟩ : ∃ vx, vx = (ls.getD k nop).2 := ⟨_, rfl⟩
      rw [← hx] at c1 z1 hst
      rw [← hy] at c2 z2 hst
      obtain ⟨w2, hrun, hown2, hg2⟩ := World.ownsMap.update (w := wr.drew) hown.drew law9 Try.underlying27 (by unfold maxLen; omega) (keyOf_string_mk Try.underlying9 z1) (plainElem_string (H := Unit) Try.underlying9 z2)
      have HST := hide hst
      have HO2 := hide hown2
      have HG2 := hide hg2
      clear hc s1 s2 he hx hy hown hnx hst hown2 hg2 z1 z2
      go_wp2_with fail
      go_region
      go_wp2_with fail
      go_roundw
      case rel => 
        refine ⟨k + 1, by omega, by go_num, ?_, ?_⟩
        · rw [unhide HST]; exact unhide HO2
        · exact (unhide HB).drew.grown (unhide HG2) (unhide HB).size (fun j hj => by cases hj; exact Nat.le_refl _)
      case measure => simp [intOf]; omega
    · obtain rfl : k = ls.length := by omega
      clear hown hnx
      go_wp2_with fail
      go_ret
      exact ⟨rfl, unhide HO, unhide HB⟩
end Go.Proofs.Qxb6601093a
