/- zzCloneLabels, walked. -/
import Derived.Test.Qxb6601093aModel
import Derived.Lib.SliceRun
namespace Go.Proofs.Qxb6601093a
open Go.RowKit
set_option linter.unusedSimpArgs false
set_option linter.unusedVariables false

theorem in36 : (Try.prog.info? 36).map (fun i => (i.zero, i.size, i.bytes)) = some (some (.agg #[.string ByteArray.empty, .string ByteArray.empty]), 2, 32) := by rfl
theorem mk22 (n : Nat) (hn : n ≤ 4096) : ∀ w : World, (Instr.makeSlice 22 (.int .i64 (n : Int)) (.int .i64 (n : Int))).run Try.prog w =
    .ok (.slice (some ⟨w.heap.size, 0, none⟩) n n) (w.alloc (.cells (madeCells #[.string ByteArray.empty, .string ByteArray.empty] (n * 2)) 36)) := by
  intro w
  obtain ⟨i0, hi, hz⟩ := Option.map_eq_some_iff.1 in36
  simp only [Prod.mk.injEq] at hz
  obtain ⟨hz0, hz1, hz2⟩ := hz
  have h := run_make (P := Try.prog) w 22 36 i0 _ Try.underlying22 hi hz0 .i64 .i64 n n (by omega) (by omega) (by rw [hz2]; omega) (by omega)
  rw [h, hz1]
  simp [Value.cells]

/-- The first k pairs of the block H are the list's. -/
structure Filled (w wr : World) (H n k : Nat) (ls : List Pr) : Prop where
  below : Below H w wr
  high : H < wr.heap.size
  block : ∃ cs, wr.heap[H]? = some (.cells cs 36 (0, 0)) ∧ cs.size = n * 2
  cells : ∀ j, j < k → wr.cell? ⟨H, j * 2, none⟩ = some (.string (ls.getD j nop).1) ∧ wr.cell? ⟨H, j * 2 + 1, none⟩ = some (.string (ls.getD j nop).2)

theorem Filled.made (w : World) (n : Nat) (ls : List Pr) : Filled w (w.alloc (.cells (madeCells #[.string ByteArray.empty, .string ByteArray.empty] (n * 2)) 36)) w.heap.size n 0 ls :=
  ⟨(Below.refl _ _).alloc (Nat.le_refl _) _, by simp, ⟨_, heap_alloc_new w _, size_madeCells _ _⟩, fun j hj => by omega⟩

theorem Filled.there {w wr : World} {H n k : Nat} {ls : List Pr} (h : Filled w wr H n k ls) (i : Nat) (hi : i < n * 2) : (∃ v, wr.cell? ⟨H, i, none⟩ = some v) ∧ wr.frozen? ⟨H, i, none⟩ = false := by
  obtain ⟨cs, hb, hs⟩ := h.block
  exact ⟨⟨_, by simp [World.cell?, hb, hs, hi]; rfl⟩, by simp [World.frozen?, hb]⟩

theorem Filled.step {w wr : World} {H n k : Nat} {ls : List Pr} (h : Filled w wr H n k ls) (hk : k < n) :
    Filled w ((wr.setCell ⟨H, k * 2, none⟩ (.string (ls.getD k nop).1)).setCell ⟨H, k * 2 + 1, none⟩ (.string (ls.getD k nop).2)) H n (k + 1) ls := by
  obtain ⟨⟨v1, e1⟩, _⟩ := h.there (k * 2) (by omega)
  obtain ⟨⟨v2, e2⟩, _⟩ := h.there (k * 2 + 1) (by omega)
  obtain ⟨cs, hb, hs⟩ := h.block
  refine ⟨(h.below.setCell (Nat.le_refl _) _).setCell (Nat.le_refl _) _, by simpa using h.high, ?_, ?_⟩
  · have b1 := heap_setCell_same wr H (k * 2) cs 36 (.string (ls.getD k nop).1) hb
    have b2 := heap_setCell_same _ H (k * 2 + 1) _ 36 (.string (ls.getD k nop).2) b1
    exact ⟨_, b2, by simp [hs]⟩
  · intro j hj
    by_cases e : j = k
    · subst e
      refine ⟨?_, ?_⟩
      · rw [World.cell?_setCell_other _ _ _ _ (by simp), World.cell?_setCell_same _ _ _ e1]
      · rw [World.cell?_setCell_same _ _ _ (u := v2)]
        rw [World.cell?_setCell_other _ _ _ _ (by simp)]
        exact e2
    · have hj' : j < k := by omega
      obtain ⟨c1, c2⟩ := h.cells j hj'
      refine ⟨?_, ?_⟩
      · rw [World.cell?_setCell_other _ _ _ _ (by simp <;> omega), World.cell?_setCell_other _ _ _ _ (by simp <;> omega)]
        exact c1
      · rw [World.cell?_setCell_other _ _ _ _ (by simp <;> omega), World.cell?_setCell_other _ _ _ _ (by simp <;> omega)]
        exact c2

theorem Filled.done {w wr : World} {H : Nat} {ls : List Pr} (h : Filled w wr H ls.length ls.length ls) : InPairs wr (some ⟨H, 0, none⟩) ls :=
  fun _ => ⟨H, 0, rfl, h.high, fun j hj => by
    have := h.cells j hj
    simpa using this⟩

set_option maxHeartbeats 1000000 in
theorem clone_nil (n c : Nat) (w : World) :
    Calls Try.prog 12 #[.slice none n c] w fun e w' => e = .returned (.slice none 0 0) ∧ w = w' := by
  have HN : ∀ w : World, (binOp .eql 22 (.slice none n c) (.slice none 0 0)).run Try.prog w = .ok (.bool true) w := fun w => Lib.run_eql_slice_nil w 22 36 none n c 0 0 Try.underlying22
  go_enter Try.func12, Try.ntmps12
  go_wp2_with fail
  go_ret
  exact ⟨rfl, rfl⟩

set_option maxHeartbeats 2000000 in
theorem clone_some (x : Addr) (c : Nat) (ls : List Pr) (w : World) (hr : InPairs w (some x) ls) (hl : ls.length ≤ 4096) :
    Calls Try.prog 12 #[.slice (some x) ls.length c] w fun e w' => e = .returned (.slice (some ⟨w.heap.size, 0, none⟩) ls.length ls.length) ∧ Filled w w' w.heap.size ls.length ls.length ls := by
  have HN : ∀ w : World, (binOp .eql 22 (.slice (some x) ls.length c) (.slice none 0 0)).run Try.prog w = .ok (.bool false) w := fun w => Lib.run_eql_slice_nil w 22 36 (some x) ls.length c 0 0 Try.underlying22
  have HM := mk22 ls.length hl
  have HR := hide hr
  have HF := hide (Filled.made w ls.length ls)
  clear hr
  go_enter Try.func12, Try.ntmps12
  go_wp2_with fail
  go_loopw [4] (fun i wr => ∃ k : Nat, k ≤ ls.length ∧ i = .int .i64 k ∧ Filled w wr w.heap.size ls.length k ls) (fun i _ => ls.length - (intOf i).toNat)
  case atStart => exact ⟨0, Nat.zero_le _, rfl, unhide HF⟩
  case round =>
    obtain ⟨k, hk, rfl, hfill⟩ := hrel
    have HS := hide hfill
    by_cases hlt : k < ls.length
    · obtain ⟨bb, off, he, hbH, hc⟩ := (unhide HR) (by omega)
      obtain rfl : x = ⟨bb, off, none⟩ := Option.some.inj he
      obtain ⟨s1, s2⟩ := hc k hlt
      have c1 := (hfill.below.cell (p := ⟨bb, off + k * 2, none⟩) hbH).trans s1
      have c2 := (hfill.below.cell (p := ⟨bb, off + k * 2 + 1, none⟩) hbH).trans s2
      obtain ⟨⟨v1, d1⟩, f1⟩ := hfill.there (k * 2) (by omega)
      obtain ⟨⟨v2, d2⟩, f2⟩ := hfill.there (k * 2 + 1) (by omega)
      obtain ⟨kx, hx⟩ : ∃ kx, kx = (ls.getD k nop).1 := ⟨_, rfl⟩
      obtain ⟨vx, hy⟩ : ∃ vx, vx = (ls.getD k nop).2 := ⟨_, rfl⟩
      rw [← hx] at c1
      rw [← hy] at c2
      have HX := hide hx.symm
      have HY := hide hy.symm
      clear hc s1 s2 hfill he hx hy
      go_wp2_with fail
      go_roundw
      case rel =>
        refine ⟨k + 1, by omega, by go_num, ?_⟩
        have h2 := (unhide HS).step hlt
        rw [unhide HX, unhide HY] at h2
        exact h2
      case measure => simp [intOf]; omega
    · obtain rfl : k = ls.length := by omega
      clear hfill
      go_wp2_with fail
      go_ret
      exact ⟨rfl, unhide HS⟩
end Go.Proofs.Qxb6601093a
