/- 'nextChunk', walked: three cases. -/
import Derived.Test.Qxb6600929aBase
import Derived.BigRegion
import Derived.BigQuiet
import Derived.Deep.RegionLaw
namespace Go.Proofs.Qxb6600929a
open Go.RowKit

/-- A guard: this law is meant for the operation that writes slot d. -/
theorem at_dst {P : Program} {ops : Array Oper} {o : Oper} {a : Act} {w : World} {K : Act → World → Prop} {Q : Exit → Act → World → Prop} {E : Prop} (d : Nat) (_h : o.dst = some d)
    (hk : if Region.wanted o (yielded ops a.tmps) = true then Oper.wp P o a w K Q else E) : if Region.wanted o (yielded ops a.tmps) = true then Oper.wp P o a w K Q else E := hk

theorem mk_run (c : Nat) (hc : c ≤ 65536) : ∀ w : World, (Instr.makeSlice 24 (.int .i64 0) (.int .i64 (c : Int))).run Try.prog w =
    .ok (.slice (some ⟨w.heap.size, 0, none⟩) 0 c) (w.alloc (.cells (madeCells #[.int .u32 0] c) 36)) := by
  intro w
  obtain ⟨i0, hi, hz0, hz1, hz2⟩ := info_parts Try.info36
  have h := run_make (P := Try.prog) w 24 36 i0 (.int .u32 0) Try.underlying24 hi hz0 .i64 .i64 0 c (by omega) (by omega) (by rw [hz2]; omega) (by omega)
  rw [h, hz1]
  simp [Value.cells]

theorem one_new (w : World) (H : Nat) (hH : H = w.heap.size) (v : Value) (o : Obj) (j : Nat) (u : Value) (hu : [v][j]? = some u) :
    ((w.alloc o).alloc (.cells #[v] 24)).cell? ((⟨H + 1, 0, none⟩ : Addr).add j) = some u := by
  subst hH
  match j, hu with
  | 0, hu =>
    simp at hu
    subst hu
    have e : w.heap.size + 1 = (w.alloc o).heap.size := by simp
    show ((w.alloc o).alloc (.cells #[v] 24)).cell? ⟨w.heap.size + 1, 0, none⟩ = some v
    rw [e, World.cell?_alloc_new]
    rfl

theorem grown_cell {w W w2 : World} {o1 o2 : Obj} {row : Option Nat} (hW : W.heap = ((w.alloc o1).alloc o2).heap) (hg : W.grownBy w2 row) (b i : Nat) (hb : b < w.heap.size) (hr : some b ≠ row) :
    w2.cell? ⟨b, i, none⟩ = w.cell? ⟨b, i, none⟩ ∧ w2.frozen? ⟨b, i, none⟩ = w.frozen? ⟨b, i, none⟩ := by
  have hs : W.heap.size = w.heap.size + 2 := by rw [hW]; simp
  have h1 : w2.heap[b]? = w.heap[b]? := by
    rw [hg.block b (by omega) hr, hW, Below.heap_alloc _ _ _ (by simp; omega), Below.heap_alloc _ _ _ hb]
  exact ⟨World.cell?_of_block h1, World.frozen?_of_block h1⟩

theorem after_app {base b n cap g : Nat} {w W w2 : World} {o1 o2 : Obj} {row : Option Nat} {xs : List Value} (hgrow : W.grownBy w2 row) (hW : W.heap = ((w.alloc o1).alloc o2).heap)
    (hbl : b < w.heap.size) (hr : row ≠ some b) (hg : row = some g ∨ g = w.heap.size + 2) (hown : w2.ownsRow base 24 1 (.slice (some ⟨g, 0, none⟩) n cap) n xs)
    (v0 v1 v2 v3 : Value) (j : Nat) (hj : xs[j]? = some v3) (h0 : w.cell? ⟨b, 0, none⟩ = some v0) (h1 : w.cell? ⟨b, 1, none⟩ = some v1) (h2 : w.cell? ⟨b, 2, none⟩ = some v2) (f0 : w.frozen? ⟨b, 0, none⟩ = false) (f1 : w.frozen? ⟨b, 1, none⟩ = false) :
    w2.cell? ⟨b, 0, none⟩ = some v0 ∧ w2.cell? ⟨b, 1, none⟩ = some v1 ∧ w2.cell? ⟨b, 2, none⟩ = some v2 ∧ w2.frozen? ⟨b, 0, none⟩ = false ∧ w2.frozen? ⟨b, 1, none⟩ = false ∧ w2.cell? ⟨g, j, none⟩ = some v3 ∧ g ≠ b ∧ b ≠ g := by
  have k0 := grown_cell (w := w) hW hgrow b 0 hbl hr.symm
  have k1 := grown_cell (w := w) hW hgrow b 1 hbl hr.symm
  have k2 := grown_cell (w := w) hW hgrow b 2 hbl hr.symm
  have hgb : g ≠ b := by
    rintro rfl
    rcases hg with hg | hg
    · exact hr hg
    · omega
  exact ⟨k0.1.trans h0, k1.1.trans h1, k2.1.trans h2, k0.2.trans f0, k1.2.trans f1, owns_cell hown hj, hgb, hgb.symm⟩

set_option maxHeartbeats 2000000 in
theorem next_A (b : Nat) (w : World) (base : Nat) (hbb : base ≤ w.heap.size) (hbl : b < w.heap.size)
   (h0 : w.cell? ⟨b, 0, none⟩ = some (.slice none 0 0)) (h1 : w.cell? ⟨b, 1, none⟩ = some (.slice none 0 0))
   (h2 : w.cell? ⟨b, 2, none⟩ = some (.int .i64 0))
   (f0 : w.frozen? ⟨b, 0, none⟩ = false) (f1 : w.frozen? ⟨b, 1, none⟩ = false) :
    Calls Try.prog 37 #[.pointer (some ⟨b, 0, none⟩)] w fun e w' => e = .returned (.tuple #[]) ∧
      ∃ g cap w2, World.ownsRow w2 base 24 1 (.slice (some ⟨g, 0, none⟩) 1 cap) 1 [.slice (some ⟨w.heap.size, 0, none⟩) 0 64] ∧
        ((w.alloc (.cells (madeCells #[.int .u32 0] 64) 36)).alloc (.cells #[.slice (some ⟨w.heap.size, 0, none⟩) 0 64] 24)).grownBy w2 none ∧ g = w.heap.size + 2 ∧
        w'.heap = ((w2.setCell ⟨b, 1, none⟩ (.slice (some ⟨g, 0, none⟩) 1 cap)).setCell ⟨b, 0, none⟩ (.slice (some ⟨w.heap.size, 0, none⟩) 0 64)).heap ∧
        w'.os = w2.os ∧ w'.tape = w2.tape ∧ w'.output = w2.output := by
  have hmk : ∀ w : World, (Instr.makeSlice 24 (.int .i64 0) (.int .i64 (if 65536 < if IntKind.i64.wrap 0 < 64 then 64 else IntKind.i64.wrap 0 then 65536
            else if IntKind.i64.wrap 0 < 64 then 64 else IntKind.i64.wrap 0))).run Try.prog w =
    .ok (.slice (some ⟨w.heap.size, 0, none⟩) 0 64) (w.alloc (.cells (madeCells #[.int .u32 0] 64) 36)) := fun w => mk_run 64 (by omega) w
  obtain ⟨i0, hi, hz0, hz1, hz2⟩ := info_parts Try.info24
  go_enter Try.func37, Try.ntmps37
  go_wp2
  go_region
  go_wp2
  go_region_law (refine at_dst 65 rfl ?_; refine step_append_lies _ rfl (.tmp 54) (.tmp 64) 25 rfl base 24 i0 (.slice none 0 0) 1 24 Try.underlying25 hi hz0 hz1 hz2 rfl (by decide) (.slice none 0 0) 0 [] (by rfl) (World.ownsRow_nil _ _ _ _) ⟨w.heap.size + 1, 0, none⟩ 1 1 [.slice (some ⟨w.heap.size, 0, none⟩) 0 64] (by rfl) (by rfl) (by intro j u hu; exact one_new w _ rfl _ _ j u hu) (by intro u hu; simp at hu; subst hu; rfl) (by decide) (by decide) (by decide) (by simp; omega) (w.heap.size + 2) (by simp) ?_; intro g cap w2 hown hgrow hg hlt; obtain ⟨c0, c1, c2, g0, g1, cg, hgb, hbg⟩ := after_app (w := w) hgrow rfl hbl (by intro h; cases h) hg hown _ _ _ _ 0 rfl h0 h1 h2 f0 f1)
  all_goals go_wp2
  all_goals go_region
  all_goals go_wp2
  all_goals go_end0
  all_goals exact ⟨rfl, g, cap, w2, hown, ⟨hgrow.os, hgrow.tape, hgrow.output, hgrow.size, hgrow.block⟩, by rcases hg with h | h; cases h; exact h, rfl, rfl, rfl, rfl⟩

/- B: the next chunk was made already. -/
set_option maxHeartbeats 1000000 in
theorem next_B (b cb : Nat) (nb nl nc len cap full inFull : Nat) (w : World) (v1 : Value) (n2 c2 b2 : Nat) (hbc : b ≠ cb) (hfl : full + 1 < len) (hlen : len ≤ 10000000)
   (hi1 : inFull ≤ 10000000) (hnl : nl ≤ 10000000)
   (h0 : w.cell? ⟨b, 0, none⟩ = some (.slice (some ⟨nb, 0, none⟩) nl nc)) (h1 : w.cell? ⟨b, 1, none⟩ = some (.slice (some ⟨cb, 0, none⟩) len cap))
   (h2 : w.cell? ⟨b, 2, none⟩ = some (.int .i64 full)) (h3 : w.cell? ⟨b, 3, none⟩ = some (.int .i64 inFull))
   (f0 : w.frozen? ⟨b, 0, none⟩ = false) (f2 : w.frozen? ⟨b, 2, none⟩ = false) (f3 : w.frozen? ⟨b, 3, none⟩ = false)
   (hc : w.cell? ⟨cb, full, none⟩ = some v1) (fc : w.frozen? ⟨cb, full, none⟩ = false)
   (hd : w.cell? ⟨cb, full + 1, none⟩ = some (.slice (some ⟨b2, 0, none⟩) n2 c2)) :
    Calls Try.prog 37 #[.pointer (some ⟨b, 0, none⟩)] w fun e w' => e = .returned (.tuple #[]) ∧
      w'.heap = ((((w.setCell ⟨cb, full, none⟩ (.slice (some ⟨nb, 0, none⟩) nl nc)).setCell ⟨b, 2, none⟩ (.int .i64 (full + 1))).setCell ⟨b, 3, none⟩ (.int .i64 (inFull + nl))).setCell ⟨b, 0, none⟩ (.slice (some ⟨b2, 0, none⟩) n2 c2)).heap ∧
      w'.os = w.os ∧ w'.tape = w.tape ∧ w'.output = w.output := by
  go_enter Try.func37, Try.ntmps37
  go_wp2
  go_region
  go_wp2
  go_region
  go_wp2
  go_region
  go_wp2
  go_region
  go_wp2
  go_end0
  exact ⟨rfl, rfl, rfl, rfl, rfl⟩

/- C: the chunk being filled is the last that was made. -/
abbrev stored (w : World) (b cb full : Nat) (nv fv iv : Value) : World := ((w.setCell ⟨cb, full, none⟩ nv).setCell ⟨b, 2, none⟩ fv).setCell ⟨b, 3, none⟩ iv

theorem stored_cell {w : World} {b cb full : Nat} {nv fv iv : Value} (hbc : b ≠ cb) (i : Nat) (h2 : i ≠ 2) (h3 : i ≠ 3) :
    (stored w b cb full nv fv iv).cell? ⟨b, i, none⟩ = w.cell? ⟨b, i, none⟩ := by
  rw [World.cell?_setCell_other _ _ _ _ (by simp <;> omega), World.cell?_setCell_other _ _ _ _ (by simp <;> omega), World.cell?_setCell_other _ _ _ _ (by simp <;> omega)]
theorem stored_cell2 {w : World} {b cb full : Nat} {nv fv iv u : Value} (hbc : b ≠ cb) (h : w.cell? ⟨b, 2, none⟩ = some u) :
    (stored w b cb full nv fv iv).cell? ⟨b, 2, none⟩ = some fv := by
  rw [World.cell?_setCell_other _ _ _ _ (by simp)]
  exact World.cell?_setCell_same _ _ _ (u := u) (by rw [World.cell?_setCell_other _ _ _ _ (by simp <;> omega)]; exact h)
theorem frozen_set (w : World) (a p : Addr) (v : Value) : (w.setCell a v).frozen? p = w.frozen? p := by
  simp only [World.frozen?, World.setCell, Array.getElem?_modify]
  by_cases h : a.block = p.block
  · simp only [h, if_true]
    cases w.heap[p.block]? with
    | none => rfl
    | some x => cases x <;> rfl
  · simp [h]

theorem stored_owns {w : World} {base b cb full len cap : Nat} {nv fv iv : Value} {cells : List Value} (hbc : b ≠ cb) (h : w.ownsRow base 24 1 (.slice (some ⟨cb, 0, none⟩) len cap) len cells) :
    (stored w b cb full nv fv iv).ownsRow base 24 1 (.slice (some ⟨cb, 0, none⟩) len cap) len (cells.set full nv) := by
  refine owns_set h fun cs hcs => ?_
  rw [heap_set_ne (by omega), heap_set_ne (by omega)]
  exact heap_set_at hcs

theorem capX (nc nc2 : Nat) (hnc : 64 ≤ nc) (hnc' : nc ≤ 65536) (h : nc2 = min (2 * nc) 65536) :
    (if 65536 < (if IntKind.i64.wrap (2 * (nc : Int)) < 64 then (64 : Int) else IntKind.i64.wrap (2 * (nc : Int))) then (65536 : Int)
      else if IntKind.i64.wrap (2 * (nc : Int)) < 64 then 64 else IntKind.i64.wrap (2 * (nc : Int))) = (nc2 : Int) := by
  have e : IntKind.i64.wrap (2 * (nc : Int)) = 2 * (nc : Int) := by rw [IntKind.wrap_i64]; omega
  rw [e]
  subst h
  repeat split
  all_goals omega

set_option maxHeartbeats 4000000 in
theorem next_C (base b cb : Nat) (nb nl nc len cap full inFull nc2 : Nat) (w : World) (v1 : Value) (cells : List Value) (hbc : b ≠ cb) (hfl : full + 1 = len) (hlen : len ≤ 10000000)
   (hi1 : inFull ≤ 10000000) (hnl : nl ≤ 10000000) (hnc : 64 ≤ nc) (hnc' : nc ≤ 65536) (hnc2 : nc2 = min (2 * nc) 65536) (hbb : base ≤ w.heap.size) (hbl : b < w.heap.size)
   (h0 : w.cell? ⟨b, 0, none⟩ = some (.slice (some ⟨nb, 0, none⟩) nl nc)) (h1 : w.cell? ⟨b, 1, none⟩ = some (.slice (some ⟨cb, 0, none⟩) len cap))
   (h2 : w.cell? ⟨b, 2, none⟩ = some (.int .i64 full)) (h3 : w.cell? ⟨b, 3, none⟩ = some (.int .i64 inFull))
   (f0 : w.frozen? ⟨b, 0, none⟩ = false) (f1 : w.frozen? ⟨b, 1, none⟩ = false) (f2 : w.frozen? ⟨b, 2, none⟩ = false) (f3 : w.frozen? ⟨b, 3, none⟩ = false)
   (hown0 : w.ownsRow base 24 1 (.slice (some ⟨cb, 0, none⟩) len cap) len cells) (hc0 : cells[full]? = some v1) :
    Calls Try.prog 37 #[.pointer (some ⟨b, 0, none⟩)] w fun e w' => e = .returned (.tuple #[]) ∧
      ∃ g cap' w2, World.ownsRow w2 base 24 1 (.slice (some ⟨g, 0, none⟩) (len + 1) cap') (len + 1) (cells.set full (.slice (some ⟨nb, 0, none⟩) nl nc) ++ [.slice (some ⟨w.heap.size, 0, none⟩) 0 nc2]) ∧
        (((stored w b cb full (.slice (some ⟨nb, 0, none⟩) nl nc) (.int .i64 (full + 1)) (.int .i64 (inFull + nl))).alloc (.cells (madeCells #[.int .u32 0] nc2) 36)).alloc (.cells #[.slice (some ⟨w.heap.size, 0, none⟩) 0 nc2] 24)).grownBy w2 (some cb) ∧ (g = cb ∨ g = w.heap.size + 2) ∧
        w'.heap = ((w2.setCell ⟨b, 1, none⟩ (.slice (some ⟨g, 0, none⟩) (len + 1) cap')).setCell ⟨b, 0, none⟩ (.slice (some ⟨w.heap.size, 0, none⟩) 0 nc2)).heap ∧
        w'.os = w2.os ∧ w'.tape = w2.tape ∧ w'.output = w2.output := by
  have hfl' : full < len := by omega
  have hfl2 : len ≤ full + 1 := by omega
  have hc := owns_cell hown0 hc0
  have fc := owns_frozen hown0 full
  have HC : Hid (cells[full]? = some v1) := hc0
  have HL : Hid (full + 1 = len) := hfl
  have hX := capX nc nc2 hnc hnc' hnc2
  have hlb : nc2 ≤ 65536 := by omega
  have hmk : ∀ w : World, (Instr.makeSlice 24 (.int .i64 0) (.int .i64 (if 65536 < if IntKind.i64.wrap (2 * (nc : Int)) < 64 then 64 else IntKind.i64.wrap (2 * (nc : Int)) then 65536
            else if IntKind.i64.wrap (2 * (nc : Int)) < 64 then 64 else IntKind.i64.wrap (2 * (nc : Int))))).run Try.prog w =
    .ok (.slice (some ⟨w.heap.size, 0, none⟩) 0 nc2) (w.alloc (.cells (madeCells #[.int .u32 0] nc2) 36)) := fun w => by rw [hX]; exact mk_run nc2 hlb w
  have hownW := stored_owns (full := full) (nv := .slice (some ⟨nb, 0, none⟩) nl nc) (fv := .int .i64 (full + 1)) (iv := .int .i64 (inFull + nl)) hbc hown0
  have s0 := (stored_cell (w := w) (full := full) (nv := .slice (some ⟨nb, 0, none⟩) nl nc) (fv := .int .i64 (full + 1)) (iv := .int .i64 (inFull + nl)) hbc 0 (by decide) (by decide)).trans h0
  have s1 := (stored_cell (w := w) (full := full) (nv := .slice (some ⟨nb, 0, none⟩) nl nc) (fv := .int .i64 (full + 1)) (iv := .int .i64 (inFull + nl)) hbc 1 (by decide) (by decide)).trans h1
  have s2 := stored_cell2 (full := full) (nv := .slice (some ⟨nb, 0, none⟩) nl nc) (fv := .int .i64 (full + 1)) (iv := .int .i64 (inFull + nl)) hbc h2
  have z0 : (stored w b cb full (.slice (some ⟨nb, 0, none⟩) nl nc) (.int .i64 (full + 1)) (.int .i64 (inFull + nl))).frozen? ⟨b, 0, none⟩ = false := by rw [frozen_set, frozen_set, frozen_set]; exact f0
  have z1 : (stored w b cb full (.slice (some ⟨nb, 0, none⟩) nl nc) (.int .i64 (full + 1)) (.int .i64 (inFull + nl))).frozen? ⟨b, 1, none⟩ = false := by rw [frozen_set, frozen_set, frozen_set]; exact f1
  have zs : (stored w b cb full (.slice (some ⟨nb, 0, none⟩) nl nc) (.int .i64 (full + 1)) (.int .i64 (inFull + nl))).heap.size = w.heap.size := by simp
  have hjx : (cells.set full (.slice (some ⟨nb, 0, none⟩) nl nc) ++ [.slice (some ⟨w.heap.size, 0, none⟩) 0 nc2])[full + 1]? = some (.slice (some ⟨w.heap.size, 0, none⟩) 0 nc2) := by
    have : cells.length = full + 1 := by have := hown0.1; omega
    rw [List.getElem?_append_right (by simp; omega)]
    simp [this]
  have HW := hide hownW
  have HX := hide hjx
  have S0 := hide s0
  have S1 := hide s1
  have S2 := hide s2
  have Z0 := hide z0
  have Z1 := hide z1
  have ZS := hide zs
  have HD := hide hown0
  have H1 := hide hnc2
  have hle : len + 1 ≤ 9223372036854775807 := by omega
  clear hownW hjx s0 s1 s2 z0 z1 zs hown0 hfl hc0 hX hnc2
  obtain ⟨i0, hi, hz0, hz1, hz2⟩ := info_parts Try.info24
  go_enter Try.func37, Try.ntmps37
  go_wp2
  go_region
  go_wp2
  go_region
  go_wp2
  go_region
  go_wp2
  go_region_law (refine at_dst 65 rfl ?_; refine step_append_lies _ rfl (.tmp 54) (.tmp 64) 25 rfl base 24 i0 (.slice none 0 0) 1 24 Try.underlying25 hi hz0 hz1 hz2 rfl (by decide) (.slice (some ⟨cb, 0, none⟩) len cap) len _ (by rfl) (by exact ((unhide HW).alloc _).alloc _) ⟨w.heap.size + 1, 0, none⟩ 1 1 [.slice (some ⟨w.heap.size, 0, none⟩) 0 nc2] (by rfl) (by rfl) (by intro j u hu; exact one_new (stored w b cb full _ _ _) _ (unhide ZS).symm _ _ j u hu) (by intro u hu; simp at hu; subst hu; rfl) (by decide) (by unfold maxLen; omega) (by omega) (by simp; omega) (w.heap.size + 2) (by simp) ?_; intro g cap w2 hown hgrow hg hlt; obtain ⟨c0, c1, c2, g0, g1, cg, hgb, hbg⟩ := after_app (w := stored w b cb full _ _ _) hgrow rfl (by rw [unhide ZS]; exact hbl) (by intro h; exact hbc (Option.some.inj h).symm) (by rw [unhide ZS]; exact hg) hown _ _ _ _ (full + 1) (unhide HX) (unhide S0) (unhide S1) (unhide S2) (unhide Z0) (unhide Z1))
  all_goals go_wp2
  all_goals go_region
  all_goals go_wp2
  all_goals go_end0
  all_goals exact ⟨rfl, g, cap, w2, hown, ⟨hgrow.os, hgrow.tape, hgrow.output, hgrow.size, hgrow.block⟩, by rcases hg with h | h; exact .inl (Option.some.inj h).symm; exact .inr h, rfl, rfl, rfl, rfl⟩

end Go.Proofs.Qxb6600929a
