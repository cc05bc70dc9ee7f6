/- 'reset', walked. -/
import Derived.Test.Qxb6600929aLists
namespace Go.Proofs.Qxb6600929a
open Go.RowKit
set_option linter.unusedSimpArgs false
set_option linter.unusedVariables false

theorem sc_os (w : World) (a : Addr) (v : Value) : (w.setCell a v).os = w.os := rfl
theorem sc_tape (w : World) (a : Addr) (v : Value) : (w.setCell a v).tape = w.tape := rfl
theorem sc_out (w : World) (a : Addr) (v : Value) : (w.setCell a v).output = w.output := rfl
theorem dr_os (w : World) : w.drew.os = w.os := rfl
theorem dr_tape (w : World) : w.drew.tape = w.tape := rfl
theorem dr_out (w : World) : w.drew.output = w.output := rfl
theorem dr_heap (w : World) : w.drew.heap = w.heap := rfl

/-- Behind k rounds of reset's loop: the chunks' array alone has turned. -/
structure RR (w wr : World) (base cb n cap : Nat) (blks : List Nat) (k : Nat) (cells : List Value) : Prop where
  os : wr.os = w.os
  tape : wr.tape = w.tape
  output : wr.output = w.output
  size : wr.heap.size = w.heap.size
  block : ∀ x, x ≠ cb → wr.heap[x]? = w.heap[x]?
  own : wr.ownsRow base 24 1 (.slice (some ⟨cb, 0, none⟩) n cap) n cells
  done : ∀ j, j < k → cells[j]? = some (chunkV blks j 0)
  todo : ∀ j, k ≤ j → j < n → ∃ l, l ≤ capOf j ∧ cells[j]? = some (chunkV blks j l)

theorem RR.step {w wr w2 : World} {base cb n cap : Nat} {blks : List Nat} {k : Nat} {cells : List Value} (h : RR w wr base cb n cap blks k cells) (hk : k < n)
    (hw : w2.heap = (wr.setCell ⟨cb, k, none⟩ (chunkV blks k 0)).heap) (h1 : w2.os = wr.os) (h2 : w2.tape = wr.tape) (h3 : w2.output = wr.output) :
    RR w w2 base cb n cap blks (k + 1) (cells.set k (chunkV blks k 0)) := by
  have hl : cells.length = n := by have := h.own.1; omega
  refine ⟨h1.trans h.os, h2.trans h.tape, h3.trans h.output, by rw [hw]; simp [h.size], fun x hx => by rw [hw, heap_set_ne hx]; exact h.block x hx, ?_, ?_, ?_⟩
  · refine owns_set h.own fun cs hcs => ?_
    rw [hw]
    exact heap_set_at hcs
  · intro j hj
    by_cases e : j = k
    · subst e; exact List.getElem?_set_self (by omega)
    · rw [List.getElem?_set_ne (by omega)]; exact h.done j (by omega)
  · intro j hj hjn
    rw [List.getElem?_set_ne (by omega)]
    exact h.todo j (by omega) hjn

theorem RR.cellB {w wr : World} {base cb n cap : Nat} {blks : List Nat} {k : Nat} {cells : List Value} (h : RR w wr base cb n cap blks k cells) {b i : Nat} {v : Value} (hb : b ≠ cb) (hc : w.cell? ⟨b, i, none⟩ = some v) : wr.cell? ⟨b, i, none⟩ = some v :=
  (World.cell?_of_block (h.block b hb)).trans hc
theorem RR.freeB {w wr : World} {base cb n cap : Nat} {blks : List Nat} {k : Nat} {cells : List Value} (h : RR w wr base cb n cap blks k cells) {b i : Nat} (hb : b ≠ cb) (hc : w.frozen? ⟨b, i, none⟩ = false) : wr.frozen? ⟨b, i, none⟩ = false :=
  (World.frozen?_of_block (h.block b hb)).trans hc

set_option maxHeartbeats 2000000 in
theorem reset_some (base b cb n cap : Nat) (blks : List Nat) (cells0 : List Value) (w : World) (v0 v2 v3 : Value) (wa : Option Addr) (wn wc : Nat) (hbc : b ≠ cb) (hn : 0 < n) (hn2 : n ≤ 1000000) (hwa : (wa = none ∧ wn = 0 ∧ wc = 0) ∨ ∃ wb, wa = some ⟨wb, 0, none⟩) (hwc : wc ≤ 9223372036854775807)
    (hr : RR w w base cb n cap blks 0 cells0)
    (h0 : w.cell? ⟨b, 0, none⟩ = some v0) (h1 : w.cell? ⟨b, 1, none⟩ = some (.slice (some ⟨cb, 0, none⟩) n cap)) (h2 : w.cell? ⟨b, 2, none⟩ = some v2) (h3 : w.cell? ⟨b, 3, none⟩ = some v3)
    (h4 : w.cell? ⟨b, 4, none⟩ = some (.slice wa wn wc)) (h5 : w.cell? ⟨b, 5, none⟩ = some (.slice none 0 0))
    (f0 : w.frozen? ⟨b, 0, none⟩ = false) (f2 : w.frozen? ⟨b, 2, none⟩ = false) (f3 : w.frozen? ⟨b, 3, none⟩ = false) (f4 : w.frozen? ⟨b, 4, none⟩ = false) (f5 : w.frozen? ⟨b, 5, none⟩ = false) :
    Calls Try.prog 38 #[.pointer (some ⟨b, 0, none⟩)] w fun e w' => e = .returned (.tuple #[]) ∧ ∃ wr cells, RR w wr base cb n cap blks n cells ∧
      w'.heap = ((((((wr.setCell ⟨b, 0, none⟩ (.slice none 0 0)).setCell ⟨b, 2, none⟩ (.int .i64 0)).setCell ⟨b, 3, none⟩ (.int .i64 0)).setCell ⟨b, 0, none⟩ (chunkV blks 0 0)).setCell ⟨b, 4, none⟩ (.slice wa 0 wc)).setCell ⟨b, 5, none⟩ (.slice none 0 0)).heap ∧
      w'.os = wr.os ∧ w'.tape = wr.tape ∧ w'.output = wr.output := by
  have HWA := hide hwa
  have HR0 := hide hr
  have H0 := hide h0
  have H2 := hide h2
  have H3 := hide h3
  have H4 := hide h4
  have H5 := hide h5
  clear hr hwa h0 h2 h3 h4 h5
  go_enter Try.func38, Try.ntmps38
  go_wp2_with fail
  have H1 := hide h1
  have F0 := hide f0
  have F2 := hide f2
  have F3 := hide f3
  have F4 := hide f4
  have F5 := hide f5
  clear h1 f0 f2 f3 f4 f5
  go_loopw [8] (fun i wr => ∃ k : Nat, k ≤ n ∧ i = .int .i64 k ∧ ∃ cells, RR w wr base cb n cap blks k cells) (fun i _ => n - (intOf i).toNat)
  case atStart => exact ⟨0, Nat.zero_le _, rfl, _, unhide HR0⟩
  case round =>
    obtain ⟨k, hk, rfl, cells, hrr⟩ := hrel
    have HRR := hide hrr
    have k1 := hrr.cellB hbc (unhide H1)
    by_cases hlt : k < n
    · obtain ⟨l, hl, hcl⟩ := hrr.todo k (Nat.le_refl _) hlt
      have hcc := owns_cell hrr.own hcl
      have hcf := owns_frozen hrr.own k
      have hcap := capOf_hi k
      simp only [chunkV] at hcc
      obtain ⟨bk, hbk⟩ : ∃ bk, bk = blks.getD k 0 := ⟨_, rfl⟩
      obtain ⟨ck, hck⟩ : ∃ ck, ck = capOf k := ⟨_, rfl⟩
      rw [← hbk, ← hck] at hcc
      have hck2 : (ck : Int) ≤ 65536 := by omega
      have HBK := hide hbk
      have HCK := hide hck
      clear hrr hcl hbk hck hcap hl
      go_wp2_with fail
      go_region
      go_wp2_with fail
      go_roundw
      case rel =>
        refine ⟨k + 1, by omega, by go_num, _, (unhide HRR).step hlt ?_ rfl rfl rfl⟩
        simp only [chunkV, ← unhide HBK, ← unhide HCK]
        rfl
      case measure => simp [intOf]; omega
    · obtain rfl : k = n := by omega
      have k0 := hrr.cellB hbc (unhide H0)
      have k2 := hrr.cellB hbc (unhide H2)
      have k3 := hrr.cellB hbc (unhide H3)
      have k4 := hrr.cellB hbc (unhide H4)
      have k5 := hrr.cellB hbc (unhide H5)
      have g0 := hrr.freeB hbc (unhide F0)
      have g2 := hrr.freeB hbc (unhide F2)
      have g3 := hrr.freeB hbc (unhide F3)
      have g4 := hrr.freeB hbc (unhide F4)
      have g5 := hrr.freeB hbc (unhide F5)
      have hc0 := owns_cell hrr.own (hrr.done 0 hn)
      simp only [chunkV] at hc0
      obtain ⟨bk, hbk⟩ : ∃ bk, bk = blks.getD 0 0 := ⟨_, rfl⟩
      obtain ⟨ck, hck⟩ : ∃ ck, ck = capOf 0 := ⟨_, rfl⟩
      rw [← hbk, ← hck] at hc0
      have HBK := hide hbk
      have HCK := hide hck
      clear hrr hbk hck
      rcases unhide HWA with ⟨rfl, rfl, rfl⟩ | ⟨wb, rfl⟩
      all_goals
        go_wp2_with fail
        go_region
        go_wp2_with fail
        go_end0
        refine ⟨rfl, wr, cells, unhide HRR, ?_, by simp only [sc_os, dr_os], by simp only [sc_tape, dr_tape], by simp only [sc_out, dr_out]⟩
        simp only [chunkV, ← unhide HBK, ← unhide HCK, dr_heap]

set_option maxHeartbeats 1000000 in
theorem reset_none (b : Nat) (w : World) (v0 v2 v3 : Value) (wa : Option Addr) (wn wc : Nat) (hwa : (wa = none ∧ wn = 0 ∧ wc = 0) ∨ ∃ wb, wa = some ⟨wb, 0, none⟩) (hwc : wc ≤ 9223372036854775807)
    (h0 : w.cell? ⟨b, 0, none⟩ = some v0) (h1 : w.cell? ⟨b, 1, none⟩ = some (.slice none 0 0)) (h2 : w.cell? ⟨b, 2, none⟩ = some v2) (h3 : w.cell? ⟨b, 3, none⟩ = some v3)
    (h4 : w.cell? ⟨b, 4, none⟩ = some (.slice wa wn wc)) (h5 : w.cell? ⟨b, 5, none⟩ = some (.slice none 0 0))
    (f0 : w.frozen? ⟨b, 0, none⟩ = false) (f2 : w.frozen? ⟨b, 2, none⟩ = false) (f3 : w.frozen? ⟨b, 3, none⟩ = false) (f4 : w.frozen? ⟨b, 4, none⟩ = false) (f5 : w.frozen? ⟨b, 5, none⟩ = false) :
    Calls Try.prog 38 #[.pointer (some ⟨b, 0, none⟩)] w fun e w' => e = .returned (.tuple #[]) ∧
      w'.heap = (((((w.setCell ⟨b, 0, none⟩ (.slice none 0 0)).setCell ⟨b, 2, none⟩ (.int .i64 0)).setCell ⟨b, 3, none⟩ (.int .i64 0)).setCell ⟨b, 4, none⟩ (.slice wa 0 wc)).setCell ⟨b, 5, none⟩ (.slice none 0 0)).heap ∧
      w'.os = w.os ∧ w'.tape = w.tape ∧ w'.output = w.output := by
  rcases hwa with ⟨rfl, rfl, rfl⟩ | ⟨wb, rfl⟩
  all_goals
    go_enter Try.func38, Try.ntmps38
    go_wp2_with fail
    go_loop [8] (fun i => i = .int .i64 0) (fun i => 0)
    case atStart => rfl
    case round =>
      obtain rfl := hrel
      go_wp2_with fail
      go_region
      go_wp2_with fail
      go_end0
      refine ⟨rfl, ?_, by simp only [sc_os, dr_os], by simp only [sc_tape, dr_tape], by simp only [sc_out, dr_out]⟩
      simp only [dr_heap]

def St.reset (S : St) : St := ⟨S.vals.map (fun _ => []), 0, []⟩

theorem getD_nils (vals : List (List Int)) (k : Nat) : (vals.map (fun _ => ([] : List Int))).getD k [] = [] := by
  simp only [List.getD, List.getElem?_map]
  cases vals[k]? <;> rfl
theorem inF_nils (vals : List (List Int)) : inF vals 0 = 0 := rfl

theorem reset_any {w : World} {base b : Nat} {S : St} {F : List Nat} (h : RecS w base b S F) (hn : S.vals.length ≤ 1000000) :
    Calls Try.prog 38 #[.pointer (some ⟨b, 0, none⟩)] w fun e w' => e = .returned (.tuple #[]) ∧ RecS w' base b S.reset F ∧ Step w w' F F := by
  obtain ⟨vals, full, wide⟩ := S
  obtain ⟨blks, cv, wv, cells, r, rfl⟩ := h
  simp only at hn r
  obtain ⟨n1, n2, n3, n4, n5, n6⟩ := foot_nodup.1 r.nodup
  obtain ⟨wa, wc, hwv, hwa, hwc, hz⟩ : ∃ wa wc, wv = .slice wa wide.length wc ∧ ((wa = none ∧ wide.length = 0 ∧ wc = 0) ∨ ∃ wb, wa = some ⟨wb, 0, none⟩) ∧ wc ≤ 9223372036854775807 ∧
      (Value.slice wa 0 wc).ownBlock = wv.ownBlock := by
    rcases owns_form r.wOwn with ⟨e, e2, e3⟩ | ⟨g, cap, e, _, e5, _, _⟩
    · exact ⟨none, 0, by rw [e, e2], .inl ⟨rfl, e2, rfl⟩, by omega, by rw [e]⟩
    · exact ⟨_, cap, e, .inr ⟨g, rfl⟩, by unfold maxLen at e5; exact e5, by rw [e]; rfl⟩
  have hown0 : ∀ w' : World, (∀ g, wv.ownBlock = some g → w'.heap[g]? = w.heap[g]?) → w'.ownsRow base 2 1 (.slice wa 0 wc) 0 [] := by
    intro w' hk
    have := owns_keep (w' := w') r.wOwn hk
    rcases hwa with ⟨e1, e2, e3⟩ | ⟨wb, e1⟩
    · subst e1; subst e3; exact World.ownsRow_nil _ _ _ _
    · subst e1
      rw [hwv] at this
      exact owns_zero this
  have h0 := r.field 0 _ rfl
  have h1 := r.field 1 _ rfl
  have h2 := r.field 2 _ rfl
  have h3 := r.field 3 _ rfl
  have h4 := r.field 4 _ rfl
  have h5 := r.field 5 _ rfl
  have hfoot : foot b blks cv (Value.slice wa 0 wc) = foot b blks cv wv := by unfold foot; rw [hz]
  have hnd : (foot b blks cv (Value.slice wa 0 wc)).Nodup := by rw [hfoot]; exact r.nodup
  by_cases hv : vals = []
  · subst hv
    have hcv := r.cnil rfl
    subst hcv
    have h4' : w.cell? ⟨b, 4, none⟩ = some (.slice wa wide.length wc) := by rw [← hwv]; exact h4
    refine (reset_none b w _ _ _ wa wide.length wc hwa hwc h0 h1 h2 h3 h4' h5 (r.free 0) (r.free 2) (r.free 3) (r.free 4) (r.free 5)).mono ?_
    rintro e w' ⟨rfl, hw, a1, a2, a3⟩
    have oth : ∀ k, k ≠ b → w'.heap[k]? = w.heap[k]? := fun k kb => by
      rw [hw, heap_set_ne kb, heap_set_ne kb, heap_set_ne kb, heap_set_ne kb, heap_set_ne kb]
    have hb' : w'.heap[b]? = some (.cells #[.slice none 0 0, .slice none 0 0, .int .i64 0, .int .i64 0, .slice wa 0 wc, .slice none 0 0] 28 (0, 0)) := by
      rw [hw]
      have e := heap_set_at (i := 5) (v := .slice none 0 0) (heap_set_at (i := 4) (v := .slice wa 0 wc) (heap_set_at (i := 3) (v := .int .i64 0) (heap_set_at (i := 2) (v := .int .i64 0) (heap_set_at (i := 0) (v := .slice none 0 0) r.hb))))
      rw [e]
      simp
    refine ⟨rfl, ⟨blks, .slice none 0 0, .slice wa 0 wc, cells, ⟨?_, r.base_b, r.blen, ?_, ?_, ?_, ?_, fun e => absurd rfl e, fun _ => rfl, ?_, hnd, fun _ => rfl⟩, hfoot.symm⟩, ⟨a1, a2, a3, by rw [hw]; simp, fun k _ hk => oth k (by rintro rfl; exact hk (by simp [foot])), fun k hk => .inl hk⟩⟩
    · rw [hb']; rfl
    · exact owns_keep r.cOwn fun g hg => by simp [Value.ownBlock] at hg
    · exact hown0 w' fun g hg => oth g (by rintro rfl; exact n3 hg)
    · intro k hk; simp [St.reset] at hk
    · intro k hk; simp [St.reset] at hk
    · intro k hk; simp [St.reset, List.getD]
  · rcases owns_form r.cOwn with ⟨_, e, _⟩ | ⟨cb, cap, hcv, hcl, hcm, hcb, hcbl⟩
    · exact absurd (List.eq_nil_of_length_eq_zero e) hv
    subst hcv
    have hbc : b ≠ cb := by rintro rfl; exact n2 rfl
    have hpos : 0 < vals.length := by cases vals with | nil => exact absurd rfl hv | cons a l => simp
    have hr : RR w w base cb vals.length cap blks 0 cells := ⟨rfl, rfl, rfl, rfl, fun _ _ => rfl, r.cOwn, fun j hj => by omega, fun j _ hj => by
      obtain ⟨l, e1, e2, _⟩ := r.cell j hj
      exact ⟨l, e2, e1⟩⟩
    have h4' : w.cell? ⟨b, 4, none⟩ = some (.slice wa wide.length wc) := by rw [← hwv]; exact h4
    refine (reset_some base b cb vals.length cap blks cells w _ _ _ wa wide.length wc hbc hpos hn hwa hwc hr h0 h1 h2 h3 h4' h5 (r.free 0) (r.free 2) (r.free 3) (r.free 4) (r.free 5)).mono ?_
    rintro e w' ⟨rfl, wr, cells', rr, hw, a1, a2, a3⟩
    have oth : ∀ k, k ≠ b → w'.heap[k]? = wr.heap[k]? := fun k kb => by
      rw [hw, heap_set_ne kb, heap_set_ne kb, heap_set_ne kb, heap_set_ne kb, heap_set_ne kb, heap_set_ne kb]
    have oth2 : ∀ k, k ≠ b → k ≠ cb → w'.heap[k]? = w.heap[k]? := fun k kb kc => (oth k kb).trans (rr.block k kc)
    have hb' : w'.heap[b]? = some (.cells #[chunkV blks 0 0, .slice (some ⟨cb, 0, none⟩) vals.length cap, .int .i64 0, .int .i64 0, .slice wa 0 wc, .slice none 0 0] 28 (0, 0)) := by
      rw [hw]
      have e := heap_set_at (i := 5) (v := .slice none 0 0) (heap_set_at (i := 4) (v := .slice wa 0 wc) (heap_set_at (i := 0) (v := chunkV blks 0 0) (heap_set_at (i := 3) (v := .int .i64 0) (heap_set_at (i := 2) (v := .int .i64 0) (heap_set_at (i := 0) (v := .slice none 0 0) ((rr.block b hbc).trans r.hb))))))
      rw [e]
      simp
    have hne : vals.map (fun _ => ([] : List Int)) ≠ [] := by simpa using hv
    refine ⟨rfl, ⟨blks, _, .slice wa 0 wc, cells', ⟨?_, r.base_b, by simpa [St.reset] using r.blen, ?_, ?_, ?_, ?_, fun _ => by simpa [St.reset] using hpos, fun e => absurd e hne, ?_, hnd, fun e => absurd e hne⟩, hfoot.symm⟩, ⟨a1.trans rr.os, a2.trans rr.tape, a3.trans rr.output, ?_, ?_, fun k hk => .inl hk⟩⟩
    · rw [hb']
      simp only [St.reset, narV, hne, if_false, getD_nils, List.length_nil, inF_nils]
      rfl
    · simp only [St.reset, List.length_map]
      exact owns_keep rr.own fun g hg => by cases hg; exact oth cb hbc.symm
    · exact hown0 w' fun g hg => oth2 g (by rintro rfl; exact n3 hg) (by rintro rfl; exact n6 _ rfl hg)
    · intro k hk
      simp only [St.reset, List.length_map] at hk
      simp only [St.reset, getD_nils, List.length_nil, List.map_nil]
      have hm := getD_mem (blks := blks) (k := k) (by have := r.blen; omega)
      have := owns_keep (w' := w') (r.chunk k hk) fun g hg => by
        rw [chunk_block] at hg
        cases hg
        exact oth2 _ (by intro e; rw [e] at hm; exact n1 hm) (by intro e; rw [e] at hm; exact (n5 _ hm).1 rfl)
      exact owns_zero this
    · intro k hk
      simp only [St.reset, List.length_map] at hk
      exact ⟨0, rr.done k hk, by omega, fun _ => by simp only [St.reset, getD_nils, List.length_nil]⟩
    · intro k hk
      simp only [St.reset, getD_nils]
    · rw [hw]; simp [rr.size]
    · intro k hk hnk
      refine oth2 k ?_ ?_
      · rintro rfl; exact hnk (by simp [foot])
      · rintro rfl; exact hnk (by simp only [foot, List.mem_cons, List.mem_append, Option.mem_toList]; exact .inr (.inr (.inl rfl)))

set_option maxHeartbeats 400000 in
theorem reset24 {w : World} {base b : Nat} {S : St} {F : List Nat} (h : RecS w base b S F) (hn : S.vals.length ≤ 1000000) :
    Calls Try.prog 24 #[.pointer (some ⟨b, 0, none⟩)] w fun e w' => e = .returned (.tuple #[]) ∧ RecS w' base b S.reset F ∧ Step w w' F F := by
  have H := hide (reset_any h hn)
  clear h
  go_enter Try.func24, Try.ntmps24
  go_wp2_with (go_at_call 38; refine (unhide H).mono ?_; rintro e w' ⟨rfl, h1, h2⟩)
  go_end0
  exact ⟨rfl, h1, h2⟩

end Go.Proofs.Qxb6600929a
