/- 'nextChunk' by its contract; 'zzAddB1' walked. -/
import Derived.Test.Qxb6600929aNextRec
namespace Go.Proofs.Qxb6600929a
open Go.RowKit
set_option linter.unusedSimpArgs false

theorem inF_le (vals : List (List Int)) (full : Nat) : inF vals full ≤ vals.flatten.length := by
  unfold inF
  have : vals.flatten = (vals.take full).flatten ++ (vals.drop full).flatten := by rw [← List.flatten_append, List.take_append_drop]
  rw [this]
  simp

theorem next_rec {w : World} {base b : Nat} {vals : List (List Int)} {full : Nat} {wide : List Int} {F : List Nat} (hr : RecE w base b vals full wide F) (hn : vals.length ≤ 1000000) (ht : vals.flatten.length ≤ 1000000) :
    Calls Try.prog 37 #[.pointer (some ⟨b, 0, none⟩)] w fun e w' => e = .returned (.tuple #[]) ∧ ∃ F', RecE w' base b (nextVals vals full) (nextFull vals full) wide F' ∧ Step w w' F F' := by
  obtain ⟨blks, cv, wv, cells, h, rfl⟩ := hr
  have hbl := h.b_lt
  have hbb := h.base_b
  have h0 := h.field 0 _ rfl
  have h1 := h.field 1 _ rfl
  have h2 := h.field 2 _ rfl
  have h3 := h.field 3 _ rfl
  have f0 := h.free 0
  have f1 := h.free 1
  have f2 := h.free 2
  have f3 := h.free 3
  have hiF := inF_le vals full
  by_cases hv : vals = []
  · subst hv
    have hf0 := h.full0 rfl
    subst hf0
    have hcv : cv = .slice none 0 0 := h.cnil rfl
    subst hcv
    refine (next_A b w base (by omega) hbl h0 h1 h2 f0 f1).mono ?_
    rintro e w' ⟨rfl, g, cap, w2, a1, a2, a3, a4, a5, a6, a7⟩
    obtain ⟨r1, r2⟩ := rec_A h a1 a2 a3 a4 a5 a6 a7
    exact ⟨rfl, _, ⟨_, _, _, _, r1, rfl⟩, r2⟩
  · have hfl := h.fullLt hv
    obtain ⟨n1, n2, n3, n4, n5, n6⟩ := foot_nodup.1 h.nodup
    rcases owns_form h.cOwn with ⟨_, e, _⟩ | ⟨cb, cap, hcv, hcl, hcm, hcb, hcbl⟩
    · exact absurd (List.eq_nil_of_length_eq_zero e) hv
    subst hcv
    have hbc : b ≠ cb := by rintro rfl; exact n2 rfl
    have hnv : narV blks vals full = chunkV blks full (vals.getD full []).length := by simp only [narV, hv, if_false]
    rw [hnv] at h0
    have hle := (owns_some (h.chunk full hfl)).2.2.1
    have hhi := capOf_hi full
    have hlo := capOf_lo full
    obtain ⟨l, hl, hl2, hl3⟩ := h.cell full hfl
    by_cases hB : full + 1 < vals.length
    · obtain ⟨l', hl', hl2', hl3'⟩ := h.cell (full + 1) hB
      have e0 : l' = 0 := by rw [hl3' (by omega), h.after (full + 1) (by omega)]; rfl
      subst e0
      refine (next_B b cb _ _ _ _ _ full (inF vals full) w _ _ _ _ hbc hB (by omega) (by omega) (by omega) h0 h1 h2 h3 f0 f2 f3 (owns_cell h.cOwn hl) (owns_frozen h.cOwn full) (owns_cell h.cOwn hl')).mono ?_
      rintro e w' ⟨rfl, a1, a2, a3, a4⟩
      obtain ⟨r1, r2⟩ := rec_B h hB rfl a1 a2 a3 a4
      have ev : nextVals vals full = vals := by unfold nextVals; rw [if_neg (by omega)]
      have ef : nextFull vals full = full + 1 := by unfold nextFull; rw [if_neg hv]
      rw [ev, ef]
      exact ⟨rfl, _, ⟨_, _, _, _, r1, rfl⟩, r2⟩
    · have hC : full + 1 = vals.length := by omega
      refine (next_C base b cb _ _ _ _ _ full (inF vals full) (capOf (full + 1)) w _ cells hbc hC (by omega) (by omega) (by omega) hlo hhi (capOf_next full) (by omega) hbl h0 h1 h2 h3 f0 f1 f2 f3 h.cOwn hl).mono ?_
      rintro e w' ⟨rfl, g, cap', w2, a1, a2, a3, a4, a5, a6, a7⟩
      obtain ⟨r1, r2⟩ := rec_C h hC rfl a1 a2 a3 a4 a5 a6 a7
      have ev : nextVals vals full = vals ++ [[]] := by unfold nextVals; rw [if_pos (by omega)]
      have ef : nextFull vals full = full + 1 := by unfold nextFull; rw [if_neg hv]
      rw [ev, ef]
      exact ⟨rfl, _, ⟨_, _, _, _, r1, rfl⟩, r2⟩

set_option maxHeartbeats 400000 in
theorem narrow_any (b : Nat) (a0 : Option Addr) (n c : Nat) (w : World) (h : w.cell? ⟨b, 0, none⟩ = some (.slice a0 n c)) :
    Calls Try.prog 30 #[.pointer (some ⟨b, 0, none⟩)] w fun e w' => e = .returned (.slice a0 n c) ∧ w = w' := by
  go_enter Try.func30, Try.ntmps30
  go_wp2
  go_ret
  exact ⟨rfl, rfl⟩
set_option maxHeartbeats 400000 in
theorem setNarrow_any (b : Nat) (v : Value) (a0 : Option Addr) (n c : Nat) (w : World) (h : w.cell? ⟨b, 0, none⟩ = some v) (hf : w.frozen? ⟨b, 0, none⟩ = false) :
    Calls Try.prog 31 #[.pointer (some ⟨b, 0, none⟩), .slice a0 n c] w fun e w' => e = .returned (.tuple #[]) ∧ w.setCell ⟨b, 0, none⟩ (.slice a0 n c) = w' := by
  go_enter Try.func31, Try.ntmps31
  go_wp2
  go_end0
  exact ⟨rfl, rfl⟩

theorem one_new1 (w : World) (v : Value) (e : TypeId) (j : Nat) (u : Value) (hu : [v][j]? = some u) :
    (w.alloc (.cells #[v] e)).cell? ((⟨w.heap.size, 0, none⟩ : Addr).add j) = some u := by
  match j, hu with
  | 0, hu =>
    simp at hu
    subst hu
    show (w.alloc (.cells #[v] e)).cell? ⟨w.heap.size, 0, none⟩ = some v
    rw [World.cell?_alloc_new]
    rfl

theorem grown_cell1 {w W w2 : World} {o1 : Obj} {row : Option Nat} (hg : W.grownBy w2 row) (hW : W.heap = (w.alloc o1).heap) (b i : Nat) (hb : b < w.heap.size) (hr : some b ≠ row) {v : Value}
    (h0 : w.cell? ⟨b, i, none⟩ = some v) (f0 : w.frozen? ⟨b, i, none⟩ = false) :
    w2.cell? ⟨b, i, none⟩ = some v ∧ w2.frozen? ⟨b, i, none⟩ = false := by
  have hs : W.heap.size = w.heap.size + 1 := by rw [hW]; simp
  have h1 : w2.heap[b]? = w.heap[b]? := by
    rw [hg.block b (by omega) hr, hW, Below.heap_alloc _ _ _ hb]
  exact ⟨(World.cell?_of_block h1).trans h0, (World.frozen?_of_block h1).trans f0⟩

set_option maxHeartbeats 1000000 in
theorem add_room (base b nb nl nc : Nat) (d : Int) (w : World) (xs : List Value) (hd0 : 0 ≤ d) (hd1 : d ≤ 4294967295) (hbl : b < w.heap.size) (hne : b ≠ nb) (hroom : nl < nc)
    (h0 : w.cell? ⟨b, 0, none⟩ = some (.slice (some ⟨nb, 0, none⟩) nl nc)) (f0 : w.frozen? ⟨b, 0, none⟩ = false) (hown : w.ownsRow base 36 1 (.slice (some ⟨nb, 0, none⟩) nl nc) nl xs) :
    Calls Try.prog 10 #[.pointer (some ⟨b, 0, none⟩), .int .i64 d] w fun e w' => e = .returned (.bool false) ∧
      ∃ w2, World.ownsRow w2 base 36 1 (.slice (some ⟨nb, 0, none⟩) (nl + 1) nc) (nl + 1) (xs ++ [.int .u32 d]) ∧ (w.alloc (.cells #[.int .u32 d] 36)).grownBy w2 (some nb) ∧
        w'.heap = (w2.setCell ⟨b, 0, none⟩ (.slice (some ⟨nb, 0, none⟩) (nl + 1) nc)).heap ∧ w'.os = w2.os ∧ w'.tape = w2.tape ∧ w'.output = w2.output := by
  obtain ⟨i0, hi, hz0, hz1, hz2⟩ := info_parts Try.info36
  have HO := hide hown
  clear hown
  go_enter Try.func10, Try.ntmps10
  go_wp2_with (first | (go_at_call 30; refine (narrow_any _ _ _ _ _ h0).mono ?_; rintro e w' ⟨rfl, rfl⟩) | (at_builtin; refine wpList_append_own_spare _ rfl (.tmp 25) (.tmp 28) 24 rfl base 36 i0 1 Try.underlying24 hi hz1 nb nl nc xs rfl ((unhide HO).alloc _) ⟨w.heap.size, 0, none⟩ 1 1 [.int .u32 d] rfl rfl (one_new1 _ _ _) (by intro u hu; simp at hu; subst hu; rfl) (by omega) ?_; intro w2 hown2 hgrow2; obtain ⟨k0, g0⟩ := grown_cell1 (w := w) hgrow2 rfl b 0 hbl (by simp; exact hne) h0 f0) | (go_at_call 31; refine (setNarrow_any _ _ _ _ _ _ k0 g0).mono ?_; rintro e w' ⟨rfl, rfl⟩))
  go_ret
  exact ⟨rfl, w2, hown2, hgrow2, rfl, rfl, rfl, rfl⟩

set_option maxHeartbeats 1000000 in
theorem add_full (base b n : Nat) (na : Option Addr) (d : Int) (w : World) (hd0 : 0 ≤ d) (hd1 : d ≤ 4294967295) (h0 : w.cell? ⟨b, 0, none⟩ = some (.slice na n n)) (R : World → Prop)
    (hnext : Calls Try.prog 22 #[.pointer (some ⟨b, 0, none⟩)] w fun e w1 => e = .returned (.tuple #[]) ∧ R w1)
    (hR : ∀ w1, R w1 → ∃ nb nl nc xs, b < w1.heap.size ∧ b ≠ nb ∧ nl < nc ∧ w1.cell? ⟨b, 0, none⟩ = some (.slice (some ⟨nb, 0, none⟩) nl nc) ∧ w1.frozen? ⟨b, 0, none⟩ = false ∧ w1.ownsRow base 36 1 (.slice (some ⟨nb, 0, none⟩) nl nc) nl xs) :
    Calls Try.prog 10 #[.pointer (some ⟨b, 0, none⟩), .int .i64 d] w fun e w' => e = .returned (.bool true) ∧
      ∃ w1 nb nl nc xs w2, R w1 ∧ w1.cell? ⟨b, 0, none⟩ = some (.slice (some ⟨nb, 0, none⟩) nl nc) ∧ w1.ownsRow base 36 1 (.slice (some ⟨nb, 0, none⟩) nl nc) nl xs ∧
        World.ownsRow w2 base 36 1 (.slice (some ⟨nb, 0, none⟩) (nl + 1) nc) (nl + 1) (xs ++ [.int .u32 d]) ∧ (w1.alloc (.cells #[.int .u32 d] 36)).grownBy w2 (some nb) ∧
        w'.heap = (w2.setCell ⟨b, 0, none⟩ (.slice (some ⟨nb, 0, none⟩) (nl + 1) nc)).heap ∧ w'.os = w2.os ∧ w'.tape = w2.tape ∧ w'.output = w2.output := by
  obtain ⟨i0, hi, hz0, hz1, hz2⟩ := info_parts Try.info36
  have HN := hide hnext
  have HR := hide hR
  clear hnext hR
  go_enter Try.func10, Try.ntmps10
  go_wp2_with (first | (go_at_call 30; refine (narrow_any _ _ _ _ _ h0).mono ?_; rintro e w' ⟨rfl, rfl⟩))
  refine (unhide HN).mono ?_
  rintro e w1 ⟨rfl, hw1⟩
  obtain ⟨nb, nl, nc, xs, hbl, hne, hroom, k1, g1, hown⟩ := unhide HR w1 hw1
  have HW := hide hw1
  have HO := hide hown
  clear hown hw1 h0
  go_wp2_with (first | (go_at_call 30; refine (narrow_any _ _ _ _ _ k1).mono ?_; rintro e w' ⟨rfl, rfl⟩) | (at_builtin; refine wpList_append_own_spare _ rfl (.tmp 25) (.tmp 28) 24 rfl base 36 i0 1 Try.underlying24 hi hz1 nb nl nc xs rfl ((unhide HO).alloc _) ⟨w1.heap.size, 0, none⟩ 1 1 [.int .u32 d] rfl rfl (one_new1 _ _ _) (by intro u hu; simp at hu; subst hu; rfl) (by omega) ?_; intro w2 hown2 hgrow2; obtain ⟨k0, g0⟩ := grown_cell1 (w := w1) hgrow2 rfl b 0 hbl (by simp; exact hne) k1 g1) | (go_at_call 31; refine (setNarrow_any _ _ _ _ _ _ k0 g0).mono ?_; rintro e w' ⟨rfl, rfl⟩))
  go_ret
  exact ⟨rfl, w1, nb, nl, nc, xs, w2, unhide HW, k1, unhide HO, hown2, hgrow2, rfl, rfl, rfl, rfl⟩

set_option maxHeartbeats 400000 in
theorem next22 {w : World} {base b : Nat} {vals : List (List Int)} {full : Nat} {wide : List Int} {F : List Nat} (hr : RecE w base b vals full wide F) (hn : vals.length ≤ 1000000) (ht : vals.flatten.length ≤ 1000000) :
    Calls Try.prog 22 #[.pointer (some ⟨b, 0, none⟩)] w fun e w' => e = .returned (.tuple #[]) ∧ ∃ F', RecE w' base b (nextVals vals full) (nextFull vals full) wide F' ∧ Step w w' F F' := by
  have H := hide (next_rec hr hn ht)
  clear hr hn ht
  go_enter Try.func22, Try.ntmps22
  go_wp2_with (go_at_call 37; refine (unhide H).mono ?_; rintro e w' ⟨rfl, h'⟩)
  go_end0
  exact ⟨rfl, h'⟩

set_option maxHeartbeats 400000 in
theorem wide_any (b : Nat) (a0 : Option Addr) (n c : Nat) (w : World) (h : w.cell? ⟨b, 4, none⟩ = some (.slice a0 n c)) :
    Calls Try.prog 28 #[.pointer (some ⟨b, 0, none⟩)] w fun e w' => e = .returned (.slice a0 n c) ∧ w = w' := by
  go_enter Try.func28, Try.ntmps28
  go_wp2
  go_ret
  exact ⟨rfl, rfl⟩
set_option maxHeartbeats 400000 in
theorem setWide_any (b : Nat) (v : Value) (a0 : Option Addr) (n c : Nat) (w : World) (h : w.cell? ⟨b, 4, none⟩ = some v) (hf : w.frozen? ⟨b, 4, none⟩ = false) :
    Calls Try.prog 32 #[.pointer (some ⟨b, 0, none⟩), .slice a0 n c] w fun e w' => e = .returned (.tuple #[]) ∧ w.setCell ⟨b, 4, none⟩ (.slice a0 n c) = w' := by
  go_enter Try.func32, Try.ntmps32
  go_wp2
  go_end0
  exact ⟨rfl, rfl⟩

set_option maxHeartbeats 1000000 in
theorem add_wide (base b n c : Nat) (a0 : Option Addr) (d : Int) (w : World) (xs : List Value) (hd1 : 4294967295 < d) (hbl : b < w.heap.size) (hbb : base ≤ w.heap.size) (hne : (Value.slice a0 n c).ownBlock ≠ some b) (hn : n ≤ 1000000)
    (h0 : w.cell? ⟨b, 4, none⟩ = some (.slice a0 n c)) (f0 : w.frozen? ⟨b, 4, none⟩ = false) (hown : w.ownsRow base 2 1 (.slice a0 n c) n xs) :
    Calls Try.prog 10 #[.pointer (some ⟨b, 0, none⟩), .int .i64 d] w fun e w' => e = .returned (.bool false) ∧
      ∃ g cap w2, World.ownsRow w2 base 2 1 (.slice (some ⟨g, 0, none⟩) (n + 1) cap) (n + 1) (xs ++ [.int .i64 d]) ∧ (w.alloc (.cells #[.int .i64 d] 2)).grownBy w2 (Value.slice a0 n c).ownBlock ∧
        ((Value.slice a0 n c).ownBlock = some g ∨ g = w.heap.size + 1) ∧
        w'.heap = (w2.setCell ⟨b, 4, none⟩ (.slice (some ⟨g, 0, none⟩) (n + 1) cap)).heap ∧ w'.os = w2.os ∧ w'.tape = w2.tape ∧ w'.output = w2.output := by
  obtain ⟨i0, hi, hz0, hz1, hz2⟩ := info_parts Try.info2
  have HO := hide hown
  have HNE := hide hne
  clear hown hne
  go_enter Try.func10, Try.ntmps10
  go_wp2_with (first | (go_at_call 28; refine (wide_any _ _ _ _ _ h0).mono ?_; rintro e w' ⟨rfl, rfl⟩) | (at_builtin; refine wpList_append_lies _ rfl (.tmp 34) (.tmp 36) 22 rfl base 2 i0 (.int .i64 0) 1 8 Try.underlying22 hi hz0 hz1 hz2 rfl (by decide) (.slice a0 n c) n xs rfl ((unhide HO).alloc _) ⟨w.heap.size, 0, none⟩ 1 1 [.int .i64 d] rfl rfl (one_new1 _ _ _) (by intro u hu; simp at hu; subst hu; rfl) (by decide) (by unfold maxLen; omega) (by omega) (by simp; omega) (w.heap.size + 1) (by simp) ?_; intro g cap w2 hown2 hgrow2 hg hlt; obtain ⟨k0, g0⟩ := grown_cell1 (w := w) hgrow2 rfl b 4 hbl (unhide HNE).symm h0 f0) | (go_at_call 32; refine (setWide_any _ _ _ _ _ _ k0 g0).mono ?_; rintro e w' ⟨rfl, rfl⟩))
  go_ret
  exact ⟨rfl, g, cap, w2, hown2, hgrow2, hg, rfl, rfl, rfl, rfl⟩

end Go.Proofs.Qxb6600929a
