/- 'nextChunk' on the record. -/
import Derived.Test.Qxb6600929aNext
namespace Go.Proofs.Qxb6600929a
open Go.RowKit
set_option linter.unusedSimpArgs false

/-- What 'nextChunk' does to the contents. -/
def nextVals (vals : List (List Int)) (full : Nat) : List (List Int) := if vals.length ≤ full + 1 then vals ++ [[]] else vals
def nextFull (vals : List (List Int)) (full : Nat) : Nat := if vals = [] then 0 else full + 1

theorem foot_nodup {b : Nat} {blks : List Nat} {cv wv : Value} : (foot b blks cv wv).Nodup ↔
    b ∉ blks ∧ cv.ownBlock ≠ some b ∧ wv.ownBlock ≠ some b ∧ blks.Nodup ∧ (∀ k, k ∈ blks → cv.ownBlock ≠ some k ∧ wv.ownBlock ≠ some k) ∧ (∀ g, cv.ownBlock = some g → wv.ownBlock ≠ some g) := by
  cases hc : cv.ownBlock <;> cases hw : wv.ownBlock <;>
    simp only [foot, hc, hw, List.nodup_cons, List.nodup_append, List.mem_append, Option.toList_none, Option.toList_some, List.mem_singleton, List.not_mem_nil, List.append_nil, List.nil_append, List.nodup_nil, not_or, or_false, false_or, not_false_iff, and_true, true_and, ne_eq, Option.some.injEq, reduceCtorEq, forall_eq, List.mem_cons] <;> grind

theorem inF_succ (vals : List (List Int)) (full : Nat) (h : full < vals.length) : inF vals (full + 1) = inF vals full + (vals.getD full []).length := by
  unfold inF
  rw [List.take_succ_eq_append_getElem h, List.flatten_append, List.length_append]
  simp [List.getD, h]

theorem owns_made {w : World} {base g c : Nat} (hg : w.heap[g]? = some (.cells (madeCells #[.int .u32 0] c) 36 (0, 0))) (hb : base ≤ g) (hc : c ≤ 65536) :
    w.ownsRow base 36 1 (.slice (some ⟨g, 0, none⟩) 0 c) 0 [] :=
  ⟨rfl, .inr ⟨g, c, _, rfl, hb, hg, Nat.zero_le _, by unfold maxLen; omega, by rw [size_madeCells]; omega, by simp⟩⟩

section
variable {w : World} {base b : Nat} {vals : List (List Int)} {full : Nat} {wide : List Int} {blks : List Nat} {cv wv : Value} {cells : List Value}

theorem getD_mem {blks : List Nat} {k : Nat} (h : k < blks.length) : blks.getD k 0 ∈ blks := by
  simp [List.getD, h]
theorem getD_inj {blks : List Nat} (hn : blks.Nodup) {j k : Nat} (hj : j < blks.length) (hk : k < blks.length) (h : blks.getD j 0 = blks.getD k 0) : j = k := by
  simp [List.getD, hj, hk] at h
  exact (List.getElem_inj hn).1 h

theorem own_slice (g n c : Nat) : (Value.slice (some ⟨g, 0, none⟩) n c).ownBlock = some g := rfl
theorem chunk_block (blks : List Nat) (k l : Nat) : (chunkV blks k l).ownBlock = some (blks.getD k 0) := rfl

/-- B -/
theorem rec_B (h : Rec w base b vals full wide blks cv wv cells) (hlt : full + 1 < vals.length) {cb cap : Nat} (hcv : cv = .slice (some ⟨cb, 0, none⟩) vals.length cap) {w' : World}
    (hw : w'.heap = ((((w.setCell ⟨cb, full, none⟩ (chunkV blks full (vals.getD full []).length)).setCell ⟨b, 2, none⟩ (.int .i64 (full + 1))).setCell ⟨b, 3, none⟩ (.int .i64 (inF vals full + (vals.getD full []).length))).setCell ⟨b, 0, none⟩ (chunkV blks (full + 1) 0)).heap)
    (h1 : w'.os = w.os) (h2 : w'.tape = w.tape) (h3 : w'.output = w.output) :
    Rec w' base b vals (full + 1) wide blks cv wv (cells.set full (chunkV blks full (vals.getD full []).length)) ∧ Step w w' (foot b blks cv wv) (foot b blks cv wv) := by
  have hne : vals ≠ [] := by rintro rfl; simp at hlt
  obtain ⟨n1, n2, n3, n4, n5, n6⟩ := foot_nodup.1 h.nodup
  have hbc : b ≠ cb := by rintro rfl; exact n2 (by rw [hcv]; rfl)
  have oth : ∀ k, k ≠ b → k ≠ cb → w'.heap[k]? = w.heap[k]? := by
    intro k kb kc
    rw [hw, heap_set_ne kb, heap_set_ne kb, heap_set_ne kb, heap_set_ne kc]
  have hb' : w'.heap[b]? = some (.cells #[chunkV blks (full + 1) 0, cv, .int .i64 (full + 1), .int .i64 (inF vals full + (vals.getD full []).length), wv, .slice none 0 0] 28 (0, 0)) := by
    rw [hw]
    have e := heap_set_at (i := 0) (v := chunkV blks (full + 1) 0) (heap_set_at (i := 3) (v := .int .i64 (inF vals full + (vals.getD full []).length)) (heap_set_at (i := 2) (v := .int .i64 (full + 1)) ((heap_set_ne (g := cb) (i := full) (v := chunkV blks full (vals.getD full []).length) hbc).trans h.hb)))
    rw [e]
    simp
  have aft := h.after (full + 1) (by omega)
  refine ⟨⟨?_, h.base_b, h.blen, ?_, ?_, ?_, ?_, fun _ => hlt, fun e => absurd e hne, fun k hk => h.after k (by omega), h.nodup, h.cnil⟩, ⟨h1, h2, h3, ?_, ?_, fun k hk => .inl hk⟩⟩
  · rw [hb', inF_succ vals full (by omega)]
    simp only [narV, hne, if_false, aft, List.length_nil]
    simp
  · have hc := h.cOwn
    rw [hcv] at hc ⊢
    refine owns_set hc fun cs hcs => ?_
    rw [hw, heap_set_ne (by omega), heap_set_ne (by omega), heap_set_ne (by omega)]
    exact heap_set_at hcs
  · exact owns_keep h.wOwn fun g hg => oth g (by rintro rfl; exact n3 hg) (by rintro rfl; exact n6 g (by rw [hcv]; rfl) hg)
  · intro k hk
    refine owns_keep (h.chunk k hk) fun g hg => ?_
    rw [chunk_block] at hg
    cases hg
    have hm := getD_mem (blks := blks) (k := k) (by have := h.blen; omega)
    exact oth _ (by intro e; rw [e] at hm; exact n1 hm) (by intro e; rw [e] at hm; exact (n5 _ hm).1 (by rw [hcv]; rfl))
  · intro k hk
    obtain ⟨l, hl, hl2, hl3⟩ := h.cell k hk
    by_cases e : k = full
    · subst e
      refine ⟨(vals.getD k []).length, ?_, ?_, fun _ => rfl⟩
      · rw [List.getElem?_set_self (by have := h.cells_len; omega)]
      · have := (owns_some (h.chunk k hk)).2.2.1
        exact this
    · refine ⟨l, ?_, hl2, fun _ => hl3 e⟩
      rw [List.getElem?_set_ne (by omega)]
      exact hl
  · rw [hw]; simp
  · intro k _ hk
    refine oth k ?_ ?_
    · rintro rfl; exact hk (by simp [foot])
    · rintro rfl; exact hk (by simp [foot, hcv, Value.ownBlock])

/-- A -/
theorem rec_A (h : Rec w base b [] full wide blks cv wv cells) {w2 w' : World} {g cap : Nat}
    (hown : w2.ownsRow base 24 1 (.slice (some ⟨g, 0, none⟩) 1 cap) 1 [.slice (some ⟨w.heap.size, 0, none⟩) 0 64])
    (hgrow : ((w.alloc (.cells (madeCells #[.int .u32 0] 64) 36)).alloc (.cells #[.slice (some ⟨w.heap.size, 0, none⟩) 0 64] 24)).grownBy w2 none) (hg : g = w.heap.size + 2)
    (hw : w'.heap = ((w2.setCell ⟨b, 1, none⟩ (.slice (some ⟨g, 0, none⟩) 1 cap)).setCell ⟨b, 0, none⟩ (.slice (some ⟨w.heap.size, 0, none⟩) 0 64)).heap)
    (h1 : w'.os = w2.os) (h2 : w'.tape = w2.tape) (h3 : w'.output = w2.output) :
    Rec w' base b [[]] 0 wide [w.heap.size] (.slice (some ⟨g, 0, none⟩) 1 cap) wv [.slice (some ⟨w.heap.size, 0, none⟩) 0 64] ∧ Step w w' (foot b blks cv wv) (foot b [w.heap.size] (.slice (some ⟨g, 0, none⟩) 1 cap) wv) := by
  obtain ⟨n1, n2, n3, n4, n5, n6⟩ := foot_nodup.1 h.nodup
  have hbl := h.b_lt
  have hfl := h.foot_lt
  have hbb := h.base_b
  have hf0 := h.full0 rfl
  subst hf0
  have old : ∀ k, k < w.heap.size → w2.heap[k]? = w.heap[k]? := by
    intro k hk
    rw [hgrow.block k (by simp; omega) (by simp), Below.heap_alloc _ _ _ (by simp; omega), Below.heap_alloc _ _ _ hk]
  have hnew : w2.heap[w.heap.size]? = some (.cells (madeCells #[.int .u32 0] 64) 36 (0, 0)) := by
    rw [hgrow.block _ (by simp; omega) (by simp), Below.heap_alloc _ _ _ (by simp)]
    exact heap_alloc_new w _
  have oth : ∀ k, k ≠ b → w'.heap[k]? = w2.heap[k]? := by
    intro k kb
    rw [hw, heap_set_ne kb, heap_set_ne kb]
  have hb' : w'.heap[b]? = some (.cells #[.slice (some ⟨w.heap.size, 0, none⟩) 0 64, .slice (some ⟨g, 0, none⟩) 1 cap, .int .i64 0, .int .i64 (inF [] 0), wv, .slice none 0 0] 28 (0, 0)) := by
    rw [hw]
    have e := heap_set_at (i := 0) (v := .slice (some ⟨w.heap.size, 0, none⟩) 0 64) (heap_set_at (i := 1) (v := .slice (some ⟨g, 0, none⟩) 1 cap) ((old b hbl).trans h.hb))
    rw [e]
    simp
  have hwlt : ∀ x, wv.ownBlock = some x → x < w.heap.size := fun x hx => (owns_lt h.wOwn hx).2
  have hsz := hgrow.size
  refine ⟨⟨?_, h.base_b, rfl, ?_, ?_, ?_, ?_, fun _ => by simp, fun e => by simp at e, ?_, ?_, fun e => by simp at e⟩, ⟨h1.trans hgrow.os, h2.trans hgrow.tape, h3.trans hgrow.output, ?_, ?_, ?_⟩⟩
  · rw [hb']
    simp [narV, chunkV, capOf_zero, inF]
  · exact owns_keep hown fun x hx => oth x (by cases hx; show g ≠ b; omega)
  · exact owns_keep h.wOwn fun x hx => (oth x (by rintro rfl; exact n3 hx)).trans (old x (hwlt x hx))
  · intro k hk
    obtain rfl : k = 0 := by simp at hk; exact hk
    have := owns_made (w := w') (base := base) (g := w.heap.size) (c := 64) ((oth _ (by omega)).trans hnew) (by omega) (by omega)
    simpa [chunkV, capOf_zero] using this
  · intro k hk
    obtain rfl : k = 0 := by simp at hk; exact hk
    exact ⟨0, rfl, by omega, fun e => absurd rfl e⟩
  · intro k hk
    cases k with
    | zero => omega
    | succ k => simp [List.getD]
  · refine foot_nodup.2 ⟨?_, ?_, n3, by simp, ?_, ?_⟩
    · simp; omega
    · simp [Value.ownBlock]; omega
    · intro k hk
      simp at hk
      subst hk
      exact ⟨by simp [Value.ownBlock]; omega, fun hx => by have := hwlt _ hx; omega⟩
    · intro x hx hy
      have := hwlt _ hy
      simp [Value.ownBlock] at hx
      omega
  · rw [hw]
    simp at hsz ⊢
    omega
  · intro k hk hn
    have kb : k ≠ b := by rintro rfl; exact hn (by simp [foot])
    exact (oth k kb).trans (old k hk)
  · intro k hk
    simp only [foot, List.mem_cons, List.mem_append, Option.mem_toList, List.not_mem_nil, or_false, own_slice, Option.some.injEq] at hk
    rcases hk with rfl | rfl | rfl | hk
    · exact .inl (by simp [foot])
    · exact .inr (Nat.le_refl _)
    · exact .inr (by omega)
    · exact .inl (by simp [foot, hk])

/-- C -/
theorem rec_C (h : Rec w base b vals full wide blks cv wv cells) (hlt : full + 1 = vals.length) {cb cap0 : Nat} (hcv : cv = .slice (some ⟨cb, 0, none⟩) vals.length cap0) {w2 w' : World} {g cap : Nat}
    (hown : w2.ownsRow base 24 1 (.slice (some ⟨g, 0, none⟩) (vals.length + 1) cap) (vals.length + 1) (cells.set full (chunkV blks full (vals.getD full []).length) ++ [.slice (some ⟨w.heap.size, 0, none⟩) 0 (capOf (full + 1))]))
    (hgrow : (((stored w b cb full (chunkV blks full (vals.getD full []).length) (.int .i64 (full + 1)) (.int .i64 (inF vals full + (vals.getD full []).length))).alloc (.cells (madeCells #[.int .u32 0] (capOf (full + 1))) 36)).alloc (.cells #[.slice (some ⟨w.heap.size, 0, none⟩) 0 (capOf (full + 1))] 24)).grownBy w2 (some cb)) (hg : g = cb ∨ g = w.heap.size + 2)
    (hw : w'.heap = ((w2.setCell ⟨b, 1, none⟩ (.slice (some ⟨g, 0, none⟩) (vals.length + 1) cap)).setCell ⟨b, 0, none⟩ (.slice (some ⟨w.heap.size, 0, none⟩) 0 (capOf (full + 1)))).heap)
    (h1 : w'.os = w2.os) (h2 : w'.tape = w2.tape) (h3 : w'.output = w2.output) :
    Rec w' base b (vals ++ [[]]) (full + 1) wide (blks ++ [w.heap.size]) (.slice (some ⟨g, 0, none⟩) (vals.length + 1) cap) wv (cells.set full (chunkV blks full (vals.getD full []).length) ++ [.slice (some ⟨w.heap.size, 0, none⟩) 0 (capOf (full + 1))]) ∧
      Step w w' (foot b blks cv wv) (foot b (blks ++ [w.heap.size]) (.slice (some ⟨g, 0, none⟩) (vals.length + 1) cap) wv) := by
  have hne : vals ≠ [] := by rintro rfl; simp at hlt
  obtain ⟨n1, n2, n3, n4, n5, n6⟩ := foot_nodup.1 h.nodup
  have hbc : b ≠ cb := by rintro rfl; exact n2 (by rw [hcv]; rfl)
  have hbl := h.b_lt
  have hfl := h.foot_lt
  have hbb := h.base_b
  have hblen := h.blen
  have hclen := h.cells_len
  have hcbl : base ≤ cb ∧ cb < w.heap.size := hfl cb (by simp [foot, hcv, Value.ownBlock])
  have hhi := capOf_hi (full + 1)
  have hss : (stored w b cb full (chunkV blks full (vals.getD full []).length) (.int .i64 (full + 1)) (.int .i64 (inF vals full + (vals.getD full []).length))).heap.size = w.heap.size := by simp
  have old : ∀ k, k < w.heap.size → k ≠ cb → w2.heap[k]? = (stored w b cb full (chunkV blks full (vals.getD full []).length) (.int .i64 (full + 1)) (.int .i64 (inF vals full + (vals.getD full []).length))).heap[k]? := by
    intro k hk kc
    rw [hgrow.block k (by simp; omega) (by simp; exact kc), Below.heap_alloc _ _ _ (by simp; omega), Below.heap_alloc _ _ _ (by omega)]
  have old' : ∀ k, k < w.heap.size → k ≠ cb → k ≠ b → w2.heap[k]? = w.heap[k]? := by
    intro k hk kc kb
    rw [old k hk kc, heap_set_ne kb, heap_set_ne kb, heap_set_ne kc]
  have hnew : w2.heap[w.heap.size]? = some (.cells (madeCells #[.int .u32 0] (capOf (full + 1))) 36 (0, 0)) := by
    rw [hgrow.block _ (by simp; omega) (by simp; omega), Below.heap_alloc _ _ _ (by simp)]
    have e := heap_alloc_new (stored w b cb full (chunkV blks full (vals.getD full []).length) (.int .i64 (full + 1)) (.int .i64 (inF vals full + (vals.getD full []).length))) (.cells (madeCells #[.int .u32 0] (capOf (full + 1))) 36)
    rw [hss] at e
    exact e
  have oth : ∀ k, k ≠ b → w'.heap[k]? = w2.heap[k]? := by
    intro k kb
    rw [hw, heap_set_ne kb, heap_set_ne kb]
  have hb' : w'.heap[b]? = some (.cells #[.slice (some ⟨w.heap.size, 0, none⟩) 0 (capOf (full + 1)), .slice (some ⟨g, 0, none⟩) (vals.length + 1) cap, .int .i64 (full + 1), .int .i64 (inF vals full + (vals.getD full []).length), wv, .slice none 0 0] 28 (0, 0)) := by
    rw [hw]
    have e := heap_set_at (i := 0) (v := .slice (some ⟨w.heap.size, 0, none⟩) 0 (capOf (full + 1))) (heap_set_at (i := 1) (v := .slice (some ⟨g, 0, none⟩) (vals.length + 1) cap) ((old b hbl hbc).trans
      (heap_set_at (i := 3) (v := .int .i64 (inF vals full + (vals.getD full []).length)) (heap_set_at (i := 2) (v := .int .i64 (full + 1)) ((heap_set_ne (g := cb) (i := full) (v := chunkV blks full (vals.getD full []).length) hbc).trans h.hb)))))
    rw [e]
    simp
  have hwlt : ∀ x, wv.ownBlock = some x → x < w.heap.size := fun x hx => (owns_lt h.wOwn hx).2
  have hblt : ∀ x, x ∈ blks → x < w.heap.size := fun x hx => (hfl x (by simp [foot, hx])).2
  have hgw : ∀ x, wv.ownBlock = some x → x ≠ g := by
    rintro x hx rfl
    rcases hg with e | e
    · exact n6 x (by rw [hcv]; simp [Value.ownBlock, e]) hx
    · have := hwlt x hx; omega
  have hgx : ∀ x, x ∈ blks → x ≠ g := by
    rintro x hx rfl
    rcases hg with e | e
    · exact (n5 x hx).1 (by rw [hcv]; simp [Value.ownBlock, e])
    · have := hblt x hx; omega
  have hgb : g ≠ b := by omega
  have hsz := hgrow.size
  have vcat : ∀ k, k < vals.length → (vals ++ [[]]).getD k [] = vals.getD k [] := by
    intro k hk
    simp [List.getD, List.getElem?_append_left hk]
  have vend : (vals ++ [[]]).getD (full + 1) [] = [] := by simp [List.getD, hlt]
  have bcat : ∀ k, k < vals.length → (blks ++ [w.heap.size]).getD k 0 = blks.getD k 0 := by
    intro k hk
    simp [List.getD, List.getElem?_append_left (by omega : k < blks.length)]
  have bend : (blks ++ [w.heap.size]).getD (full + 1) 0 = w.heap.size := by simp [List.getD, hlt, ← hblen]
  have ccat : ∀ k l, k < vals.length → chunkV (blks ++ [w.heap.size]) k l = chunkV blks k l := by
    intro k l hk
    simp only [chunkV, bcat k hk]
  have cend : ∀ l, chunkV (blks ++ [w.heap.size]) (full + 1) l = .slice (some ⟨w.heap.size, 0, none⟩) l (capOf (full + 1)) := by
    intro l
    simp only [chunkV, bend]
  refine ⟨⟨?_, h.base_b, by simp [hblen], by simpa using owns_keep hown fun x hx => oth x (by cases hx; exact hgb), ?_, ?_, ?_, fun _ => by simp; omega, fun e => by simp at e, ?_, ?_, fun e => by simp at e⟩, ⟨h1.trans hgrow.os, h2.trans hgrow.tape, h3.trans hgrow.output, ?_, ?_, ?_⟩⟩
  · rw [hb']
    have e1 : inF (vals ++ [[]]) (full + 1) = inF vals full + (vals.getD full []).length := by
      rw [← inF_succ vals full (by omega)]
      unfold inF
      rw [List.take_append_of_le_length (by omega)]
    rw [e1]
    simp only [narV, List.append_eq_nil_iff, hne, false_and, if_false, vend, cend, List.length_nil]
    simp
  · exact owns_keep h.wOwn fun x hx => (oth x (by rintro rfl; exact n3 hx)).trans (old' x (hwlt x hx) (by rintro rfl; exact n6 x (by rw [hcv]; rfl) hx) (by rintro rfl; exact n3 hx))
  · intro k hk
    by_cases hk' : k < vals.length
    · rw [ccat k _ hk', vcat k hk']
      refine owns_keep (h.chunk k hk') fun x hx => ?_
      rw [chunk_block] at hx
      cases hx
      have hm := getD_mem (blks := blks) (k := k) (by omega)
      have kb : blks.getD k 0 ≠ b := by intro e; rw [e] at hm; exact n1 hm
      exact (oth _ kb).trans (old' _ (hblt _ hm) (by intro e; rw [e] at hm; exact (n5 _ hm).1 (by rw [hcv]; rfl)) kb)
    · obtain rfl : k = full + 1 := by simp at hk; omega
      rw [vend, cend]
      exact owns_made ((oth _ (by omega)).trans hnew) (by omega) (by omega)
  · intro k hk
    by_cases hk' : k < vals.length
    · rw [vcat k hk', List.getElem?_append_left (by simp; omega)]
      obtain ⟨l, hl, hl2, hl3⟩ := h.cell k hk'
      by_cases e : k = full
      · subst e
        refine ⟨(vals.getD k []).length, ?_, (owns_some (h.chunk k hk')).2.2.1, fun _ => rfl⟩
        rw [List.getElem?_set_self (by omega), ccat k _ hk']
      · refine ⟨l, ?_, hl2, fun _ => hl3 e⟩
        rw [List.getElem?_set_ne (by omega), ccat k _ hk']
        exact hl
    · obtain rfl : k = full + 1 := by simp at hk; omega
      refine ⟨0, ?_, by omega, fun e => absurd rfl e⟩
      rw [List.getElem?_append_right (by simp; omega), cend]
      simp [hclen, hlt]
  · intro k hk
    simp [List.getD, List.getElem?_eq_none (show (vals ++ [[]]).length ≤ k by simp; omega)]
  · refine foot_nodup.2 ⟨?_, ?_, n3, ?_, ?_, ?_⟩
    · simp only [List.mem_append, List.mem_singleton, not_or]
      exact ⟨n1, by omega⟩
    · simp only [Value.ownBlock, ne_eq, Option.some.injEq]
      exact hgb
    · rw [List.nodup_append]
      exact ⟨n4, by simp, fun a ha c hc => by simp at hc; have := hblt a ha; omega⟩
    · intro k hk
      simp only [List.mem_append, List.mem_singleton] at hk
      rcases hk with hk | hk
      · exact ⟨by simp only [Value.ownBlock, ne_eq, Option.some.injEq]; exact (hgx k hk).symm, (n5 k hk).2⟩
      · subst hk
        exact ⟨by simp only [Value.ownBlock, ne_eq, Option.some.injEq]; omega, fun hx => by have := hwlt _ hx; omega⟩
    · intro x hx hy
      simp only [Value.ownBlock, Option.some.injEq] at hx
      exact hgw x hy hx.symm
  · rw [hw]
    simp at hsz ⊢
    omega
  · intro k hk hn
    have kb : k ≠ b := by rintro rfl; exact hn (by simp [foot])
    exact (oth k kb).trans (old' k hk (by rintro rfl; exact hn (by simp [foot, hcv, Value.ownBlock])) kb)
  · intro k hk
    simp only [foot, List.mem_cons, List.mem_append, Option.mem_toList, List.not_mem_nil, or_false, own_slice, Option.some.injEq] at hk
    rcases hk with rfl | (hk | rfl) | rfl | hk
    · exact .inl (by simp [foot])
    · exact .inl (by simp [foot, hk])
    · exact .inr (Nat.le_refl _)
    · rcases hg with e | e
      · exact .inl (by simp [foot, hcv, Value.ownBlock, e])
      · exact .inr (by omega)
    · exact .inl (by simp [foot, hk])

end
end Go.Proofs.Qxb6600929a
