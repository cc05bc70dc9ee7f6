/- 'zzAddB1' on the record. -/
import Derived.Test.Qxb6600929aAdd
namespace Go.Proofs.Qxb6600929a
open Go.RowKit
set_option linter.unusedSimpArgs false

/-- The record's contents. -/
structure St where
  vals : List (List Int)
  full : Nat
  wide : List Int

def RecS (w : World) (base b : Nat) (S : St) (F : List Nat) : Prop := RecE w base b S.vals S.full S.wide F

def St.fullB (S : St) : Bool := S.vals.isEmpty || (S.vals.getD S.full []).length == capOf S.full
def St.next (S : St) : St := ⟨nextVals S.vals S.full, nextFull S.vals S.full, S.wide⟩
def St.push (S : St) (d : Int) : St := ⟨S.vals.set S.full (S.vals.getD S.full [] ++ [d]), S.full, S.wide⟩
def St.addN (S : St) (d : Int) : St := if S.fullB then S.next.push d else S.push d
def St.addW (S : St) (d : Int) : St := ⟨S.vals, S.full, S.wide ++ [d]⟩
def St.add (S : St) (d : Int) : St := if d ≤ 4294967295 then S.addN d else S.addW d
def St.none : St := ⟨[], 0, []⟩
/-- Did 'zzAddB1' move on to a next chunk? -/
def St.moved (S : St) (d : Int) : Bool := decide (d ≤ 4294967295) && S.fullB

/-- How many narrow ones. -/
def St.nlen (S : St) : Nat := inF S.vals S.full + (S.vals.getD S.full []).length

theorem getD_set_self (vals : List (List Int)) (i : Nat) (x : List Int) (h : i < vals.length) : (vals.set i x).getD i [] = x := by
  simp [List.getD, h]
theorem getD_set_ne (vals : List (List Int)) (i k : Nat) (x : List Int) (h : k ≠ i) : (vals.set i x).getD k [] = vals.getD k [] := by
  simp [List.getD, List.getElem?_set_ne (Ne.symm h)]

section
variable {w : World} {base b : Nat} {vals : List (List Int)} {full : Nat} {wide : List Int} {blks : List Nat} {cv wv : Value} {cells : List Value}

theorem rec_push (h : Rec w base b vals full wide blks cv wv cells) (hne : vals ≠ []) (d : Int) {w2 w' : World}
    (hown : w2.ownsRow base 36 1 (chunkV blks full ((vals.getD full []).length + 1)) ((vals.getD full []).length + 1) ((vals.getD full []).map (Value.int .u32) ++ [.int .u32 d]))
    (hgrow : (w.alloc (.cells #[.int .u32 d] 36)).grownBy w2 (some (blks.getD full 0)))
    (hw : w'.heap = (w2.setCell ⟨b, 0, none⟩ (chunkV blks full ((vals.getD full []).length + 1))).heap)
    (h1 : w'.os = w2.os) (h2 : w'.tape = w2.tape) (h3 : w'.output = w2.output) :
    Rec w' base b (vals.set full (vals.getD full [] ++ [d])) full wide blks cv wv cells ∧ Step w w' (foot b blks cv wv) (foot b blks cv wv) := by
  obtain ⟨n1, n2, n3, n4, n5, n6⟩ := foot_nodup.1 h.nodup
  have hfl := h.fullLt hne
  have hblen := h.blen
  have hbl := h.b_lt
  have hm := getD_mem (blks := blks) (k := full) (by omega)
  have hbn : b ≠ blks.getD full 0 := by intro e; rw [← e] at hm; exact n1 hm
  have hf := h.foot_lt
  have old : ∀ k, k < w.heap.size → k ≠ blks.getD full 0 → w2.heap[k]? = w.heap[k]? := by
    intro k hk kn
    rw [hgrow.block k (by simp; omega) (by simp; exact kn), Below.heap_alloc _ _ _ hk]
  have oth : ∀ k, k ≠ b → w'.heap[k]? = w2.heap[k]? := by
    intro k kb
    rw [hw, heap_set_ne kb]
  have hb' : w'.heap[b]? = some (.cells #[chunkV blks full ((vals.getD full []).length + 1), cv, .int .i64 full, .int .i64 (inF vals full), wv, .slice none 0 0] 28 (0, 0)) := by
    rw [hw]
    have e := heap_set_at (i := 0) (v := chunkV blks full ((vals.getD full []).length + 1)) ((old b hbl hbn).trans h.hb)
    rw [e]
    simp
  have hwlt : ∀ x, wv.ownBlock = some x → x < w.heap.size := fun x hx => (owns_lt h.wOwn hx).2
  have hclt : ∀ x, cv.ownBlock = some x → x < w.heap.size := fun x hx => (owns_lt h.cOwn hx).2
  have hsz := hgrow.size
  have hnew := getD_set_self vals full (vals.getD full [] ++ [d]) hfl
  have hset : vals.set full (vals.getD full [] ++ [d]) ≠ [] := by
    intro e; have := congrArg List.length e; simp at this; exact hne this
  refine ⟨⟨?_, h.base_b, by simpa using hblen, ?_, ?_, ?_, ?_, fun _ => by simpa using hfl, fun e => absurd e hset, ?_, h.nodup, fun e => absurd e hset⟩, ⟨h1.trans hgrow.os, h2.trans hgrow.tape, h3.trans hgrow.output, ?_, ?_, fun k hk => .inl hk⟩⟩
  · rw [hb']
    have e1 : inF (vals.set full (vals.getD full [] ++ [d])) full = inF vals full := by
      unfold inF
      rw [List.take_set_of_le (Nat.le_refl _)]
    rw [e1]
    simp only [narV, hset, if_false, hnew, List.length_append, List.length_cons, List.length_nil]
  · rw [List.length_set]
    exact owns_keep h.cOwn fun x hx => (oth x (by rintro rfl; exact n2 hx)).trans (old x (hclt x hx) (by rintro rfl; exact (n5 _ hm).1 hx))
  · exact owns_keep h.wOwn fun x hx => (oth x (by rintro rfl; exact n3 hx)).trans (old x (hwlt x hx) (by rintro rfl; exact (n5 _ hm).2 hx))
  · intro k hk
    rw [List.length_set] at hk
    by_cases e : k = full
    · subst e
      rw [hnew]
      have := owns_keep (w' := w') hown fun x hx => oth x (by rw [chunk_block] at hx; cases hx; exact hbn.symm)
      simpa using this
    · rw [getD_set_ne _ _ _ _ e]
      refine owns_keep (h.chunk k hk) fun x hx => ?_
      rw [chunk_block] at hx
      cases hx
      have hmk := getD_mem (blks := blks) (k := k) (by omega)
      exact (oth _ (by intro q; rw [q] at hmk; exact n1 hmk)).trans (old _ (hf _ (by simp only [foot, List.mem_cons, List.mem_append]; exact .inr (.inl hmk))).2 (fun q => e (getD_inj n4 (by omega) (by omega) q)))
  · intro k hk
    rw [List.length_set] at hk
    obtain ⟨l, hl, hl2, hl3⟩ := h.cell k hk
    refine ⟨l, hl, hl2, fun e => ?_⟩
    rw [getD_set_ne _ _ _ _ e]
    exact hl3 e
  · intro k hk
    rw [getD_set_ne _ _ _ _ (by omega)]
    exact h.after k hk
  · rw [hw]
    simp at hsz ⊢
    omega
  · intro k hk hn
    have kb : k ≠ b := by rintro rfl; exact hn (by simp [foot])
    exact (oth k kb).trans (old k hk (by rintro rfl; exact hn (by simp only [foot, List.mem_cons, List.mem_append]; exact .inr (.inl hm))))

theorem rec_wide (h : Rec w base b vals full wide blks cv wv cells) (d : Int) {w2 w' : World} {g cap : Nat}
    (hown : w2.ownsRow base 2 1 (.slice (some ⟨g, 0, none⟩) (wide.length + 1) cap) (wide.length + 1) (wide.map (Value.int .i64) ++ [.int .i64 d]))
    (hgrow : (w.alloc (.cells #[.int .i64 d] 2)).grownBy w2 wv.ownBlock) (hg : wv.ownBlock = some g ∨ g = w.heap.size + 1)
    (hw : w'.heap = (w2.setCell ⟨b, 4, none⟩ (.slice (some ⟨g, 0, none⟩) (wide.length + 1) cap)).heap)
    (h1 : w'.os = w2.os) (h2 : w'.tape = w2.tape) (h3 : w'.output = w2.output) :
    Rec w' base b vals full (wide ++ [d]) blks cv (.slice (some ⟨g, 0, none⟩) (wide.length + 1) cap) cells ∧ Step w w' (foot b blks cv wv) (foot b blks cv (.slice (some ⟨g, 0, none⟩) (wide.length + 1) cap)) := by
  obtain ⟨n1, n2, n3, n4, n5, n6⟩ := foot_nodup.1 h.nodup
  have hbl := h.b_lt
  have hf := h.foot_lt
  have hblen := h.blen
  have old : ∀ k, k < w.heap.size → wv.ownBlock ≠ some k → w2.heap[k]? = w.heap[k]? := by
    intro k hk kn
    rw [hgrow.block k (by simp; omega) (Ne.symm kn), Below.heap_alloc _ _ _ hk]
  have oth : ∀ k, k ≠ b → w'.heap[k]? = w2.heap[k]? := by
    intro k kb
    rw [hw, heap_set_ne kb]
  have hb' : w'.heap[b]? = some (.cells #[narV blks vals full, cv, .int .i64 full, .int .i64 (inF vals full), .slice (some ⟨g, 0, none⟩) (wide.length + 1) cap, .slice none 0 0] 28 (0, 0)) := by
    rw [hw]
    have e := heap_set_at (i := 4) (v := .slice (some ⟨g, 0, none⟩) (wide.length + 1) cap) ((old b hbl n3).trans h.hb)
    rw [e]
    simp
  have hclt : ∀ x, cv.ownBlock = some x → x < w.heap.size := fun x hx => (owns_lt h.cOwn hx).2
  have hblt : ∀ x, x ∈ blks → x < w.heap.size := fun x hx => (hf x (by simp only [foot, List.mem_cons, List.mem_append]; exact .inr (.inl hx))).2
  have hgb : g ≠ b := by
    rintro rfl
    rcases hg with e | e
    · exact n3 e
    · omega
  have hsz := hgrow.size
  refine ⟨⟨hb', h.base_b, h.blen, ?_, ?_, ?_, h.cell, h.fullLt, h.full0, h.after, ?_, h.cnil⟩, ⟨h1.trans hgrow.os, h2.trans hgrow.tape, h3.trans hgrow.output, ?_, ?_, ?_⟩⟩
  · exact owns_keep h.cOwn fun x hx => (oth x (by rintro rfl; exact n2 hx)).trans (old x (hclt x hx) (n6 x hx))
  · have := owns_keep (w' := w') hown fun x hx => oth x (by cases hx; exact hgb)
    simpa using this
  · intro k hk
    refine owns_keep (h.chunk k hk) fun x hx => ?_
    rw [chunk_block] at hx
    cases hx
    have hmk := getD_mem (blks := blks) (k := k) (by omega)
    exact (oth _ (by intro q; rw [q] at hmk; exact n1 hmk)).trans (old _ (hblt _ hmk) (n5 _ hmk).2)
  · refine foot_nodup.2 ⟨n1, n2, by rw [own_slice]; simpa using hgb, n4, fun k hk => ⟨(n5 k hk).1, ?_⟩, fun x hx => ?_⟩
    · rw [own_slice]
      intro e
      cases e
      rcases hg with e | e
      · exact (n5 _ hk).2 e
      · have := hblt _ hk; omega
    · rw [own_slice]
      intro e
      cases e
      rcases hg with e | e
      · exact n6 _ hx e
      · have := hclt _ hx; omega
  · rw [hw]
    simp at hsz ⊢
    omega
  · intro k hk hn
    have kb : k ≠ b := by rintro rfl; exact hn (by simp [foot])
    exact (oth k kb).trans (old k hk (fun e => hn (by simp only [foot, List.mem_cons, List.mem_append, Option.mem_toList]; exact .inr (.inr (.inr e)))))
  · intro k hk
    simp only [foot, List.mem_cons, List.mem_append, Option.mem_toList, own_slice, Option.some.injEq] at hk ⊢
    rcases hk with e | e | e | e
    · exact .inl (.inl e)
    · exact .inl (.inr (.inl e))
    · exact .inl (.inr (.inr (.inl e)))
    · subst e
      rcases hg with e | e
      · exact .inl (.inr (.inr (.inr e)))
      · exact .inr (by omega)
end

theorem add_narrow {w : World} {base b : Nat} {S : St} {F : List Nat} (hr : RecS w base b S F) (d : Int) (hd0 : 0 ≤ d) (hd1 : d ≤ 4294967295) (hn : S.vals.length ≤ 1000000) (ht : S.vals.flatten.length ≤ 1000000) :
    Calls Try.prog 10 #[.pointer (some ⟨b, 0, none⟩), .int .i64 d] w fun e w' => e = .returned (.bool S.fullB) ∧ ∃ F', RecS w' base b (S.addN d) F' ∧ Step w w' F F' := by
  obtain ⟨vals, full, wide⟩ := S
  simp only [RecS] at *
  by_cases hfb : St.fullB ⟨vals, full, wide⟩ = true
  · have hx := hr
    obtain ⟨blks, cv, wv, cells, h, rfl⟩ := hx
    have hnar : ∃ na n, narV blks vals full = .slice na n n := by
      simp only [St.fullB, Bool.or_eq_true, List.isEmpty_iff, beq_iff_eq] at hfb
      rcases hfb with e | e
      · exact ⟨none, 0, by simp [narV, e]⟩
      · by_cases e2 : vals = []
        · exact ⟨none, 0, by simp [narV, e2]⟩
        · exact ⟨some ⟨blks.getD full 0, 0, none⟩, capOf full, by simp only [narV, e2, if_false, chunkV, e]⟩
    obtain ⟨na, n, hna⟩ := hnar
    have h0 := h.field 0 _ rfl
    rw [hna] at h0
    have hnv : nextVals vals full ≠ [] := by
      unfold nextVals
      split
      · simp
      · rintro rfl
        simp at *
    have hn0 : (nextVals vals full).getD (nextFull vals full) [] = [] := by
      unfold nextVals nextFull
      by_cases e : vals = []
      · subst e
        simp [h.full0 rfl]
      · have hfl := h.fullLt e
        rw [if_neg e]
        split
        · simp [List.getD, show full + 1 = vals.length by omega]
        · exact h.after (full + 1) (by omega)
    refine (add_full base b n na d w hd0 hd1 h0 (fun w1 => ∃ F', RecE w1 base b (nextVals vals full) (nextFull vals full) wide F' ∧ Step w w1 (foot b blks cv wv) F') (next22 hr hn ht) ?_).mono ?_
    · rintro w1 ⟨F', ⟨blks1, cv1, wv1, cells1, q, rfl⟩, st⟩
      obtain ⟨n1, n2, n3, n4, n5, n6⟩ := foot_nodup.1 q.nodup
      have hfl := q.fullLt hnv
      have hm := getD_mem (blks := blks1) (k := nextFull vals full) (by have := q.blen; omega)
      have k0 := q.field 0 _ rfl
      have hc := q.chunk _ hfl
      simp only [narV, hnv, if_false] at k0
      refine ⟨blks1.getD (nextFull vals full) 0, _, _, _, q.b_lt, ?_, ?_, k0, q.free 0, hc⟩
      · intro e; rw [← e] at hm; exact n1 hm
      · rw [hn0]; have := capOf_lo (nextFull vals full); simp only [List.length_nil]; omega
    · rintro e w' ⟨rfl, w1, nb, nl, nc, xs, w2, ⟨F', ⟨blks1, cv1, wv1, cells1, q, rfl⟩, st⟩, k0, hown1, hown2, hgrow, hw, h1, h2, h3⟩
      have k0' := q.field 0 _ rfl
      simp only [narV, hnv, if_false] at k0'
      have hfl := q.fullLt hnv
      have hc := q.chunk _ hfl
      rw [k0'] at k0
      simp only [chunkV, Option.some.injEq, Value.slice.injEq, Addr.mk.injEq, and_true] at k0
      obtain ⟨rfl, rfl, rfl⟩ := k0
      obtain ⟨_, _, _, _, _, cur, hg1, _, ht1⟩ := owns_some hown1
      obtain ⟨_, _, _, _, _, cur', hg2, _, ht2⟩ := owns_some hc
      rw [hg1] at hg2
      cases hg2
      rw [ht1] at ht2
      subst ht2
      obtain ⟨r1, r2⟩ := rec_push q hnv d hown2 hgrow hw h1 h2 h3
      rw [hfb]
      refine ⟨rfl, _, ?_, st.trans r2⟩
      simp only [St.addN, hfb, if_true, St.push, St.next]
      exact ⟨_, _, _, _, r1, rfl⟩
  · have hfb' : St.fullB ⟨vals, full, wide⟩ = false := by simpa using hfb
    obtain ⟨blks, cv, wv, cells, h, rfl⟩ := hr
    have hfb2 := hfb'
    simp only [St.fullB, Bool.or_eq_false_iff, beq_eq_false_iff_ne] at hfb2
    have hne : vals ≠ [] := by
      rintro rfl
      simp at hfb2
    obtain ⟨n1, n2, n3, n4, n5, n6⟩ := foot_nodup.1 h.nodup
    have hfl := h.fullLt hne
    have hm := getD_mem (blks := blks) (k := full) (by have := h.blen; omega)
    have k0 := h.field 0 _ rfl
    have hc := h.chunk _ hfl
    have hle := (owns_some hc).2.2.1
    simp only [narV, hne, if_false] at k0
    refine (add_room base b (blks.getD full 0) _ _ d w _ hd0 hd1 h.b_lt (by intro e; rw [← e] at hm; exact n1 hm) (by have := hfb2.2; omega) k0 (h.free 0) hc).mono ?_
    rintro e w' ⟨rfl, w2, hown2, hgrow, hw, h1, h2, h3⟩
    obtain ⟨r1, r2⟩ := rec_push h hne d hown2 hgrow hw h1 h2 h3
    rw [hfb']
    refine ⟨rfl, _, ?_, r2⟩
    simp only [St.addN, hfb', if_false, St.push, St.next]
    exact ⟨_, _, _, _, r1, rfl⟩

theorem add_wideS {w : World} {base b : Nat} {S : St} {F : List Nat} (hr : RecS w base b S F) (d : Int) (hd1 : 4294967295 < d) (hn : S.wide.length ≤ 1000000) :
    Calls Try.prog 10 #[.pointer (some ⟨b, 0, none⟩), .int .i64 d] w fun e w' => e = .returned (.bool false) ∧ ∃ F', RecS w' base b (S.addW d) F' ∧ Step w w' F F' := by
  obtain ⟨vals, full, wide⟩ := S
  obtain ⟨blks, cv, wv, cells, h, rfl⟩ := hr
  obtain ⟨n1, n2, n3, n4, n5, n6⟩ := foot_nodup.1 h.nodup
  have k0 := h.field 4 _ rfl
  have hbl := h.b_lt
  have hbb := h.base_b
  simp only at hn h
  obtain ⟨a0, c, rfl⟩ : ∃ a0 c, wv = .slice a0 wide.length c := by
    rcases owns_form h.wOwn with ⟨e, e2, _⟩ | ⟨g, cap, e, _⟩
    · exact ⟨none, 0, by rw [e, e2]⟩
    · exact ⟨_, _, e⟩
  refine (add_wide base b _ c a0 d w _ hd1 hbl (by omega) n3 hn k0 (h.free 4) h.wOwn).mono ?_
  rintro e w' ⟨rfl, g, cap, w2, a1, a2, a3, a4, a5, a6, a7⟩
  obtain ⟨r1, r2⟩ := rec_wide h d a1 a2 a3 a4 a5 a6 a7
  exact ⟨rfl, _, ⟨_, _, _, _, r1, rfl⟩, r2⟩

/-- 'zzAddB1' at every singleton from 0 on. -/
theorem add_any {w : World} {base b : Nat} {S : St} {F : List Nat} (hr : RecS w base b S F) (d : Int) (hd0 : 0 ≤ d) (hn : S.vals.length ≤ 1000000) (ht : S.vals.flatten.length ≤ 1000000) (hw : S.wide.length ≤ 1000000) :
    Calls Try.prog 10 #[.pointer (some ⟨b, 0, none⟩), .int .i64 d] w fun e w' => e = .returned (.bool (S.moved d)) ∧ ∃ F', RecS w' base b (S.add d) F' ∧ Step w w' F F' := by
  by_cases h : d ≤ 4294967295
  · have e1 : S.moved d = S.fullB := by simp [St.moved, h]
    have e2 : S.add d = S.addN d := by simp [St.add, h]
    rw [e1, e2]
    exact add_narrow hr d hd0 h hn ht
  · have e1 : S.moved d = false := by simp [St.moved, h]
    have e2 : S.add d = S.addW d := by simp [St.add, h]
    rw [e1, e2]
    exact add_wideS hr d (by omega) hw

end Go.Proofs.Qxb6600929a
