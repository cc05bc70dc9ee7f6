/- What reads the record: its fields, 'narrowLen', 'len', 'narrowChunks'. -/
import Derived.Test.Qxb6600929aAddRec
import Derived.Deep.QuietTactic
namespace Go.Proofs.Qxb6600929a
open Go.RowKit
set_option linter.unusedSimpArgs false
set_option linter.unusedVariables false

/-- The world but for the count of draws. -/
def Same (w w' : World) : Prop := w'.heap = w.heap ∧ w'.os = w.os ∧ w'.tape = w.tape ∧ w'.output = w.output
theorem Same.refl (w : World) : Same w w := ⟨rfl, rfl, rfl, rfl⟩
theorem Same.trans {a b c : World} (h : Same a b) (k : Same b c) : Same a c := ⟨k.1.trans h.1, k.2.1.trans h.2.1, k.2.2.1.trans h.2.2.1, k.2.2.2.trans h.2.2.2⟩
theorem Same.step {w w' : World} (h : Same w w') (F : List Nat) : Step w w' F F := ⟨h.2.1, h.2.2.1, h.2.2.2, by rw [h.1]; exact Nat.le_refl _, fun _ _ _ => by rw [h.1], fun _ k => .inl k⟩
theorem Same.cell {w w' : World} (h : Same w w') (a : Addr) : w'.cell? a = w.cell? a := by simp [World.cell?, h.1]
theorem Same.below {w w' : World} (h : Same w w') (B : Nat) : Below B w w' := ⟨h.2.1, h.2.2.1, h.2.2.2, by rw [h.1]; exact Nat.le_refl _, fun _ _ => by rw [h.1]⟩

theorem owns_heap {w w' : World} {base : Nat} {e : TypeId} {size : Nat} {v : Value} {n : Nat} {xs : List Value} (hh : w'.heap = w.heap) (h : w.ownsRow base e size v n xs) : w'.ownsRow base e size v n xs :=
  owns_keep h fun _ _ => by rw [hh]

/-- The record stands in every world that agrees on its blocks. -/
theorem Rec.keep {w w' : World} {base b : Nat} {vals : List (List Int)} {full : Nat} {wide : List Int} {blks : List Nat} {cv wv : Value} {cells : List Value} (h : Rec w base b vals full wide blks cv wv cells)
    (hk : ∀ k, k ∈ foot b blks cv wv → w'.heap[k]? = w.heap[k]?) : Rec w' base b vals full wide blks cv wv cells := by
  refine ⟨(hk b (by simp [foot])).trans h.hb, h.base_b, h.blen, owns_keep h.cOwn fun g hg => hk g ?_, owns_keep h.wOwn fun g hg => hk g ?_, fun k hlt => owns_keep (h.chunk k hlt) fun g hg => hk g ?_, h.cell, h.fullLt, h.full0, h.after, h.nodup, h.cnil⟩
  · simp only [foot, List.mem_cons, List.mem_append, Option.mem_toList]; exact .inr (.inr (.inl hg))
  · simp only [foot, List.mem_cons, List.mem_append, Option.mem_toList]; exact .inr (.inr (.inr hg))
  · rw [chunk_block] at hg
    cases hg
    simp only [foot, List.mem_cons, List.mem_append]
    exact .inr (.inl (getD_mem (by have := h.blen; omega)))

theorem RecS.keep {w w' : World} {base b : Nat} {S : St} {F : List Nat} (h : RecS w base b S F) (hk : ∀ k, k ∈ F → w'.heap[k]? = w.heap[k]?) : RecS w' base b S F := by
  obtain ⟨blks, cv, wv, cells, r, rfl⟩ := h
  exact ⟨blks, cv, wv, cells, r.keep hk, rfl⟩
theorem RecS.same {w w' : World} {base b : Nat} {S : St} {F : List Nat} (h : RecS w base b S F) (hs : Same w w') : RecS w' base b S F := h.keep fun _ _ => by rw [hs.1]
theorem RecS.foot_lt {w : World} {base b : Nat} {S : St} {F : List Nat} (h : RecS w base b S F) : ∀ k, k ∈ F → base ≤ k ∧ k < w.heap.size := by
  obtain ⟨blks, cv, wv, cells, r, rfl⟩ := h
  exact r.foot_lt
/-- Another record's step leaves this one as it is. -/
theorem RecS.apart {w w' : World} {base b : Nat} {S : St} {F G G' : List Nat} (h : RecS w base b S F) (st : Step w w' G G') (hd : ∀ k, k ∈ F → k ∉ G) : RecS w' base b S F :=
  h.keep fun k hk => st.block k (h.foot_lt k hk).2 (hd k hk)

/-- The fields as the walk reads them. -/
theorem RecS.cells {w : World} {base b : Nat} {S : St} {F : List Nat} (h : RecS w base b S F) : ∃ na nc ca cc wa wc, w.cell? ⟨b, 0, none⟩ = some (.slice na (S.vals.getD S.full []).length nc) ∧ w.cell? ⟨b, 1, none⟩ = some (.slice ca S.vals.length cc) ∧
    w.cell? ⟨b, 2, none⟩ = some (.int .i64 S.full) ∧ w.cell? ⟨b, 3, none⟩ = some (.int .i64 (inF S.vals S.full)) ∧ w.cell? ⟨b, 4, none⟩ = some (.slice wa S.wide.length wc) := by
  obtain ⟨blks, cv, wv, cells, r, rfl⟩ := h
  have e0 : ∃ na nc, narV blks S.vals S.full = .slice na (S.vals.getD S.full []).length nc := by
    by_cases hv : S.vals = []
    · exact ⟨none, 0, by simp [narV, hv]⟩
    · exact ⟨_, _, by simp only [narV, hv, if_false, chunkV]; rfl⟩
  have e1 : ∃ ca cc, cv = .slice ca S.vals.length cc := by
    rcases owns_form r.cOwn with ⟨e, e2, _⟩ | ⟨g, cap, e, _⟩
    · exact ⟨none, 0, by rw [e, e2]⟩
    · exact ⟨_, _, e⟩
  have e2 : ∃ wa wc, wv = .slice wa S.wide.length wc := by
    rcases owns_form r.wOwn with ⟨e, e2, _⟩ | ⟨g, cap, e, _⟩
    · exact ⟨none, 0, by rw [e, e2]⟩
    · exact ⟨_, _, e⟩
  obtain ⟨na, nc, e0⟩ := e0
  obtain ⟨ca, cc, e1⟩ := e1
  obtain ⟨wa, wc, e2⟩ := e2
  exact ⟨na, nc, ca, cc, wa, wc, (r.field 0 _ rfl).trans (congrArg some e0), (r.field 1 _ rfl).trans (congrArg some e1), r.field 2 _ rfl, r.field 3 _ rfl, (r.field 4 _ rfl).trans (congrArg some e2)⟩

set_option maxHeartbeats 400000 in
theorem count_any {w : World} {base b : Nat} {S : St} {F : List Nat} (h : RecS w base b S F) :
    Calls Try.prog 18 #[.pointer (some ⟨b, 0, none⟩)] w fun e w' => e = .returned (.int .i64 S.vals.length) ∧ w = w' := by
  obtain ⟨na, nc, ca, cc, wa, wc, _, h1, _⟩ := h.cells
  clear h
  go_enter Try.func18, Try.ntmps18
  go_wp2
  go_ret
  exact ⟨rfl, rfl⟩
set_option maxHeartbeats 400000 in
theorem full_any {w : World} {base b : Nat} {S : St} {F : List Nat} (h : RecS w base b S F) :
    Calls Try.prog 19 #[.pointer (some ⟨b, 0, none⟩)] w fun e w' => e = .returned (.int .i64 S.full) ∧ w = w' := by
  obtain ⟨na, nc, ca, cc, wa, wc, _, _, h1, _⟩ := h.cells
  clear h
  go_enter Try.func19, Try.ntmps19
  go_wp2
  go_ret
  exact ⟨rfl, rfl⟩
set_option maxHeartbeats 400000 in
theorem inFull_any {w : World} {base b : Nat} {S : St} {F : List Nat} (h : RecS w base b S F) :
    Calls Try.prog 20 #[.pointer (some ⟨b, 0, none⟩)] w fun e w' => e = .returned (.int .i64 (inF S.vals S.full)) ∧ w = w' := by
  obtain ⟨na, nc, ca, cc, wa, wc, _, _, _, h1, _⟩ := h.cells
  clear h
  go_enter Try.func20, Try.ntmps20
  go_wp2
  go_ret
  exact ⟨rfl, rfl⟩

set_option maxHeartbeats 400000 in
theorem nlen_low (b m n : Nat) (na : Option Addr) (nc : Nat) (w : World) (hm : m ≤ 1000000) (hn : n ≤ 1000000) (h0 : w.cell? ⟨b, 0, none⟩ = some (.slice na n nc)) (h3 : w.cell? ⟨b, 3, none⟩ = some (.int .i64 m)) :
    Calls Try.prog 35 #[.pointer (some ⟨b, 0, none⟩)] w fun e w' => e = .returned (.int .i64 ((m : Int) + (n : Int))) ∧ ∃ k, w' = w.drewN k := by
  go_enter Try.func35, Try.ntmps35
  go_wp2
  go_quiet (fail)
  go_wp2
  go_ret
  exact ⟨rfl, _, rfl⟩

set_option maxHeartbeats 400000 in
theorem len_low (b m n x : Nat) (na : Option Addr) (nc : Nat) (wa : Option Addr) (wc : Nat) (w : World) (hm : m ≤ 1000000) (hn : n ≤ 1000000) (hx : x ≤ 1000000) (h0 : w.cell? ⟨b, 0, none⟩ = some (.slice na n nc)) (h3 : w.cell? ⟨b, 3, none⟩ = some (.int .i64 m)) (h4 : w.cell? ⟨b, 4, none⟩ = some (.slice wa x wc)) :
    Calls Try.prog 34 #[.pointer (some ⟨b, 0, none⟩)] w fun e w' => e = .returned (.int .i64 ((m : Int) + (n : Int) + (x : Int))) ∧ ∃ k, w' = w.drewN k := by
  have nq : ∀ k, Calls Try.prog 35 #[.pointer (some ⟨b, 0, none⟩)] (w.drewN k) fun e w' => e = .returned (.int .i64 ((m : Int) + (n : Int))) ∧ ∃ j, w' = w.drewN j :=
    fun k => Calls.quiet_of (nlen_low b m n na nc (w.drewN k) hm hn h0 h3)
  have NQ := hide nq
  clear nq
  go_enter Try.func34, Try.ntmps34
  go_wp2_with fail
  go_quiet ((go_at_call 35; exact unhide NQ _))
  go_wp2
  go_ret
  exact ⟨rfl, _, rfl⟩

theorem ret_int {k : IntKind} {a b : Int} (h : a = b) : Ending.returned (.int k a) = .returned (.int k b) := by rw [h]
theorem same_drewN (w : World) (k : Nat) : Same w (w.drewN k) := ⟨rfl, rfl, rfl, rfl⟩

set_option maxHeartbeats 400000 in
theorem nlen_any {w : World} {base b : Nat} {S : St} {F : List Nat} (h : RecS w base b S F) (hb : S.nlen ≤ 1000000) :
    Calls Try.prog 14 #[.pointer (some ⟨b, 0, none⟩)] w fun e w' => e = .returned (.int .i64 S.nlen) ∧ Same w w' := by
  obtain ⟨na, nc, ca, cc, wa, wc, h0, h1, h2, h3, h4⟩ := h.cells
  unfold St.nlen at hb
  have H := hide (nlen_low b (inF S.vals S.full) (S.vals.getD S.full []).length na nc w (by omega) (by omega) h0 h3)
  clear h h0 h1 h2 h3 h4
  go_enter Try.func14, Try.ntmps14
  go_wp2_with (go_at_call 35; refine (unhide H).mono ?_; rintro e w' ⟨rfl, k, rfl⟩)
  go_ret
  exact ⟨ret_int (by simp [St.nlen]), same_drewN w k⟩

set_option maxHeartbeats 400000 in
theorem len_any {w : World} {base b : Nat} {S : St} {F : List Nat} (h : RecS w base b S F) (hb : S.nlen ≤ 1000000) (hw : S.wide.length ≤ 1000000) :
    Calls Try.prog 13 #[.pointer (some ⟨b, 0, none⟩)] w fun e w' => e = .returned (.int .i64 (S.nlen + S.wide.length : Nat)) ∧ Same w w' := by
  obtain ⟨na, nc, ca, cc, wa, wc, h0, h1, h2, h3, h4⟩ := h.cells
  unfold St.nlen at hb
  have H := hide (len_low b (inF S.vals S.full) (S.vals.getD S.full []).length S.wide.length na nc wa wc w (by omega) (by omega) hw h0 h3 h4)
  clear h h0 h1 h2 h3 h4
  go_enter Try.func13, Try.ntmps13
  go_wp2_with (go_at_call 34; refine (unhide H).mono ?_; rintro e w' ⟨rfl, k, rfl⟩)
  go_ret
  exact ⟨ret_int (by simp [St.nlen]), same_drewN w k⟩

theorem map_getD (f : Int → Value) (l : List Int) (j : Nat) (h : j < l.length) : (l.map f)[j]? = some (f (l.getD j 0)) := by
  simp [List.getD, h]

/-! ### 'narrowChunks' -/
set_option maxHeartbeats 400000 in
theorem view_nil (b : Nat) (w : World) (h1 : w.cell? ⟨b, 1, none⟩ = some (.slice none 0 0)) :
    Calls Try.prog 36 #[.pointer (some ⟨b, 0, none⟩)] w fun e w' => e = .returned (.slice none 0 0) ∧ w = w' := by
  go_enter Try.func36, Try.ntmps36
  go_wp2
  go_ret
  exact ⟨rfl, rfl⟩

set_option maxHeartbeats 1000000 in
theorem view_low (b cb nb nl nc len cap full : Nat) (w : World) (v1 : Value) (hbc : b ≠ cb) (hfl : full < len) (hcap : len ≤ cap) (hlen : len ≤ 10000000) (hcm : cap ≤ 9223372036854775807)
   (h0 : w.cell? ⟨b, 0, none⟩ = some (.slice (some ⟨nb, 0, none⟩) nl nc)) (h1 : w.cell? ⟨b, 1, none⟩ = some (.slice (some ⟨cb, 0, none⟩) len cap))
   (h2 : w.cell? ⟨b, 2, none⟩ = some (.int .i64 full))
   (hc : w.cell? ⟨cb, full, none⟩ = some v1) (fc : w.frozen? ⟨cb, full, none⟩ = false) :
    Calls Try.prog 36 #[.pointer (some ⟨b, 0, none⟩)] w fun e w' => e = .returned (.slice (some ⟨cb, 0, none⟩) (full + 1) cap) ∧
      w'.heap = (w.setCell ⟨cb, full, none⟩ (.slice (some ⟨nb, 0, none⟩) nl nc)).heap ∧ w'.os = w.os ∧ w'.tape = w.tape ∧ w'.output = w.output := by
  go_enter Try.func36, Try.ntmps36
  go_wp2
  go_region
  go_wp2
  go_region
  go_wp2
  go_ret
  exact ⟨rfl, rfl, rfl, rfl, rfl⟩

/-- The chunks as 'narrowChunks' hands them out: a slice over the record's own array. -/
def View (w : World) (v : Value) (S : St) (F : List Nat) : Prop :=
  (S.vals = [] ∧ v = .slice none 0 0) ∨
  (S.vals ≠ [] ∧ S.full < S.vals.length ∧ ∃ (cb cap : Nat) (blks : List Nat), v = .slice (some ⟨cb, 0, none⟩) (S.full + 1) cap ∧ S.full + 1 ≤ cap ∧ cap ≤ maxLen ∧ cb ∈ F ∧ cb < w.heap.size ∧
    (∀ k, k ≤ S.full → w.cell? ⟨cb, k, none⟩ = some (chunkV blks k (S.vals.getD k []).length)) ∧
    (∀ k, k ≤ S.full → blks.getD k 0 ∈ F ∧ blks.getD k 0 < w.heap.size) ∧
    (∀ k, k ≤ S.full → (S.vals.getD k []).length ≤ capOf k) ∧
    ∀ k, k ≤ S.full → ∀ j, j < (S.vals.getD k []).length → w.cell? ⟨blks.getD k 0, j, none⟩ = some (.int .u32 ((S.vals.getD k []).getD j 0)))

theorem View.keep {w w' : World} {v : Value} {S : St} {F : List Nat} (h : View w v S F) (hsz : w.heap.size ≤ w'.heap.size) (hk : ∀ k, k ∈ F → k < w.heap.size → w'.heap[k]? = w.heap[k]?) : View w' v S F := by
  rcases h with h | ⟨h1, h1', cb, cap, blks, h2, h3, h4, h5, h6, h7, h8, h9, h10⟩
  · exact .inl h
  · refine .inr ⟨h1, h1', cb, cap, blks, h2, h3, h4, h5, by omega, fun k hk' => ?_, fun k hk' => ⟨(h8 k hk').1, by have := (h8 k hk').2; omega⟩, h9, fun k hk' j hj => ?_⟩
    · exact (World.cell?_of_block (hk cb h5 h6)).trans (h7 k hk')
    · exact (World.cell?_of_block (hk _ (h8 k hk').1 (h8 k hk').2)).trans (h10 k hk' j hj)
theorem View.same {w w' : World} {v : Value} {S : St} {F : List Nat} (h : View w v S F) (hs : Same w w') : View w' v S F := h.keep (by rw [hs.1]; exact Nat.le_refl _) fun _ _ _ => by rw [hs.1]

theorem view_any {w : World} {base b : Nat} {S : St} {F : List Nat} (h : RecS w base b S F) (hn : S.vals.length ≤ 1000000) :
    Calls Try.prog 36 #[.pointer (some ⟨b, 0, none⟩)] w fun e w' => ∃ v, e = .returned v ∧ RecS w' base b S F ∧ Step w w' F F ∧ View w' v S F := by
  obtain ⟨vals, full, wide⟩ := S
  have h' := h
  obtain ⟨blks, cv, wv, cells, r, rfl⟩ := h
  simp only at hn r
  by_cases hv : vals = []
  · subst hv
    have hcv := r.cnil rfl
    subst hcv
    refine (view_nil b w (r.field 1 _ rfl)).mono ?_
    rintro e w' ⟨rfl, rfl⟩
    exact ⟨_, rfl, h', Step.refl _ _, .inl ⟨rfl, rfl⟩⟩
  · have hfl := r.fullLt hv
    obtain ⟨n1, n2, n3, n4, n5, n6⟩ := foot_nodup.1 r.nodup
    rcases owns_form r.cOwn with ⟨_, e, _⟩ | ⟨cb, cap, hcv, hcl, hcm, hcb, hcbl⟩
    · exact absurd (List.eq_nil_of_length_eq_zero e) hv
    subst hcv
    have hbc : b ≠ cb := by rintro rfl; exact n2 rfl
    have hnv : narV blks vals full = chunkV blks full (vals.getD full []).length := by simp only [narV, hv, if_false]
    have h0 := r.field 0 _ rfl
    rw [hnv] at h0
    obtain ⟨l, hl, hl2, hl3⟩ := r.cell full hfl
    have hcm' : cap ≤ 9223372036854775807 := by unfold maxLen at hcm; exact hcm
    refine (view_low b cb _ _ _ _ _ full w _ hbc hfl hcl (by omega) hcm' h0 (r.field 1 _ rfl) (r.field 2 _ rfl) (owns_cell r.cOwn hl) (owns_frozen r.cOwn full)).mono ?_
    rintro e w' ⟨rfl, hw, a1, a2, a3⟩
    have oth : ∀ k, k ≠ cb → w'.heap[k]? = w.heap[k]? := fun k kc => by rw [hw, heap_set_ne kc]
    have hsz : w'.heap.size = w.heap.size := by rw [hw]; simp
    have hmem : cb ∈ foot b blks (Value.slice (some ⟨cb, 0, none⟩) vals.length cap) wv := by
      simp only [foot, List.mem_cons, List.mem_append, Option.mem_toList]
      exact .inr (.inr (.inl rfl))
    have hbm : ∀ k, k < vals.length → blks.getD k 0 ∈ foot b blks (Value.slice (some ⟨cb, 0, none⟩) vals.length cap) wv := fun k hk => by
      simp only [foot, List.mem_cons, List.mem_append, Option.mem_toList]
      exact .inr (.inl (getD_mem (by have := r.blen; omega)))
    have hbne : ∀ k, k < vals.length → blks.getD k 0 ≠ cb := fun k hk e => (n5 _ (getD_mem (k := k) (by have := r.blen; omega))).1 (by rw [e]; rfl)
    have r' : Rec w' base b vals full wide blks (Value.slice (some ⟨cb, 0, none⟩) vals.length cap) wv (cells.set full (chunkV blks full (vals.getD full []).length)) := by
      refine ⟨(oth b hbc).trans r.hb, r.base_b, r.blen, ?_, ?_, ?_, ?_, r.fullLt, r.full0, r.after, r.nodup, r.cnil⟩
      · refine owns_set r.cOwn fun cs hcs => ?_
        rw [hw]
        exact heap_set_at hcs
      · exact owns_keep r.wOwn fun g hg => oth g (by rintro rfl; exact n6 _ rfl hg)
      · intro k hk
        refine owns_keep (r.chunk k hk) fun g hg => ?_
        rw [chunk_block] at hg
        cases hg
        exact oth _ (hbne k hk)
      · intro k hk
        by_cases e : k = full
        · subst e
          exact ⟨_, List.getElem?_set_self (by have := r.cells_len; omega), (owns_some (r.chunk k hk)).2.2.1, fun _ => rfl⟩
        · obtain ⟨l', e1, e2, e3⟩ := r.cell k hk
          exact ⟨l', by rw [List.getElem?_set_ne (by omega)]; exact e1, e2, e3⟩
    refine ⟨_, rfl, ⟨_, _, _, _, r', rfl⟩, ⟨a1, a2, a3, by omega, fun k _ hk => oth k (by rintro rfl; exact hk hmem), fun k hk => .inl hk⟩, .inr ⟨hv, hfl, cb, cap, blks, rfl, by simp only; omega, hcm, hmem, by omega, ?_, ?_, ?_, ?_⟩⟩
    · intro k hk
      simp only at hk ⊢
      obtain ⟨l', e1, e2, e3⟩ := r'.cell k (by omega)
      by_cases e : k = full
      · subst e
        exact owns_cell r'.cOwn (List.getElem?_set_self (by have := r.cells_len; omega))
      · rw [← e3 e]
        exact owns_cell r'.cOwn e1
    · intro k hk
      simp only at hk
      exact ⟨hbm k (by omega), by rw [hsz]; exact (r.foot_lt _ (hbm k (by omega))).2⟩
    · intro k hk
      simp only at hk ⊢
      exact (owns_some (r.chunk k (by omega))).2.2.1
    · intro k hk j hj
      simp only at hk hj ⊢
      exact owns_cell (r'.chunk k (by omega)) (map_getD _ _ _ hj)

set_option maxHeartbeats 400000 in
theorem view17 {w : World} {base b : Nat} {S : St} {F : List Nat} (h : RecS w base b S F) (hn : S.vals.length ≤ 1000000) :
    Calls Try.prog 17 #[.pointer (some ⟨b, 0, none⟩)] w fun e w' => ∃ v, e = .returned v ∧ RecS w' base b S F ∧ Step w w' F F ∧ View w' v S F := by
  have H := hide (view_any h hn)
  clear h
  go_enter Try.func17, Try.ntmps17
  go_wp2_with (go_at_call 36; refine (unhide H).mono ?_; rintro e w' ⟨v, rfl, h1, h2, h3⟩)
  go_ret
  exact ⟨v, rfl, h1, h2, h3⟩

end Go.Proofs.Qxb6600929a
