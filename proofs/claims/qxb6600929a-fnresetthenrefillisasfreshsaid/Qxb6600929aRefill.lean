/- The law FnResetThenRefillIsAsFresh: its contracts over two records. -/
import Derived.Test.Qxb6600929aTrack
import Derived.Deep.RegionWith
namespace Go.Proofs.Qxb6600929a
open Go.RowKit
set_option linter.unusedSimpArgs false
set_option linter.unusedVariables false

theorem refill_snoc (S : St) (ds : List Int) (k : Nat) (h : k < ds.length) : fillFrom S (ds.take (k + 1)) = (fillFrom S (ds.take k)).add (ds.getD k 0) := by
  rw [take_snoc ds k h]
  exact fillFrom_snoc _ _ _

theorem refill_round {wr : World} {base b : Nat} {S : St} {ds : List Int} {k : Nat} {F : List Nat} (h : RecS wr base b (fillFrom S.reset (ds.take k)) F) (hS : S.vals.length ≤ 1000000) (hlt : k < ds.length) (h0 : 0 ≤ ds.getD k 0) (hl : ds.length ≤ 262144) :
    Calls Try.prog 10 #[.pointer (some ⟨b, 0, none⟩), .int .i64 (ds.getD k 0)] wr fun e w' => e = .returned (.bool ((fillFrom S.reset (ds.take k)).moved (ds.getD k 0))) ∧ ∃ F', RecS w' base b ((fillFrom S.reset (ds.take k)).add (ds.getD k 0)) F' ∧ Step wr w' F F' := by
  obtain ⟨h1, h2, h3⟩ := track_bounds (track_fill S ds k (by omega)) hS (by omega) hl
  exact add_any h _ h0 h1 h2 h3

set_option maxHeartbeats 400000 in
theorem bytes23 (a0 a1 : Option Addr) (n0 c0 n1 c1 : Nat) (w : World) (h : n0 + n1 ≤ 1048576) :
    Calls Try.prog 23 #[.slice a0 n0 c0, .slice a1 n1 c1] w fun e w' => e = .returned (.bool true) ∧ w = w' := by
  go_enter Try.func23, Try.ntmps23
  go_wp2
  go_ret
  exact ⟨rfl, rfl⟩
set_option maxHeartbeats 400000 in
theorem bytes23_no (a0 a1 : Option Addr) (n0 c0 n1 c1 : Nat) (w : World) (h0 : n0 ≤ 9223372036854775807) (h1 : n1 ≤ 9223372036854775807) (h : 1048576 < n0 + n1) :
    Calls Try.prog 23 #[.slice a0 n0 c0, .slice a1 n1 c1] w fun e w' => e = .returned (.bool false) ∧ w = w' := by
  by_cases h2 : n0 ≤ 1048576
  · by_cases h3 : n1 ≤ 1048576
    · go_enter Try.func23, Try.ntmps23
      go_wp2
      go_ret
      exact ⟨rfl, rfl⟩
    · go_enter Try.func23, Try.ntmps23
      go_wp2
      go_ret
      exact ⟨rfl, rfl⟩
  · go_enter Try.func23, Try.ntmps23
    go_wp2
    go_ret
    exact ⟨rfl, rfl⟩
set_option maxRecDepth 20000 in
set_option maxHeartbeats 1000000 in
theorem walk6_long (a0 a1 : Option Addr) (n0 c0 n1 c1 : Nat) (w : World) (h0 : n0 ≤ maxLen) (h1 : n1 ≤ maxLen) (h : 65536 < n0 ∨ 65536 < n1) :
    Calls Try.prog 6 #[.slice a0 n0 c0, .slice a1 n1 c1] w fun e w' => e = .returned (.bool true) ∧ Below w.heap.size w w' := by
  unfold maxLen at h0 h1
  by_cases h2 : n0 + n1 ≤ 1048576
  · by_cases h3 : (n0 : Int) ≤ 65536
    · have h4 : (65536 : Int) < n1 := by omega
      clear h
      go_enter Try.func6, Try.ntmps6
      go_wp2_with (first | (go_at_call 23; refine (bytes23 _ _ _ _ _ _ _ (by omega)).mono ?_; rintro e w' ⟨rfl, rfl⟩))
      go_ret
      exact ⟨rfl, Below.refl _ _⟩
    · have h4 : (65536 : Int) < n0 := by omega
      clear h h3
      go_enter Try.func6, Try.ntmps6
      go_wp2_with (first | (go_at_call 23; refine (bytes23 _ _ _ _ _ _ _ (by omega)).mono ?_; rintro e w' ⟨rfl, rfl⟩))
      go_ret
      exact ⟨rfl, Below.refl _ _⟩
  · go_enter Try.func6, Try.ntmps6
    go_wp2_with (first | (go_at_call 23; refine (bytes23_no _ _ _ _ _ _ _ h0 h1 (by omega)).mono ?_; rintro e w' ⟨rfl, rfl⟩))
    go_ret
    exact ⟨rfl, Below.refl _ _⟩

set_option maxRecDepth 20000 in
set_option maxHeartbeats 1000000 in
theorem walk6_neg (a0 a1 : Option Addr) (c0 c1 : Nat) (d1 d2 : List Int) (w : World) (hr1 : InRow .i64 w a0 d1) (hr2 : InRow .i64 w a1 d2) (hl1 : d1.length ≤ 65536) (hl2 : d2.length ≤ 65536) (hn : hasNeg d1 = true ∨ hasNeg d2 = true) :
    Calls Try.prog 6 #[.slice a0 d1.length c0, .slice a1 d2.length c1] w fun e w' => e = .returned (.bool true) ∧ Below w.heap.size w w' := by
  have C1 := hide (neg9 a0 c0 d1 w hr1 (by omega))
  have C2 := hide (neg9 a1 c1 d2 w hr2 (by omega))
  obtain ⟨n0, hn0⟩ : ∃ n0, n0 = d1.length := ⟨_, rfl⟩
  obtain ⟨n1, hn1⟩ : ∃ n1, n1 = d2.length := ⟨_, rfl⟩
  rw [← hn0] at C1 hl1
  rw [← hn1] at C2 hl2
  rw [← hn0, ← hn1]
  have i1 : (n0 : Int) ≤ 65536 := by omega
  have i2 : (n1 : Int) ≤ 65536 := by omega
  have HS : Hid (n0 + n1 ≤ 1048576) := by show n0 + n1 ≤ 1048576; omega
  clear hn0 hn1 hr1 hr2 hl1 hl2
  cases h1 : hasNeg d1 with
  | true =>
    rw [h1] at C1
    clear hn h1 C2
    go_enter Try.func6, Try.ntmps6
    go_wp2_with (first | (go_at_call 23; refine (bytes23 _ _ _ _ _ _ _ (unhide HS)).mono ?_; rintro e w' ⟨rfl, rfl⟩) | (go_at_call 9; refine (unhide C1).mono ?_; rintro e w' ⟨rfl, rfl⟩))
    go_ret
    exact ⟨rfl, Below.refl _ _⟩
  | false =>
    have h2 : hasNeg d2 = true := by
      rcases hn with h | h
      · rw [h1] at h; cases h
      · exact h
    rw [h1] at C1
    rw [h2] at C2
    clear hn h1 h2
    go_enter Try.func6, Try.ntmps6
    go_wp2_with (first | (go_at_call 23; refine (bytes23 _ _ _ _ _ _ _ (unhide HS)).mono ?_; rintro e w' ⟨rfl, rfl⟩) | (go_at_call_of 9 (n0); refine (unhide C1).mono ?_; rintro e w' ⟨rfl, rfl⟩) | (go_at_call_of 9 (n1); refine (unhide C2).mono ?_; rintro e w' ⟨rfl, rfl⟩))
    go_ret
    exact ⟨rfl, Below.refl _ _⟩

/-! ### The contracts over the two records -/
section
variable {w0 : World} {B Bq : Nat} {P Q : St} {F G : List Nat} {made : Nat} {ds : List Int}

/-- All that the last part of the law asks. -/
structure Done (made : Nat) (P Q : St) (ds : List Int) : Prop where
  t : Track made P Q
  g : Greedy Q (narrows ds) (wides ds)
  pos : ∀ j, j < ds.length → 0 ≤ ds.getD j 0
  len : ds.length ≤ 262144
  made : made ≤ 1000000

theorem Done.range (h : Done made P Q ds) : ∀ x, x ∈ Q.vals.flatten → 0 ≤ x ∧ x ≤ 4294967295 := by
  intro x hx
  rw [h.g.flat] at hx
  unfold narrows at hx
  rw [List.mem_filter] at hx
  obtain ⟨i, hi, he⟩ := List.getElem_of_mem hx.1
  have h0 := h.pos i hi
  simp [List.getD, hi, he] at h0
  exact ⟨h0, by simpa using hx.2⟩
theorem Done.bounds (h : Done made P Q ds) : Q.vals.length ≤ 1000000 ∧ Q.vals.flatten.length ≤ 1000000 ∧ Q.wide.length ≤ 1000000 ∧ P.vals.length ≤ 1000000 ∧ (narrows ds).length ≤ 1000000 := by
  have h1 := h.g.count
  have h2 := narrows_len ds
  have h3 := wides_len ds
  have hl := h.len
  have hm := h.made
  rw [h.t.len, h.g.flat, h.g.wide]
  omega
theorem Done.sumQ (h : Done made P Q ds) : Q.vals.flatten.sum + Q.wide.sum = ds.sum := by rw [h.g.flat, h.g.wide, both_sum]

theorem two11p (d : Done made P Q ds) {w : World} (h : Two w0 B Bq P Q F G w) :
    Calls Try.prog 11 #[.pointer (some ⟨B, 0, none⟩)] w fun e w' => e = .returned (.int .i64 (wrap64 ds.sum)) ∧ Two w0 B Bq P Q F G w' := by
  obtain ⟨b1, b2, b3, b4, b5⟩ := d.bounds
  have := sum11 h.p b4 (by rw [d.t.flat]; exact b2) (by rw [d.t.wide]; exact b3) (by rw [d.t.flat]; exact d.range)
  rw [d.t.flat, d.t.wide, d.sumQ] at this
  exact this.mono fun e w' ⟨he, hr, st⟩ => ⟨he, h.stepP st hr⟩
theorem two11q (d : Done made P Q ds) (hB : B ≤ Bq) {w : World} (h : Two w0 B Bq P Q F G w) :
    Calls Try.prog 11 #[.pointer (some ⟨Bq, 0, none⟩)] w fun e w' => e = .returned (.int .i64 (wrap64 ds.sum)) ∧ Two w0 B Bq P Q F G w' := by
  obtain ⟨b1, b2, b3, b4, b5⟩ := d.bounds
  have := sum11 h.q b1 b2 b3 d.range
  rw [d.sumQ] at this
  exact this.mono fun e w' ⟨he, hr, st⟩ => ⟨he, h.stepQ hB st hr⟩
theorem two13p (d : Done made P Q ds) {w : World} (h : Two w0 B Bq P Q F G w) :
    Calls Try.prog 13 #[.pointer (some ⟨B, 0, none⟩)] w fun e w' => e = .returned (.int .i64 ds.length) ∧ Two w0 B Bq P Q F G w' := by
  obtain ⟨b1, b2, b3, b4, b5⟩ := d.bounds
  have hn : P.nlen = (narrows ds).length := by rw [d.t.nlen d.g, d.g.nlen]
  have := len_any h.p (by rw [hn]; exact b5) (by rw [d.t.wide]; exact b3)
  rw [hn, d.t.wide, d.g.wide, both_len] at this
  exact this.mono fun e w' ⟨he, hs⟩ => ⟨he, h.same hs⟩
theorem two14p (d : Done made P Q ds) {w : World} (h : Two w0 B Bq P Q F G w) :
    Calls Try.prog 14 #[.pointer (some ⟨B, 0, none⟩)] w fun e w' => e = .returned (.int .i64 (narrows ds).length) ∧ Two w0 B Bq P Q F G w' := by
  obtain ⟨b1, b2, b3, b4, b5⟩ := d.bounds
  have hn : P.nlen = (narrows ds).length := by rw [d.t.nlen d.g, d.g.nlen]
  have := nlen_any h.p (by rw [hn]; exact b5)
  rw [hn] at this
  exact this.mono fun e w' ⟨he, hs⟩ => ⟨he, h.same hs⟩
theorem two17p (d : Done made P Q ds) {w : World} (h : Two w0 B Bq P Q F G w) :
    Calls Try.prog 17 #[.pointer (some ⟨B, 0, none⟩)] w fun e w' => ∃ va vc, e = .returned (.slice va P.vlen vc) ∧ Two w0 B Bq P Q F G w' ∧ View w' (.slice va P.vlen vc) P F := by
  obtain ⟨b1, b2, b3, b4, b5⟩ := d.bounds
  refine (view17 h.p b4).mono ?_
  rintro e w' ⟨v, rfl, hr, st, hv⟩
  obtain ⟨va, vc, rfl, _, _⟩ := hv.rows
  exact ⟨va, vc, rfl, h.stepP st hr, hv⟩
theorem two17q (d : Done made P Q ds) (hB : B ≤ Bq) {w : World} (h : Two w0 B Bq P Q F G w) {vp : Value} (hp : View w vp P F) :
    Calls Try.prog 17 #[.pointer (some ⟨Bq, 0, none⟩)] w fun e w' => ∃ vb vd, e = .returned (.slice vb Q.vlen vd) ∧ Two w0 B Bq P Q F G w' ∧ View w' (.slice vb Q.vlen vd) Q G ∧ View w' vp P F := by
  obtain ⟨b1, b2, b3, b4, b5⟩ := d.bounds
  refine (view17 h.q b1).mono ?_
  rintro e w' ⟨v, rfl, hr, st, hv⟩
  obtain ⟨va, vc, rfl, _, _⟩ := hv.rows
  exact ⟨va, vc, rfl, h.stepQ hB st hr, hv, hp.apartQ h st⟩

theorem two26 (d : Done made P Q ds) (hq : Q.vals ≠ []) {w : World} {va vb : Option Addr} {vc vd : Nat} (h1 : View w (.slice va P.vlen vc) P F) (h2 : View w (.slice vb Q.vlen vd) Q G) :
    P.vlen = Q.vlen ∧ Calls Try.prog 26 #[.slice va Q.vlen vc, .slice vb Q.vlen vd] w fun e w' => e = .returned (.bool true) ∧ Same w w' := by
  obtain ⟨b1, b2, b3, b4, b5⟩ := d.bounds
  have hp : P.vals ≠ [] := by rw [d.t.vals]; simp [hq]
  have ep : P.vlen = P.full + 1 := by unfold St.vlen; rw [if_neg hp]
  have eq : Q.vlen = Q.full + 1 := by unfold St.vlen; rw [if_neg hq]
  have el : P.vlen = Q.vlen := by rw [ep, eq, d.t.full]
  have hl := d.g.last hq
  refine ⟨el, ?_⟩
  obtain ⟨va1, vc1, e1, _, r1⟩ := h1.rows
  obtain ⟨vb1, vd1, e2, _, r2⟩ := h2.rows
  simp only [Value.slice.injEq, true_and] at e1 e2
  obtain ⟨rfl, rfl⟩ := e1
  obtain ⟨rfl, rfl⟩ := e2
  have hcap : ∀ k, k < Q.vlen → (Q.vals.getD k []).length ≤ capOf k := by
    intro k hk
    by_cases e : k = Q.full
    · rw [e]; exact (d.g.lastc hq).2
    · rw [d.g.caps k (by omega)]; exact Nat.le_refl _
  refine same26_low va vb Q.vlen vc vd (fun k => (Q.vals.getD k []).length) capOf (fun k j => Q.vals.flatten.getD (inF Q.vals k + j) 0) w (by omega) (fun k hk => Nat.le_trans (hcap k hk) (capOf_hi k)) (fun hpos => ?_) (fun hpos => ?_)
  · obtain ⟨cb, blks, rfl, q1, q2⟩ := r1 (by omega)
    refine ⟨cb, fun k => blks.getD k 0, rfl, fun k hk => ?_, fun k hk j hj => ?_⟩
    · rw [q1 k (by omega), d.t.getD]
    · rw [q2 k (by omega) j (by rw [d.t.getD]; exact hj), d.t.flat, d.t.inF k (by omega)]
  · obtain ⟨cb, blks, rfl, q1, q2⟩ := r2 hpos
    exact ⟨cb, fun k => blks.getD k 0, rfl, fun k hk => q1 k hk, fun k hk j hj => q2 k hk j hj⟩

theorem two28 (d : Done made P Q ds) {w : World} (h : Two w0 B Bq P Q F G w) :
    ∃ wa wc wb wd, (Calls Try.prog 28 #[.pointer (some ⟨B, 0, none⟩)] w fun e w' => e = .returned (.slice wa Q.wide.length wc) ∧ w = w') ∧
      (Calls Try.prog 28 #[.pointer (some ⟨Bq, 0, none⟩)] w fun e w' => e = .returned (.slice wb Q.wide.length wd) ∧ w = w') ∧
      (Calls Try.prog 27 #[.slice wa Q.wide.length wc, .slice wb Q.wide.length wd] w fun e w' => e = .returned (.bool true) ∧ Same w w') := by
  obtain ⟨b1, b2, b3, b4, b5⟩ := d.bounds
  obtain ⟨wa, wc, h4, hwa⟩ := h.p.wides
  obtain ⟨wb, wd, h4', hwb⟩ := h.q.wides
  rw [d.t.wide] at h4 hwa
  refine ⟨wa, wc, wb, wd, wide_any B _ _ _ w h4, wide_any Bq _ _ _ w h4', same27_low wa wb _ wc wd (fun k => Q.wide.getD k 0) w b3 (fun hp => ?_) (fun hp => ?_)⟩
  · obtain ⟨x, e, _, hc⟩ := hwa hp; exact ⟨x, e, hc⟩
  · obtain ⟨x, e, _, hc⟩ := hwb hp; exact ⟨x, e, hc⟩
end

end Go.Proofs.Qxb6600929a
