/- The law FnResetThenRefillIsAsFresh, walked. -/
import Derived.Test.Qxb6600929aRefill
namespace Go.Proofs.Qxb6600929a
open Go.RowKit
set_option linter.unusedSimpArgs false
set_option linter.unusedVariables false

theorem view_first {w : World} {va : Option Addr} {n vc : Nat} {P : St} {F : List Nat} (h : View w (.slice va n vc) P F) (hv : P.vlen = 1) (hg : P.vals.getD 0 [] = []) :
    ∃ cb bk, va = some ⟨cb, 0, none⟩ ∧ w.cell? ⟨cb, 0, none⟩ = some (.slice (some ⟨bk, 0, none⟩) 0 64) := by
  obtain ⟨va1, vc1, e1, _, r1⟩ := h.rows
  obtain ⟨cb, blks, rfl, q1, _⟩ := r1 (by omega)
  have := q1 0 (by omega)
  rw [hg, capOf_zero, List.length_nil] at this
  simp only [Value.slice.injEq] at e1
  exact ⟨cb, _, e1.1, this⟩

set_option maxRecDepth 20000 in
set_option maxHeartbeats 4000000 in
theorem walk6 (a0 a1 : Option Addr) (c0 c1 : Nat) (d1 d2 : List Int) (w : World) (hr1 : InRow .i64 w a0 d1) (hr2 : InRow .i64 w a1 d2) (hl1 : d1.length ≤ 65536) (hl2 : d2.length ≤ 65536) (hn1 : hasNeg d1 = false) (hn2 : hasNeg d2 = false) :
    Calls Try.prog 6 #[.slice a0 d1.length c0, .slice a1 d2.length c1] w fun e w' => e = .returned (.bool true) ∧ Below w.heap.size w w' := by
  have C1 := hide (neg9 a0 c0 d1 w hr1 (by omega))
  have C2 := hide (neg9 a1 c1 d2 w hr2 (by omega))
  rw [hn1] at C1
  rw [hn2] at C2
  have HB1 := hide (nonneg_of d1 hn1)
  have HB2 := hide (nonneg_of d2 hn2)
  have HR1 := hide hr1
  have HR2 := hide hr2
  have i1 : (d1.length : Int) ≤ 65536 := by omega
  have i2 : (d2.length : Int) ≤ 65536 := by omega
  have HS : Hid (d1.length + d2.length ≤ 1048576) := by show d1.length + d2.length ≤ 1048576; omega
  have HL1 : Hid (d1.length ≤ 262144) := by show d1.length ≤ 262144; omega
  have HL2 : Hid (d2.length ≤ 262144) := by show d2.length ≤ 262144; omega
  clear hn1 hn2 hr1 hr2 hl1 hl2
  go_enter Try.func6, Try.ntmps6
  go_wp2_with (first | (go_at_call 23; refine (bytes23 _ _ _ _ _ _ _ (unhide HS)).mono ?_; rintro e w' ⟨rfl, rfl⟩) | (go_at_call_of 9 (a0); refine (unhide C1).mono ?_; rintro e w' ⟨rfl, rfl⟩) | (go_at_call_of 9 (a1); refine (unhide C2).mono ?_; rintro e w' ⟨rfl, rfl⟩))
  go_loopw [7] (fun i wr => ∃ k : Nat, k ≤ d1.length ∧ i = .int .i64 k ∧ ∃ F, RecS wr w.heap.size w.heap.size (fill (d1.take k)) F ∧ Below w.heap.size w wr) (fun i _ => d1.length - (intOf i).toNat)
  case atStart => exact ⟨0, Nat.zero_le _, rfl, _, rec_made w, (Below.refl _ _).alloc (Nat.le_refl _) _⟩
  case round =>
    obtain ⟨k, hk, rfl, F, hrec, hbel⟩ := hrel
    have HRec := hide hrec
    have HBel := hide hbel
    by_cases hlt : k < d1.length
    · obtain ⟨bb, off, rfl, hbb, hc⟩ := (unhide HR1).below hbel (by omega)
      have hck := hc k hlt
      have hbk := unhide HB1 k hlt
      have HStep := hide (round_add hrec hlt hbk (unhide HL1))
      obtain ⟨x, hx⟩ : ∃ x, x = d1.getD k 0 := ⟨_, rfl⟩
      rw [← hx] at hck hbk HStep
      have HX := hide hx
      clear hx hc hrec hbel
      go_wp2_with (first | (go_at_call 10; refine (unhide HStep).mono ?_; rintro e w' ⟨rfl, F', hrec', st'⟩))
      go_roundw
      case rel =>
        have hr := unhide HRec
        exact ⟨k + 1, by omega, by go_num, F', by rw [fill_snoc d1 k hlt, ← unhide HX]; exact hrec', (unhide HBel).trans (hr.stepBelow st')⟩
      case measure => simp [intOf]; omega
    · obtain rfl : k = d1.length := by omega
      rw [List.take_length] at hrec HRec
      have hbs := fill_bounds d1 d1.length (Nat.le_refl _) (unhide HL1)
      rw [List.take_length] at hbs
      obtain ⟨S, hS⟩ : ∃ S, S = fill d1 := ⟨_, rfl⟩
      rw [← hS] at hrec hbs HRec
      have C18 := hide (count_any hrec)
      have R24 := hide (reset24 hrec hbs.1)
      have C25 : Hid (∀ w1, RecS w1 w.heap.size w.heap.size S.reset F → Calls Try.prog 25 #[.pointer (some ⟨w.heap.size, 0, none⟩), .int .i64 S.vals.length] w1 fun e w' => e = .returned (.bool true) ∧ RecS w' w.heap.size w.heap.size S.reset F ∧ Step w1 w' F F) :=
        fun w1 h1 => state25 h1 hbs.1
      have HSl := hide hbs.1
      have hmb : (S.vals.length : Int) ≤ 1000000 := by have := hbs.1; omega
      clear hbs hS hrec hbel hlt hk
      go_wp2_with (first | (go_at_call 18; refine (unhide C18).mono ?_; rintro e w' ⟨rfl, rfl⟩) | (go_at_call 25; refine (unhide C25 _ (unhide HRa)).mono ?_; rintro e w2 ⟨rfl, hr2, st2⟩; have HRb := hide hr2; have HBb := hide ((unhide HBa).trans ((unhide HRa).stepBelow st2)); clear hr2 st2) | (go_at_call 24; refine (unhide R24).mono ?_; rintro e w1 ⟨rfl, hr1, st1⟩; have HRa := hide hr1; have HBa := hide ((unhide HBel).trans ((unhide HRec).stepBelow st1)); clear hr1 st1))
      go_loopw [9] (fun i wr => ∃ k : Nat, k ≤ d2.length ∧ i = .int .i64 k ∧ ∃ F, RecS wr w.heap.size w.heap.size (fillFrom S.reset (d2.take k)) F ∧ Below w.heap.size w wr) (fun i _ => d2.length - (intOf i).toNat)
      case atStart => exact ⟨0, Nat.zero_le _, rfl, _, unhide HRb, unhide HBb⟩
      case round =>
        clear HRb HBb HRa HBa C18 R24 C25 HRec HBel C1 C2
        obtain ⟨k, hk, rfl, F2, hrec, hbel⟩ := hrel
        have HRec := hide hrec
        have HBel := hide hbel
        by_cases hlt : k < d2.length
        · obtain ⟨bb, off, rfl, hbb, hc⟩ := (unhide HR2).below hbel (by omega)
          have hck := hc k hlt
          have hbk := unhide HB2 k hlt
          have HStep := hide (refill_round hrec (unhide HSl) hlt hbk (unhide HL2))
          obtain ⟨x, hx⟩ : ∃ x, x = d2.getD k 0 := ⟨_, rfl⟩
          rw [← hx] at hck hbk HStep
          have HX := hide hx
          clear hx hc hrec hbel
          go_wp2_with (first | (go_at_call 10; refine (unhide HStep).mono ?_; rintro e w' ⟨rfl, F', hrec', st'⟩))
          go_roundw
          case rel =>
            have hr := unhide HRec
            exact ⟨k + 1, by omega, by go_num, F', by rw [refill_snoc S.reset d2 k hlt, ← unhide HX]; exact hrec', (unhide HBel).trans (hr.stepBelow st')⟩
          case measure => simp [intOf]; omega
        · obtain rfl : k = d2.length := by omega
          rw [List.take_length] at hrec HRec
          obtain ⟨P, hP⟩ : ∃ P, P = fillFrom S.reset d2 := ⟨_, rfl⟩
          have htr := track_fill S d2 d2.length (Nat.le_refl _)
          rw [List.take_length] at htr
          rw [← hP] at hrec HRec htr
          have HTr := hide htr
          have HBB0 : Hid (w.heap.size ≤ wr.heap.size) := hbel.size
          clear hP htr hrec hbel hlt hk
          have HT0 : Hid (Two w w.heap.size wr.heap.size P St.none F2 [wr.heap.size] (wr.alloc (.cells #[.slice none 0 0, .slice none 0 0, .int .i64 0, .int .i64 0, .slice none 0 0, .slice none 0 0] 28))) :=
            ⟨(unhide HRec).keep fun k hk => Below.heap_alloc _ _ _ ((unhide HRec).foot_lt k hk).2, rec_made wr, (unhide HBel).alloc (unhide HBB0) _, fun k hk => ((unhide HRec).foot_lt k hk).2⟩
          have HBB : Hid (w.heap.size ≤ wr.heap.size) := unhide HBB0
          go_wp2_with fail
          obtain ⟨bq, hbq⟩ : ∃ bq, bq = wr.heap.size := ⟨_, rfl⟩
          rw [← hbq] at HT0 HBB
          rw [← hbq]
          clear hbq HBB0
          go_loopw [12] (fun i w3 => ∃ k : Nat, k ≤ d2.length ∧ i = .int .i64 k ∧ ∃ G, Two w w.heap.size bq P (fill (d2.take k)) F2 G w3) (fun i _ => d2.length - (intOf i).toNat)
          case atStart => exact ⟨0, Nat.zero_le _, rfl, _, unhide HT0⟩
          case round =>
            clear HT0
            obtain ⟨k, hk, rfl, G, htwo⟩ := hrel
            have HTwo := hide htwo
            by_cases hlt : k < d2.length
            · obtain ⟨bb, off, rfl, hbb, hc⟩ := (unhide HR2).below htwo.below (by omega)
              have hck := hc k hlt
              have hbk := unhide HB2 k hlt
              have HStep := hide (round_add htwo.q hlt hbk (unhide HL2))
              obtain ⟨x, hx⟩ : ∃ x, x = d2.getD k 0 := ⟨_, rfl⟩
              rw [← hx] at hck hbk HStep
              have HX := hide hx
              clear hx hc htwo
              go_wp2_with (first | (go_at_call 10; refine (unhide HStep).mono ?_; rintro e w' ⟨rfl, F', hrec', st'⟩))
              go_roundw
              case rel =>
                have ht := unhide HTwo
                exact ⟨k + 1, by omega, by go_num, F', ⟨ht.p.apart st' ht.apart, by rw [fill_snoc d2 k hlt, ← unhide HX]; exact hrec', ht.below.trans ((ht.q.stepBelow st').mono (unhide HBB)), ht.fq⟩⟩
              case measure => simp [intOf]; omega
            · obtain rfl : k = d2.length := by omega
              rw [List.take_length] at htwo HTwo
              have g := fill_greedy_all d2
              have hdone : Done S.vals.length P (fill d2) d2 := ⟨unhide HTr, g, unhide HB2, unhide HL2, unhide HSl⟩
              obtain ⟨Q, hQ⟩ : ∃ Q, Q = fill d2 := ⟨_, rfl⟩
              rw [← hQ] at hdone HTwo g
              have HTr2 := hide hdone.t
              have C11p : Hid (∀ w1, Two w w.heap.size bq P Q F2 G w1 → Calls Try.prog 11 #[.pointer (some ⟨w.heap.size, 0, none⟩)] w1 fun e w2 => e = .returned (.int .i64 (wrap64 d2.sum)) ∧ Two w w.heap.size bq P Q F2 G w2) := fun w1 h => two11p hdone h
              have C11q : Hid (∀ w1, Two w w.heap.size bq P Q F2 G w1 → Calls Try.prog 11 #[.pointer (some ⟨bq, 0, none⟩)] w1 fun e w2 => e = .returned (.int .i64 (wrap64 d2.sum)) ∧ Two w w.heap.size bq P Q F2 G w2) := fun w1 h => two11q hdone (unhide HBB) h
              have C12 : Hid (∀ w1, Two w w.heap.size bq P Q F2 G w1 → Calls Try.prog 12 #[.slice a1 d2.length c1] w1 fun e w2 => e = .returned (.int .i64 (wrap64 d2.sum)) ∧ w1 = w2) := fun w1 h => total12 a1 c1 d2 w1 ((unhide HR2).below h.below) (by have := unhide HL2; omega)
              have C13 : Hid (∀ w1, Two w w.heap.size bq P Q F2 G w1 → Calls Try.prog 13 #[.pointer (some ⟨w.heap.size, 0, none⟩)] w1 fun e w2 => e = .returned (.int .i64 d2.length) ∧ Two w w.heap.size bq P Q F2 G w2) := fun w1 h => two13p hdone h
              have C14 : Hid (∀ w1, Two w w.heap.size bq P Q F2 G w1 → Calls Try.prog 14 #[.pointer (some ⟨w.heap.size, 0, none⟩)] w1 fun e w2 => e = .returned (.int .i64 (narrows d2).length) ∧ Two w w.heap.size bq P Q F2 G w2) := fun w1 h => two14p hdone h
              have C15 : Hid (∀ w1, Two w w.heap.size bq P Q F2 G w1 → Calls Try.prog 15 #[.slice a1 d2.length c1] w1 fun e w2 => e = .returned (.int .i64 (narrows d2).length) ∧ w1 = w2) := fun w1 h => count15 a1 c1 d2 w1 ((unhide HR2).below h.below) (by have := unhide HL2; omega) (unhide HB2)
              have C17p : Hid (∀ w1, Two w w.heap.size bq P Q F2 G w1 → Calls Try.prog 17 #[.pointer (some ⟨w.heap.size, 0, none⟩)] w1 fun e w2 => ∃ va vc, e = .returned (.slice va P.vlen vc) ∧ Two w w.heap.size bq P Q F2 G w2 ∧ View w2 (.slice va P.vlen vc) P F2) := fun w1 h => two17p hdone h
              have C17q : Hid (∀ w1 vp, Two w w.heap.size bq P Q F2 G w1 → View w1 vp P F2 → Calls Try.prog 17 #[.pointer (some ⟨bq, 0, none⟩)] w1 fun e w2 => ∃ vb vd, e = .returned (.slice vb Q.vlen vd) ∧ Two w w.heap.size bq P Q F2 G w2 ∧ View w2 (.slice vb Q.vlen vd) Q G ∧ View w2 vp P F2) := fun w1 vp h hv => two17q hdone (unhide HBB) h hv
              have C28 : Hid (∀ w1, Two w w.heap.size bq P Q F2 G w1 → _) := fun w1 h => two28 hdone h
              have C18q : Hid (∀ w1, Two w w.heap.size bq P Q F2 G w1 → Calls Try.prog 18 #[.pointer (some ⟨bq, 0, none⟩)] w1 fun e w2 => e = .returned (.int .i64 Q.vals.length) ∧ w1 = w2) := fun w1 h => count_any h.q
              have C18p : Hid (∀ w1, Two w w.heap.size bq P Q F2 G w1 → Calls Try.prog 18 #[.pointer (some ⟨w.heap.size, 0, none⟩)] w1 fun e w2 => e = .returned (.int .i64 P.vals.length) ∧ w1 = w2) := fun w1 h => count_any h.p
              have C26 : Hid (Q.vals ≠ [] → ∀ (w1 : World) (va vb : Option Addr) (vc vd : Nat), View w1 (.slice va P.vlen vc) P F2 → View w1 (.slice vb Q.vlen vd) Q G → P.vlen = Q.vlen ∧ Calls Try.prog 26 #[.slice va Q.vlen vc, .slice vb Q.vlen vd] w1 fun e w' => e = .returned (.bool true) ∧ Same w1 w') := fun hq w1 va vb vc vd h1 h2 => two26 hdone hq h1 h2
              have hplen := hdone.t.len
              have hnil := g.nil_iff
              have hqb := hdone.bounds
              obtain ⟨T, hT⟩ : ∃ T, T = wrap64 d2.sum := ⟨_, rfl⟩
              rw [← hT] at C11p C11q C12
              obtain ⟨n1, hn1⟩ : ∃ n1, n1 = (narrows d2).length := ⟨_, rfl⟩
              rw [← hn1] at C14 C15
              have hn1b : n1 ≤ 1000000 := by rw [hn1]; exact hqb.2.2.2.2
              have hqv : n1 = 0 ↔ Q.vals = [] := by rw [hnil, hn1]; exact List.length_eq_zero_iff
              have hvq : Q.vals = [] → Q.vlen = 0 := fun h => by unfold St.vlen; rw [if_pos h]
              have hpv0 : Q.vals = [] → S.vals.length = 0 → P.vlen = 0 := fun h h' => by
                have e : P.vals = [] := by rw [hdone.t.vals, h, h']; rfl
                unfold St.vlen; rw [if_pos e]
              have hpv1 : Q.vals = [] → 0 < S.vals.length → P.vlen = 1 ∧ P.vals.getD 0 [] = [] := fun h h' => by
                have e : P.vals ≠ [] := by
                  rw [hdone.t.vals, h]
                  intro e
                  have := congrArg List.length e
                  simp at this
                  rw [this] at h'
                  simp at h'
                refine ⟨by unfold St.vlen; rw [if_neg e, hdone.t.full, g.zero h], by rw [hdone.t.getD, h]; rfl⟩
              have HPQ : Hid (Q.vals ≠ [] → P.vlen = Q.vlen) := fun hq => by
                have hp : P.vals ≠ [] := by rw [hdone.t.vals]; simp [hq]
                unfold St.vlen
                rw [if_neg hp, if_neg hq, hdone.t.full]
              have HPL := hide hplen
              have HQV := hide hqv
              have HVQ := hide hvq
              have HPV0 := hide hpv0
              have HPV1 := hide hpv1
              have hQb : (Q.vals.length : Int) ≤ 1000000 := by have := hqb.1; omega
              have hn1i : (n1 : Int) ≤ 1000000 := by omega
              clear hplen hqv hvq hpv0 hpv1 hnil hqb hT hn1 hQ g hdone htwo hlt hk hn1b HTr HTr2 HRec HBel
              have hcase : (n1 = 0 ∧ S.vals.length = 0) ∨ (n1 = 0 ∧ 0 < S.vals.length) ∨ (0 < n1 ∧ S.vals.length < Q.vals.length) ∨ (0 < n1 ∧ Q.vals.length ≤ S.vals.length) := by omega
              obtain ⟨sl, hsl⟩ : ∃ sl, sl = S.vals.length := ⟨_, rfl⟩
              obtain ⟨ql, hql⟩ : ∃ ql, ql = Q.vals.length := ⟨_, rfl⟩
              obtain ⟨pl, hpl⟩ : ∃ pl, pl = P.vals.length := ⟨_, rfl⟩
              obtain ⟨pv, hpv⟩ : ∃ pv, pv = P.vlen := ⟨_, rfl⟩
              obtain ⟨qv, hqv⟩ : ∃ qv, qv = Q.vlen := ⟨_, rfl⟩
              obtain ⟨wl, hwl⟩ : ∃ wl, wl = Q.wide.length := ⟨_, rfl⟩
              rw [← hsl, ← hql] at hcase
              rw [← hsl] at hmb
              rw [← hql] at hQb C18q
              rw [← hpl] at C18p HPL
              rw [← hsl, ← hql] at HPL
              rw [← hpv] at C17p HPV0 HPV1 C26
              rw [← hsl] at HPV0 HPV1
              rw [← hqv] at C17q HVQ C26
              rw [← hwl] at C28
              rw [← hsl]
              rcases hcase with ⟨e1, e2⟩ | ⟨e1, e2⟩ | ⟨e1, e2⟩ | ⟨e1, e2⟩
              · have eq := (unhide HQV).1 e1
                have ev := unhide HVQ eq
                have ep := unhide HPV0 eq e2
                have el : ql = 0 := by rw [hql, eq]; rfl
                have epl : pl = 0 := by have := unhide HPL; omega
                subst e1 e2 ev ep el epl
                clear hsl hql hpl hpv hqv hwl HPL HQV HVQ HPV0 HPV1 eq C26
                go_wp2_with (first | (go_at_call_of 11 (w.heap.size); refine (unhide C11p _ (unhide HTwo)).mono ?_; rintro e w9 ⟨rfl, ht9⟩; replace HTwo := hide ht9; clear ht9) | (go_at_call_of 11 (bq); refine (unhide C11q _ (unhide HTwo)).mono ?_; rintro e w9 ⟨rfl, ht9⟩; replace HTwo := hide ht9; clear ht9) | (go_at_call 12; refine (unhide C12 _ (unhide HTwo)).mono ?_; rintro e w9 ⟨rfl, rfl⟩) | (go_at_call 13; refine (unhide C13 _ (unhide HTwo)).mono ?_; rintro e w9 ⟨rfl, ht9⟩; replace HTwo := hide ht9; clear ht9) | (go_at_call 14; refine (unhide C14 _ (unhide HTwo)).mono ?_; rintro e w9 ⟨rfl, ht9⟩; replace HTwo := hide ht9; clear ht9) | (go_at_call 15; refine (unhide C15 _ (unhide HTwo)).mono ?_; rintro e w9 ⟨rfl, rfl⟩) | (go_at_call_of 17 (w.heap.size); refine (unhide C17p _ (unhide HTwo)).mono ?_; rintro e w9 ⟨va, vc, rfl, ht9, hv9⟩; replace HTwo := hide ht9; have HVP := hide hv9; clear ht9 hv9) | (go_at_call_of 17 (bq); refine (unhide C17q _ _ (unhide HTwo) (unhide HVP)).mono ?_; rintro e w9 ⟨vb, vd, rfl, ht9, hvq9, hvp9⟩; replace HTwo := hide ht9; replace HVP := hide hvp9; have HVQ2 := hide hvq9; clear ht9 hvq9 hvp9) | (go_at_call_of 28 (w.heap.size); obtain ⟨wa, wc, wb, wd, x1, x2, x3⟩ := unhide C28 _ (unhide HTwo); have X2 := hide x2; have X3 := hide x3; refine x1.mono ?_; rintro e w9 ⟨rfl, rfl⟩; clear x1 x2 x3) | (go_at_call_of 28 (bq); refine (unhide X2).mono ?_; rintro e w9 ⟨rfl, rfl⟩) | (go_at_call 27; refine (unhide X3).mono ?_; rintro e w9 ⟨rfl, hs9⟩; replace HTwo := hide ((unhide HTwo).same hs9); clear hs9) | (go_at_call_of 18 (bq); refine (unhide C18q _ (unhide HTwo)).mono ?_; rintro e w9 ⟨rfl, rfl⟩) | (go_at_call_of 18 (w.heap.size); refine (unhide C18p _ (unhide HTwo)).mono ?_; rintro e w9 ⟨rfl, rfl⟩))
                go_ret
                exact ⟨rfl, (unhide HTwo).below⟩
              · have eq := (unhide HQV).1 e1
                have ev := unhide HVQ eq
                have ep := unhide HPV1 eq e2
                have el : ql = 0 := by rw [hql, eq]; rfl
                have epl : pl = sl := by have := unhide HPL; omega
                have HVF : Hid (∀ (w1 : World) (va : Option Addr) (vc : Nat), View w1 (.slice va pv vc) P F2 → ∃ cb bk, va = some ⟨cb, 0, none⟩ ∧ w1.cell? ⟨cb, 0, none⟩ = some (.slice (some ⟨bk, 0, none⟩) 0 64)) :=
                  fun w1 va vc h => view_first h (by rw [← hpv]; exact ep.1) ep.2
                have epv := ep.1
                subst e1 ev el epl
                subst epv
                clear hsl hql hpl hpv hqv hwl HPL HQV HVQ HPV0 HPV1 eq C26 ep
                go_wp2_with (first | (go_at_call_of 11 (w.heap.size); refine (unhide C11p _ (unhide HTwo)).mono ?_; rintro e w9 ⟨rfl, ht9⟩; replace HTwo := hide ht9; clear ht9) | (go_at_call_of 11 (bq); refine (unhide C11q _ (unhide HTwo)).mono ?_; rintro e w9 ⟨rfl, ht9⟩; replace HTwo := hide ht9; clear ht9) | (go_at_call 12; refine (unhide C12 _ (unhide HTwo)).mono ?_; rintro e w9 ⟨rfl, rfl⟩) | (go_at_call 13; refine (unhide C13 _ (unhide HTwo)).mono ?_; rintro e w9 ⟨rfl, ht9⟩; replace HTwo := hide ht9; clear ht9) | (go_at_call 14; refine (unhide C14 _ (unhide HTwo)).mono ?_; rintro e w9 ⟨rfl, ht9⟩; replace HTwo := hide ht9; clear ht9) | (go_at_call 15; refine (unhide C15 _ (unhide HTwo)).mono ?_; rintro e w9 ⟨rfl, rfl⟩) | (go_at_call_of 17 (w.heap.size); refine (unhide C17p _ (unhide HTwo)).mono ?_; rintro e w9 ⟨va, vc, rfl, ht9, hv9⟩; replace HTwo := hide ht9; have HVP := hide hv9; clear ht9 hv9) | (go_at_call_of 17 (bq); refine (unhide C17q _ _ (unhide HTwo) (unhide HVP)).mono ?_; rintro e w9 ⟨vb, vd, rfl, ht9, hvq9, hvp9⟩; replace HTwo := hide ht9; replace HVP := hide hvp9; have HVQ2 := hide hvq9; clear ht9 hvq9 hvp9; obtain ⟨cb, bk, rfl, qc⟩ := unhide HVF _ _ _ (unhide HVP)) | (go_at_call_of 28 (w.heap.size); obtain ⟨wa, wc, wb, wd, x1, x2, x3⟩ := unhide C28 _ (unhide HTwo); have X2 := hide x2; have X3 := hide x3; refine x1.mono ?_; rintro e w9 ⟨rfl, rfl⟩; clear x1 x2 x3) | (go_at_call_of 28 (bq); refine (unhide X2).mono ?_; rintro e w9 ⟨rfl, rfl⟩) | (go_at_call 27; refine (unhide X3).mono ?_; rintro e w9 ⟨rfl, hs9⟩; replace HTwo := hide ((unhide HTwo).same hs9); clear hs9) | (go_at_call_of 18 (bq); refine (unhide C18q _ (unhide HTwo)).mono ?_; rintro e w9 ⟨rfl, rfl⟩) | (go_at_call_of 18 (w.heap.size); refine (unhide C18p _ (unhide HTwo)).mono ?_; rintro e w9 ⟨rfl, rfl⟩))
                go_ret
                exact ⟨rfl, (unhide HTwo).below⟩
              · have hq : Q.vals ≠ [] := fun h => by have := (unhide HQV).2 h; omega
                have hpq := unhide HPQ hq
                have D26 := hide (fun (w1 : World) (va vb : Option Addr) (vc vd : Nat) (h1 : View w1 (.slice va pv vc) P F2) (h2 : View w1 (.slice vb qv vd) Q G) => (unhide C26 hq w1 va vb vc vd h1 h2).2)
                rw [← hpv, ← hqv] at hpq
                have epl : pl = ql := by have := unhide HPL; omega
                subst hpq epl
                clear hsl hql hpl hpv hqv hwl HPL HQV HVQ HPV0 HPV1 HPQ C26 hq
                go_wp2_with (first | (go_at_call_of 11 (w.heap.size); refine (unhide C11p _ (unhide HTwo)).mono ?_; rintro e w9 ⟨rfl, ht9⟩; replace HTwo := hide ht9; clear ht9) | (go_at_call_of 11 (bq); refine (unhide C11q _ (unhide HTwo)).mono ?_; rintro e w9 ⟨rfl, ht9⟩; replace HTwo := hide ht9; clear ht9) | (go_at_call 12; refine (unhide C12 _ (unhide HTwo)).mono ?_; rintro e w9 ⟨rfl, rfl⟩) | (go_at_call 13; refine (unhide C13 _ (unhide HTwo)).mono ?_; rintro e w9 ⟨rfl, ht9⟩; replace HTwo := hide ht9; clear ht9) | (go_at_call 14; refine (unhide C14 _ (unhide HTwo)).mono ?_; rintro e w9 ⟨rfl, ht9⟩; replace HTwo := hide ht9; clear ht9) | (go_at_call 15; refine (unhide C15 _ (unhide HTwo)).mono ?_; rintro e w9 ⟨rfl, rfl⟩) | (go_at_call_of 17 (w.heap.size); refine (unhide C17p _ (unhide HTwo)).mono ?_; rintro e w9 ⟨va, vc, rfl, ht9, hv9⟩; replace HTwo := hide ht9; have HVP := hide hv9; clear ht9 hv9) | (go_at_call_of 17 (bq); refine (unhide C17q _ _ (unhide HTwo) (unhide HVP)).mono ?_; rintro e w9 ⟨vb, vd, rfl, ht9, hvq9, hvp9⟩; replace HTwo := hide ht9; replace HVP := hide hvp9; have HVQ2 := hide hvq9; clear ht9 hvq9 hvp9) | (go_at_call_of 28 (w.heap.size); obtain ⟨wa, wc, wb, wd, x1, x2, x3⟩ := unhide C28 _ (unhide HTwo); have X2 := hide x2; have X3 := hide x3; refine x1.mono ?_; rintro e w9 ⟨rfl, rfl⟩; clear x1 x2 x3) | (go_at_call_of 28 (bq); refine (unhide X2).mono ?_; rintro e w9 ⟨rfl, rfl⟩) | (go_at_call 27; refine (unhide X3).mono ?_; rintro e w9 ⟨rfl, hs9⟩; replace HTwo := hide ((unhide HTwo).same hs9); clear hs9) | (go_at_call_of 18 (bq); refine (unhide C18q _ (unhide HTwo)).mono ?_; rintro e w9 ⟨rfl, rfl⟩) | (go_at_call_of 18 (w.heap.size); refine (unhide C18p _ (unhide HTwo)).mono ?_; rintro e w9 ⟨rfl, rfl⟩) | (go_at_call 26; refine (unhide D26 _ _ _ _ _ (unhide HVP) (unhide HVQ2)).mono ?_; rintro e w9 ⟨rfl, hs9⟩; replace HTwo := hide ((unhide HTwo).same hs9); clear hs9))
                go_ret
                exact ⟨rfl, (unhide HTwo).below⟩
              · have hq : Q.vals ≠ [] := fun h => by have := (unhide HQV).2 h; omega
                have hpq := unhide HPQ hq
                have D26 := hide (fun (w1 : World) (va vb : Option Addr) (vc vd : Nat) (h1 : View w1 (.slice va pv vc) P F2) (h2 : View w1 (.slice vb qv vd) Q G) => (unhide C26 hq w1 va vb vc vd h1 h2).2)
                rw [← hpv, ← hqv] at hpq
                have epl : pl = sl := by have := unhide HPL; omega
                subst hpq epl
                clear hsl hql hpl hpv hqv hwl HPL HQV HVQ HPV0 HPV1 HPQ C26 hq
                go_wp2_with (first | (go_at_call_of 11 (w.heap.size); refine (unhide C11p _ (unhide HTwo)).mono ?_; rintro e w9 ⟨rfl, ht9⟩; replace HTwo := hide ht9; clear ht9) | (go_at_call_of 11 (bq); refine (unhide C11q _ (unhide HTwo)).mono ?_; rintro e w9 ⟨rfl, ht9⟩; replace HTwo := hide ht9; clear ht9) | (go_at_call 12; refine (unhide C12 _ (unhide HTwo)).mono ?_; rintro e w9 ⟨rfl, rfl⟩) | (go_at_call 13; refine (unhide C13 _ (unhide HTwo)).mono ?_; rintro e w9 ⟨rfl, ht9⟩; replace HTwo := hide ht9; clear ht9) | (go_at_call 14; refine (unhide C14 _ (unhide HTwo)).mono ?_; rintro e w9 ⟨rfl, ht9⟩; replace HTwo := hide ht9; clear ht9) | (go_at_call 15; refine (unhide C15 _ (unhide HTwo)).mono ?_; rintro e w9 ⟨rfl, rfl⟩) | (go_at_call_of 17 (w.heap.size); refine (unhide C17p _ (unhide HTwo)).mono ?_; rintro e w9 ⟨va, vc, rfl, ht9, hv9⟩; replace HTwo := hide ht9; have HVP := hide hv9; clear ht9 hv9) | (go_at_call_of 17 (bq); refine (unhide C17q _ _ (unhide HTwo) (unhide HVP)).mono ?_; rintro e w9 ⟨vb, vd, rfl, ht9, hvq9, hvp9⟩; replace HTwo := hide ht9; replace HVP := hide hvp9; have HVQ2 := hide hvq9; clear ht9 hvq9 hvp9) | (go_at_call_of 28 (w.heap.size); obtain ⟨wa, wc, wb, wd, x1, x2, x3⟩ := unhide C28 _ (unhide HTwo); have X2 := hide x2; have X3 := hide x3; refine x1.mono ?_; rintro e w9 ⟨rfl, rfl⟩; clear x1 x2 x3) | (go_at_call_of 28 (bq); refine (unhide X2).mono ?_; rintro e w9 ⟨rfl, rfl⟩) | (go_at_call 27; refine (unhide X3).mono ?_; rintro e w9 ⟨rfl, hs9⟩; replace HTwo := hide ((unhide HTwo).same hs9); clear hs9) | (go_at_call_of 18 (bq); refine (unhide C18q _ (unhide HTwo)).mono ?_; rintro e w9 ⟨rfl, rfl⟩) | (go_at_call_of 18 (w.heap.size); refine (unhide C18p _ (unhide HTwo)).mono ?_; rintro e w9 ⟨rfl, rfl⟩) | (go_at_call 26; refine (unhide D26 _ _ _ _ _ (unhide HVP) (unhide HVQ2)).mono ?_; rintro e w9 ⟨rfl, hs9⟩; replace HTwo := hide ((unhide HTwo).same hs9); clear hs9))
                go_ret
                exact ⟨rfl, (unhide HTwo).below⟩
end Go.Proofs.Qxb6600929a
