/- The law FnNextChunkKeepsOrderWhereverCut, walked. -/
import Derived.Test.Qxb6600929aCuts
namespace Go.Proofs.Qxb6600929a
open Go.RowKit
set_option linter.unusedSimpArgs false
set_option linter.unusedVariables false

/-- The numbers of a round of the law's third loop. -/
theorem cut_nums {S : St} {n : Nat} {ns : List Int} (g : Cutty S n ns) {k : Nat} (hk : k < n) :
    inF S.vals k + (S.vals.getD k []).length ≤ ns.length ∧ inF S.vals (k + 1) = inF S.vals k + (S.vals.getD k []).length := by
  have hc := g.cnt
  have hm := inF_mono S.vals k (by omega)
  rw [g.flat] at hm
  exact ⟨hm, inF_step S.vals k (by omega)⟩

theorem cut_round {wr : World} {base b : Nat} {ds : List Int} {cuts : List Bool} {k : Nat} {F : List Nat} (h : RecS wr base b (cutFill ds cuts k).1 F) (hlt : k < ds.length) (h0 : 0 ≤ ds.getD k 0) (h1 : ds.getD k 0 ≤ 4294967295) (hl : ds.length ≤ 262144) :
    Calls Try.prog 10 #[.pointer (some ⟨b, 0, none⟩), .int .i64 (ds.getD k 0)] wr fun e w' => e = .returned (.bool (cutFill ds cuts k).1.fullB) ∧ ∃ F', RecS w' base b ((cutFill ds cuts k).1.addN (ds.getD k 0)) F' ∧ Step wr w' F F' := by
  obtain ⟨b1, b2, b3, b4⟩ := cut_bounds ds cuts k (by omega) hl
  exact add_narrow h _ h0 h1 b1 b2

theorem cut_next {wr : World} {base b : Nat} {ds : List Int} {cuts : List Bool} {k : Nat} {F : List Nat} (hlt : k < ds.length) (hl : ds.length ≤ 262144) (h : RecS wr base b ((cutFill ds cuts k).1.addN (ds.getD k 0)) F) :
    Calls Try.prog 22 #[.pointer (some ⟨b, 0, none⟩)] wr fun e w' => e = .returned (.tuple #[]) ∧ ∃ F', RecS w' base b ((cutFill ds cuts k).1.addN (ds.getD k 0)).next F' ∧ Step wr w' F F' := by
  have g := (cutFill_cutty ds cuts k (by omega)).addN (ds.getD k 0)
  obtain ⟨b1, b2, b3, b4⟩ := cut_bounds ds cuts k (by omega) hl
  have hc := g.cnt
  have hf := g.flat
  refine next22 h ?_ ?_
  · rw [hc]; split <;> omega
  · rw [hf]; simp; omega

theorem cutFill_yes (ds : List Int) (cuts : List Bool) (k : Nat) (h : cuts.getD k false = true) : (cutFill ds cuts (k + 1)).1 = ((cutFill ds cuts k).1.addN (ds.getD k 0)).next ∧ (cutFill ds cuts (k + 1)).2 = (if (cutFill ds cuts k).1.fullB then (cutFill ds cuts k).2 + 1 else (cutFill ds cuts k).2) + 1 := by
  simp only [cutFill, h, if_true]
  exact ⟨trivial, trivial⟩
theorem cutFill_no (ds : List Int) (cuts : List Bool) (k : Nat) (h : cuts.getD k false = false) : (cutFill ds cuts (k + 1)).1 = (cutFill ds cuts k).1.addN (ds.getD k 0) ∧ (cutFill ds cuts (k + 1)).2 = (if (cutFill ds cuts k).1.fullB then (cutFill ds cuts k).2 + 1 else (cutFill ds cuts k).2) := by
  simp only [cutFill, h]
  exact ⟨rfl, rfl⟩

set_option maxRecDepth 20000 in
set_option maxHeartbeats 4000000 in
theorem walk5 (a0 a1 : Option Addr) (c0 c1 : Nat) (ds : List Int) (cuts : List Bool) (w : World) (hrow : InRow .u32 w a0 ds) (hbo : InBools w a1 cuts) (hwf : ∀ n ∈ ds, (Lit.int .u32 n).wf = true)
    (hlen : ds.length ≤ 262144) (hcl : 4 * ds.length + cuts.length ≤ 1048576) :
    Calls Try.prog 5 #[.slice a0 ds.length c0, .slice a1 cuts.length c1] w fun e w' => e = .returned (.bool true) ∧ Below w.heap.size w w' := by
  have HR := hide hrow
  have HC := hide hbo
  have hb : ∀ j, j < ds.length → 0 ≤ ds.getD j 0 ∧ ds.getD j 0 ≤ 4294967295 := by
    intro j hj
    exact bounds_u32 (hwf (ds.getD j 0) (by simp [List.getD, hj]))
  have HB := hide hb
  clear hrow hb hwf hbo
  go_enter Try.func5, Try.ntmps5
  go_wp2_with (first | (go_at_call 21; refine (bytes21 _ _ _ _ _ _ _ (by omega)).mono ?_; rintro e w' ⟨rfl, rfl⟩))
  go_loop [5, 6] (fun mm i => ∃ k m : Nat, k ≤ ds.length ∧ m ≤ k ∧ i = .int .i64 k ∧ mm = .int .i64 m) (fun _ i => ds.length - (intOf i).toNat)
  case atStart => exact ⟨0, 0, Nat.zero_le _, Nat.le_refl _, rfl, rfl⟩
  case round =>
    obtain ⟨k, m, hk, hm, rfl, rfl⟩ := hrel
    by_cases hlt : k < ds.length ∧ k < cuts.length
    · obtain ⟨hl1, hl2⟩ := hlt
      obtain ⟨bb, off, rfl, hbb, hc⟩ := unhide HC (by omega)
      have hck := hc k hl2
      obtain ⟨x, hx⟩ : ∃ x, x = cuts.getD k false := ⟨_, rfl⟩
      rw [← hx] at hck
      clear hx hc
      cases x with
      | true =>
        go_wp2_with fail
        go_round
        case rel => exact ⟨k + 1, m + 1, by omega, by omega, by go_num, by go_num⟩
        case measure => simp [intOf]; omega
      | false =>
        go_wp2_with fail
        go_round
        case rel => exact ⟨k + 1, m, by omega, by omega, by go_num, rfl⟩
        case measure => simp [intOf]; omega
    · have hlt' : (k < ds.length ∧ cuts.length ≤ k) ∨ ds.length ≤ k := by omega
      clear hlt
      by_cases hm64 : 64 < m
      · rcases hlt' with ⟨h1, h2⟩ | h1
        all_goals
          go_wp2_with fail
          go_ret
          exact ⟨rfl, Below.refl _ _⟩
      · rcases hlt' with ⟨h1, h2⟩ | h1
        all_goals
          go_wp2_with fail
          clear hm64 h1 hk hm
          go_loopw [9, 10] (fun cc i wr => ∃ k : Nat, k ≤ ds.length ∧ i = .int .i64 k ∧ cc = .int .i64 (cutFill ds cuts k).2 ∧ ∃ F, RecS wr w.heap.size w.heap.size (cutFill ds cuts k).1 F ∧ Below w.heap.size w wr) (fun _ i _ => ds.length - (intOf i).toNat)
          case atStart => exact ⟨0, Nat.zero_le _, rfl, rfl, _, rec_made w, (Below.refl _ _).alloc (Nat.le_refl _) _⟩
          case round =>
            obtain ⟨k, hk, rfl, rfl, F, hrec, hbel⟩ := hrel
            have HRec := hide hrec
            have HBel := hide hbel
            have hbnd := (cut_bounds ds cuts k hk hlen).2.2.2
            by_cases hlt : k < ds.length
            · obtain ⟨bb, off, rfl, hbb, hc⟩ := (unhide HR).below hbel (by omega)
              have hck := hc k hlt
              have hbk := unhide HB k hlt
              have HStep := hide (cut_round hrec hlt hbk.1 hbk.2 hlen)
              have HNext : Hid (∀ wr' F', RecS wr' w.heap.size w.heap.size ((cutFill ds cuts k).1.addN (ds.getD k 0)) F' → Calls Try.prog 22 #[.pointer (some ⟨w.heap.size, 0, none⟩)] wr' fun e w' => e = .returned (.tuple #[]) ∧ ∃ F'', RecS w' w.heap.size w.heap.size ((cutFill ds cuts k).1.addN (ds.getD k 0)).next F'' ∧ Step wr' w' F' F'') :=
                fun wr' F' h => cut_next hlt hlen h
              have HY := hide (cutFill_yes ds cuts k)
              have HN := hide (cutFill_no ds cuts k)
              obtain ⟨x, hx⟩ : ∃ x, x = ds.getD k 0 := ⟨_, rfl⟩
              rw [← hx] at hck hbk HStep HNext HY HN
              obtain ⟨fb, hfb⟩ : ∃ fb, fb = (cutFill ds cuts k).1.fullB := ⟨_, rfl⟩
              obtain ⟨cn, hcn⟩ : ∃ cn, cn = (cutFill ds cuts k).2 := ⟨_, rfl⟩
              rw [← hfb, ← hcn] at HY HN
              rw [← hfb] at HStep
              rw [← hcn] at hbnd
              rw [← hcn]
              have hx0 := hbk.1
              have hx1 := hbk.2
              clear hx hc hrec hbel hfb hcn hbk
              have hcase : (k < cuts.length ∧ cuts.getD k false = true) ∨ (k < cuts.length ∧ cuts.getD k false = false) ∨ cuts.length ≤ k := by
                by_cases e : k < cuts.length
                · cases h : cuts.getD k false
                  · exact .inr (.inl ⟨e, rfl⟩)
                  · exact .inl ⟨e, rfl⟩
                · exact .inr (.inr (by omega))
              have ecut : cuts.length ≤ k → cuts.getD k false = false := fun e => by simp [List.getD, e]
              rcases hcase with ⟨e1, e2⟩ | ⟨e1, e2⟩ | e1
              · obtain ⟨y1, y2⟩ := unhide HY e2
                have Y1 := hide y1
                have Y2 := hide y2
                clear y1 y2 HN HY ecut
                cases fb
                all_goals
                  go_wp2_with (first | (go_at_call 10; refine (unhide HStep).mono ?_; rintro e w2 ⟨rfl, F2, hr2, st2⟩; have HR2 := hide hr2; have HB2 := hide ((unhide HBel).trans ((unhide HRec).stepBelow st2)); clear hr2 st2; obtain ⟨cb, coff, rfl, hcbb, hcc⟩ := (unhide HC).below (unhide HB2) (by omega); have hcck := hcc k e1; rw [e2] at hcck; clear hcc) | (go_at_call 22; refine (unhide HNext _ _ (unhide HR2)).mono ?_; rintro e w3 ⟨rfl, F3, hr3, st3⟩; have HR3 := hide hr3; have HB3 := hide ((unhide HB2).trans ((unhide HR2).stepBelow st3)); clear hr3 st3))
                  go_roundw
                  case rel => exact ⟨k + 1, by omega, by go_num, by rw [unhide Y2]; go_num, F3, by rw [unhide Y1]; exact unhide HR3, unhide HB3⟩
                  case measure => simp [intOf]; omega
              · obtain ⟨y1, y2⟩ := unhide HN e2
                have Y1 := hide y1
                have Y2 := hide y2
                clear y1 y2 HN HY ecut HNext
                cases fb
                all_goals
                  go_wp2_with (first | (go_at_call 10; refine (unhide HStep).mono ?_; rintro e w2 ⟨rfl, F2, hr2, st2⟩; have HR2 := hide hr2; have HB2 := hide ((unhide HBel).trans ((unhide HRec).stepBelow st2)); clear hr2 st2; obtain ⟨cb, coff, rfl, hcbb, hcc⟩ := (unhide HC).below (unhide HB2) (by omega); have hcck := hcc k e1; rw [e2] at hcck; clear hcc))
                  go_roundw
                  case rel => exact ⟨k + 1, by omega, by go_num, by rw [unhide Y2]; go_num, F2, by rw [unhide Y1]; exact unhide HR2, unhide HB2⟩
                  case measure => simp [intOf]; omega
              · obtain ⟨y1, y2⟩ := unhide HN (ecut e1)
                have Y1 := hide y1
                have Y2 := hide y2
                clear y1 y2 HN HY ecut HNext
                cases fb
                all_goals
                  go_wp2_with (first | (go_at_call 10; refine (unhide HStep).mono ?_; rintro e w2 ⟨rfl, F2, hr2, st2⟩; have HR2 := hide hr2; have HB2 := hide ((unhide HBel).trans ((unhide HRec).stepBelow st2)); clear hr2 st2))
                  go_roundw
                  case rel => exact ⟨k + 1, by omega, by go_num, by rw [unhide Y2]; go_num, F2, by rw [unhide Y1]; exact unhide HR2, unhide HB2⟩
                  case measure => simp [intOf]; omega
            · obtain rfl : k = ds.length := by omega
              have g := cutFill_cutty ds cuts ds.length (Nat.le_refl _)
              rw [List.take_length] at g
              have hbs := cut_bounds ds cuts ds.length (Nat.le_refl _) hlen
              have hx : ∀ x, x ∈ (cutFill ds cuts ds.length).1.vals.flatten → 0 ≤ x ∧ x ≤ 4294967295 := by
                intro x hx
                rw [g.flat] at hx
                obtain ⟨i, hi, he⟩ := List.getElem_of_mem hx
                have h0 := unhide HB i hi
                simpa [List.getD, hi, he] using h0
              obtain ⟨S, hS⟩ : ∃ S, S = (cutFill ds cuts ds.length).1 := ⟨_, rfl⟩
              obtain ⟨N, hN⟩ : ∃ N, N = (cutFill ds cuts ds.length).2 := ⟨_, rfl⟩
              rw [← hS, ← hN] at g hbs
              rw [← hS] at hrec hx HRec
              rw [← hN]
              have hN6 := hbs.2.2.2
              have HV := hide (view17 hrec hbs.1)
              have hcnt := g.cnt
              have hvl := g.vlen
              have HNl : Hid (∀ w', RecS w' w.heap.size w.heap.size S F → Calls Try.prog 14 #[.pointer (some ⟨w.heap.size, 0, none⟩)] w' fun e w'' => e = .returned (.int .i64 ds.length) ∧ Same w' w'') := by
                intro w' hr
                have := nlen_any hr (by rw [g.nlen]; omega)
                rw [g.nlen] at this
                exact this
              have HCnt : Hid (∀ w', RecS w' w.heap.size w.heap.size S F → Calls Try.prog 18 #[.pointer (some ⟨w.heap.size, 0, none⟩)] w' fun e w'' => e = .returned (.int .i64 N) ∧ w' = w'') := by
                intro w' hr
                have := count_any hr
                rw [hcnt] at this
                exact this
              have HFul : Hid (∀ w', RecS w' w.heap.size w.heap.size S F → Calls Try.prog 19 #[.pointer (some ⟨w.heap.size, 0, none⟩)] w' fun e w'' => e = .returned (.int .i64 S.full) ∧ w' = w'') := fun w' hr => full_any hr
              have HInf : Hid (∀ w', RecS w' w.heap.size w.heap.size S F → Calls Try.prog 20 #[.pointer (some ⟨w.heap.size, 0, none⟩)] w' fun e w'' => e = .returned (.int .i64 (inF S.vals S.full)) ∧ w' = w'') := fun w' hr => inFull_any hr
              have HSum : Hid (∀ w', RecS w' w.heap.size w.heap.size S F → Calls Try.prog 11 #[.pointer (some ⟨w.heap.size, 0, none⟩)] w' fun e w'' => e = .returned (.int .i64 ds.sum) ∧ RecS w'' w.heap.size w.heap.size S F ∧ Step w' w'' F F) := by
                intro w' hr
                have := sum11 hr hbs.1 hbs.2.1 hbs.2.2.1 hx
                rw [g.flat, g.wide, List.sum_nil, Int.add_zero] at this
                have hpb := psum_bounds ds (by rw [← g.flat]; exact hx) (by omega) ds.length (Nat.le_refl _)
                rw [psum_all] at hpb
                rw [wrap64_id ds.sum hpb.1 (by omega)] at this
                exact this
              have G := hide g
              have HVL := hide hvl
              clear g hrec hbs hS hN hbel hx hcnt hvl hk hlt hbnd
              go_wp2_with (first | (go_at_call 17; refine (unhide HV).mono ?_; rintro e w1 ⟨v, rfl, hrec1, st1, hview⟩; obtain ⟨va, vc, rfl, hvl, hvw⟩ := hview.rows; rw [unhide HVL] at hvl hvw; rw [unhide HVL]; have HV1 := hide hvw; have HRec1 := hide hrec1; have HB1 := hide ((unhide HBel).trans ((unhide HRec).stepBelow st1)); clear hvw hview hrec1 st1) | (go_at_call 18; refine (unhide HCnt _ (unhide HRec1)).mono ?_; rintro e w' ⟨rfl, rfl⟩))
              go_loopw [12, 13, 14, 15] (fun pp ff c kk wr => ∃ k : Nat, k ≤ N ∧ pp = .int .i64 (inF S.vals k) ∧ ff = .int .i64 (inF S.vals (min k (N - 1))) ∧ c = .int .i64 (capOf k) ∧ kk = .int .i64 k ∧ Same w1 wr) (fun _ _ _ kk _ => N - (intOf kk).toNat)
              case atStart => exact ⟨0, Nat.zero_le _, rfl, by rw [Nat.zero_min]; rfl, rfl, rfl, Same.refl _⟩
              case round =>
                obtain ⟨k, hk, rfl, rfl, rfl, rfl, hsame⟩ := hrel
                by_cases hlt : k < N
                · obtain ⟨p3, p4⟩ := cut_nums (unhide G) hlt
                  obtain ⟨cb, blks, rfl, q1, q2⟩ := unhide HV1 (by omega)
                  have qc := (hsame.cell ⟨cb, k, none⟩).trans (q1 k hlt)
                  have qj := q2 k hlt
                  rw [(unhide G).flat] at qj
                  have hmin : min k (N - 1) = k := by omega
                  have hminS : k + 1 < N → min (k + 1) (N - 1) = k + 1 := fun h => by omega
                  have hminL : N ≤ k + 1 → min (k + 1) (N - 1) = k := fun h => by omega
                  rw [hmin]
                  obtain ⟨bk, hbk⟩ : ∃ bk, bk = List.getD blks k 0 := ⟨_, rfl⟩
                  obtain ⟨L, hL⟩ : ∃ L, L = (S.vals.getD k []).length := ⟨_, rfl⟩
                  obtain ⟨s, hs⟩ : ∃ s, s = inF S.vals k := ⟨_, rfl⟩
                  obtain ⟨c, hc⟩ : ∃ c, c = capOf k := ⟨_, rfl⟩
                  have hclo := capOf_lo k
                  have hchi := capOf_hi k
                  have hcs := capOf_step k
                  rw [← hbk, ← hL, ← hc] at qc
                  rw [← hbk, ← hL, ← hs] at qj
                  rw [← hL, ← hs] at p3 p4
                  rw [← hc] at hclo hchi hcs
                  rw [← hc, ← hs]
                  obtain ⟨ci, hci⟩ : ∃ ci : Int, ci = (c : Int) := ⟨_, rfl⟩
                  rw [← hci]
                  have hci1 : ci ≤ (c : Int) := by omega
                  have hci2 : (c : Int) ≤ ci := by omega
                  have HCI := hide hci
                  have HS' := hide hs
                  have QJ := hide qj
                  have P4 := hide p4
                  have HCS := hide hcs
                  have HSm := hide hsame
                  have HMS := hide hminS
                  have HML := hide hminL
                  clear hci hbk hL hs hc q1 q2 qj p4 hcs hsame hmin hminS hminL
                  have hcr : ci < 65536 ∨ 65536 ≤ ci := by omega
                  have hkr : k + 1 < N ∨ N ≤ k + 1 := by omega
                  go_wp2_with fail
                  go_loopw [17] (fun jj wr2 => ∃ i : Nat, i ≤ L ∧ jj = .int .i64 i ∧ Same w1 wr2) (fun jj _ => L - (intOf jj).toNat)
                  case atStart => exact ⟨0, Nat.zero_le _, rfl, unhide HSm⟩
                  case round =>
                    obtain ⟨i, hi, rfl, hsm2⟩ := hrel
                    have HS2 := hide hsm2
                    by_cases hil : i < L
                    · obtain ⟨bb, off, rfl, hbb, hcc⟩ := (unhide HR).below (unhide HB1) (by omega)
                      have hd1 := (hsm2.cell _).trans (hcc (s + i) (by omega))
                      have hd2 := (hsm2.cell _).trans (unhide QJ i hil)
                      clear hcc hsm2
                      go_wp2_with fail
                      go_quiet (fail)
                      go_wp2_with fail
                      go_roundw
                      case rel => exact ⟨i + 1, by omega, by go_num, (unhide HS2).trans (same_drewN _ _)⟩
                      case measure => simp [intOf]; omega
                    · clear hsm2
                      rcases hkr with hkr | hkr
                      all_goals
                        rcases hcr with hcr | hcr
                        all_goals
                          go_wp2_with fail
                          go_roundw
                          case rel => exact ⟨k + 1, by omega, by rw [unhide P4]; go_num, by first | (rw [unhide HMS hkr, unhide P4]; go_num) | (rw [unhide HML hkr, ← unhide HS']), by rw [unhide HCS]; first | (rw [if_pos (by omega), unhide HCI]; go_num) | (rw [if_neg (by omega), unhide HCI]), by go_num, unhide HS2⟩
                          case measure => simp [intOf]; omega
                · obtain rfl : k = N := by omega
                  have hin : inF S.vals k = ds.length := by rw [inF_all _ _ (by have := (unhide G).cnt; omega), (unhide G).flat]
                  have hr2 := (unhide HRec1).same hsame
                  have hbw := (unhide HB1).trans (hsame.below w.heap.size)
                  have hful : 0 < k → S.full + 1 = k := fun h => by
                    have hc := (unhide G).cnt
                    rw [← hc]
                    exact (unhide G).last (by intro e; rw [e] at hc; simp at hc; omega)
                  have hmi : 0 < k → min k (k - 1) = S.full := fun h => by have := hful h; omega
                  have hxx : ∀ j, j < ds.length → 0 ≤ ds.getD j 0 ∧ ds.getD j 0 ≤ 4294967295 := unhide HB
                  have hpb : ∀ m, m ≤ ds.length → 0 ≤ psum ds m ∧ psum ds m ≤ 4294967295 * (m : Int) := fun m hm => psum_bounds ds (by
                    intro x hx
                    obtain ⟨i, hi, he⟩ := List.getElem_of_mem hx
                    simpa [List.getD, hi, he] using hxx i hi) (by omega) m hm
                  rw [hin]
                  obtain ⟨c, hc⟩ : ∃ c : Int, c = (capOf k : Int) := ⟨_, rfl⟩
                  rw [← hc]
                  obtain ⟨iq, hiq⟩ : ∃ iq : Nat, iq = inF S.vals (min k (k - 1)) := ⟨_, rfl⟩
                  rw [← hiq]
                  have hiq2 : 0 < k → inF S.vals S.full = iq := fun h => by rw [hiq, hmi h]
                  obtain ⟨fq, hfq⟩ : ∃ fq : Nat, fq = inF S.vals S.full := ⟨_, rfl⟩
                  rw [← hfq] at hiq2 HInf
                  have HIQ := hide hiq2
                  have HFU := hide hful
                  have HPB := hide hpb
                  have HR2 := hide hr2
                  have HBW := hide hbw
                  clear hin hr2 hbw hful hmi hxx hpb hc hiq hiq2 hfq hk hlt hsame
                  have hcase : k = 0 ∨ 0 < k := by omega
                  rcases hcase with hk0 | hk0
                  · subst hk0
                    go_wp2_with (first | (go_at_call 14; refine (unhide HNl _ (unhide HR2)).mono ?_; rintro e w3 ⟨rfl, hs3⟩; have HS3 := hide hs3; clear hs3))
                    have hrow3 := (unhide HR).below ((unhide HBW).trans ((unhide HS3).below _))
                    have hr3 := (unhide HR2).same (unhide HS3)
                    have HR3 := hide hrow3
                    have HSum3 := hide (unhide HSum _ hr3)
                    have HRC3 := hide hr3
                    clear hrow3 hr3
                    go_loop [18, 19] (fun t i => ∃ j : Nat, j ≤ ds.length ∧ i = .int .i64 j ∧ t = .int .i64 (psum ds j)) (fun _ i => ds.length - (intOf i).toNat)
                    case atStart => exact ⟨0, Nat.zero_le _, rfl, rfl⟩
                    case round =>
                      obtain ⟨j, hj, rfl, rfl⟩ := hrel
                      by_cases hjl : j < ds.length
                      · obtain ⟨bb, off, rfl, hbb, hc⟩ := unhide HR3 (by omega)
                        have hck := hc j hjl
                        have hb := unhide HB j hjl
                        have hps := psum_step ds j hjl
                        have hpbj := unhide HPB j (by omega)
                        obtain ⟨x, hx⟩ : ∃ x, x = ds.getD j 0 := ⟨_, rfl⟩
                        obtain ⟨p, hp⟩ : ∃ p, p = psum ds j := ⟨_, rfl⟩
                        rw [← hx] at hck hps hb
                        rw [← hp] at hps hpbj
                        rw [← hp]
                        have hp1 := hpbj.1
                        have hp2 : p ≤ 4294967295000000 := by omega
                        have hb1 := hb.1
                        have hb2 := hb.2
                        have HPS := hide hps
                        clear hx hc hp hps hb hpbj
                        go_wp2_with fail
                        go_round
                        case rel => exact ⟨j + 1, by omega, by go_num, by rw [unhide HPS]⟩
                        case measure => simp [intOf]; omega
                      · obtain rfl : j = ds.length := by omega
                        rw [psum_all]
                        obtain ⟨T, hT⟩ : ∃ T, T = ds.sum := ⟨_, rfl⟩
                        rw [← hT] at HSum3
                        rw [← hT]
                        clear hT
                        go_wp2_with (first | (go_at_call 11; refine (unhide HSum3).mono ?_; rintro e w4 ⟨rfl, hr4, st4⟩))
                        go_ret
                        exact ⟨rfl, ((unhide HBW).trans ((unhide HS3).below _)).trans ((unhide HRC3).stepBelow st4)⟩
                  · have e1 := unhide HIQ hk0
                    have e2 := unhide HFU hk0
                    subst e1
                    have e3 : (S.full : Int) ≤ (k : Int) - 1 := by omega
                    have e4 : (k : Int) - 1 ≤ (S.full : Int) := by omega
                    clear e2
                    go_wp2_with (first | (go_at_call 14; refine (unhide HNl _ (unhide HR2)).mono ?_; rintro e w3 ⟨rfl, hs3⟩; have HS3 := hide hs3; clear hs3) | (go_at_call 19; refine (unhide HFul _ ((unhide HR2).same (unhide HS3))).mono ?_; rintro e w' ⟨rfl, rfl⟩) | (go_at_call 20; refine (unhide HInf _ ((unhide HR2).same (unhide HS3))).mono ?_; rintro e w' ⟨rfl, rfl⟩))
                    have hrow3 := (unhide HR).below ((unhide HBW).trans ((unhide HS3).below _))
                    have hr3 := (unhide HR2).same (unhide HS3)
                    have HR3 := hide hrow3
                    have HSum3 := hide (unhide HSum _ hr3)
                    have HRC3 := hide hr3
                    clear hrow3 hr3
                    go_loop [18, 19] (fun t i => ∃ j : Nat, j ≤ ds.length ∧ i = .int .i64 j ∧ t = .int .i64 (psum ds j)) (fun _ i => ds.length - (intOf i).toNat)
                    case atStart => exact ⟨0, Nat.zero_le _, rfl, rfl⟩
                    case round =>
                      obtain ⟨j, hj, rfl, rfl⟩ := hrel
                      by_cases hjl : j < ds.length
                      · obtain ⟨bb, off, rfl, hbb, hc⟩ := unhide HR3 (by omega)
                        have hck := hc j hjl
                        have hb := unhide HB j hjl
                        have hps := psum_step ds j hjl
                        have hpbj := unhide HPB j (by omega)
                        obtain ⟨x, hx⟩ : ∃ x, x = ds.getD j 0 := ⟨_, rfl⟩
                        obtain ⟨p, hp⟩ : ∃ p, p = psum ds j := ⟨_, rfl⟩
                        rw [← hx] at hck hps hb
                        rw [← hp] at hps hpbj
                        rw [← hp]
                        have hp1 := hpbj.1
                        have hp2 : p ≤ 4294967295000000 := by omega
                        have hb1 := hb.1
                        have hb2 := hb.2
                        have HPS := hide hps
                        clear hx hc hp hps hb hpbj
                        go_wp2_with fail
                        go_round
                        case rel => exact ⟨j + 1, by omega, by go_num, by rw [unhide HPS]⟩
                        case measure => simp [intOf]; omega
                      · obtain rfl : j = ds.length := by omega
                        rw [psum_all]
                        obtain ⟨T, hT⟩ : ∃ T, T = ds.sum := ⟨_, rfl⟩
                        rw [← hT] at HSum3
                        rw [← hT]
                        clear hT
                        go_wp2_with (first | (go_at_call 11; refine (unhide HSum3).mono ?_; rintro e w4 ⟨rfl, hr4, st4⟩))
                        go_ret
                        exact ⟨rfl, ((unhide HBW).trans ((unhide HS3).below _)).trans ((unhide HRC3).stepBelow st4)⟩
end Go.Proofs.Qxb6600929a
