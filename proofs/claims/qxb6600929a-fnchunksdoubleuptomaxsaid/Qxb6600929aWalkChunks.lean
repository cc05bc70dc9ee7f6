/- The law FnChunksDoubleUpToMax, walked. -/
import Derived.Test.Qxb6600929aLaw
namespace Go.Proofs.Qxb6600929a
open Go.RowKit
set_option linter.unusedSimpArgs false
set_option linter.unusedVariables false
set_option maxHeartbeats 400000 in
theorem bytes16 (a0 : Option Addr) (len cap : Nat) (w : World) (h : len ≤ 1048576) :
    Calls Try.prog 16 #[.slice a0 len cap] w fun e w' => e = .returned (.bool true) ∧ w = w' := by
  go_enter Try.func16, Try.ntmps16
  go_wp2
  go_ret
  exact ⟨rfl, rfl⟩
set_option maxHeartbeats 400000 in
theorem bytes16_no (a0 : Option Addr) (len cap : Nat) (w : World) (h : 1048576 < len) :
    Calls Try.prog 16 #[.slice a0 len cap] w fun e w' => e = .returned (.bool false) ∧ w = w' := by
  go_enter Try.func16, Try.ntmps16
  go_wp2
  go_ret
  exact ⟨rfl, rfl⟩

theorem fill_snoc (ds : List Int) (k : Nat) (h : k < ds.length) : fill (ds.take (k + 1)) = (fill (ds.take k)).add (ds.getD k 0) := by
  rw [take_snoc ds k h]
  exact fillFrom_snoc _ _ _

theorem fill_bounds (ds : List Int) (k : Nat) (h : k ≤ ds.length) (hl : ds.length ≤ 262144) : (fill (ds.take k)).vals.length ≤ 1000000 ∧ (fill (ds.take k)).vals.flatten.length ≤ 1000000 ∧ (fill (ds.take k)).wide.length ≤ 1000000 := by
  have g := fill_greedy ds k h
  have h1 := g.count
  have h2 := narrows_len (ds.take k)
  have h3 := wides_len (ds.take k)
  have h4 : (ds.take k).length ≤ 262144 := by simp; omega
  rw [g.flat, g.wide]
  omega

theorem round_add {wr : World} {base b : Nat} {ds : List Int} {k : Nat} {F : List Nat} (h : RecS wr base b (fill (ds.take k)) F) (hlt : k < ds.length) (h0 : 0 ≤ ds.getD k 0) (hl : ds.length ≤ 262144) :
    Calls Try.prog 10 #[.pointer (some ⟨b, 0, none⟩), .int .i64 (ds.getD k 0)] wr fun e w' => e = .returned (.bool ((fill (ds.take k)).moved (ds.getD k 0))) ∧ ∃ F', RecS w' base b ((fill (ds.take k)).add (ds.getD k 0)) F' ∧ Step wr w' F F' := by
  obtain ⟨h1, h2, h3⟩ := fill_bounds ds k (by omega) hl
  exact add_any h _ h0 h1 h2 h3


theorem View.greedy {w : World} {v : Value} {S : St} {F : List Nat} {ns ws : List Int} (h : View w v S F) (g : Greedy S ns ws) :
    ∃ va vc, v = .slice va S.vals.length vc ∧ (0 < S.vals.length → ∃ cb blks, va = some ⟨cb, 0, none⟩ ∧
      (∀ k, k < S.vals.length → w.cell? ⟨cb, k, none⟩ = some (.slice (some ⟨List.getD blks k 0, 0, none⟩) (S.vals.getD k []).length (capOf k))) ∧
      (∀ k, k < S.vals.length → ∀ j, j < (S.vals.getD k []).length → w.cell? ⟨List.getD blks k 0, j, none⟩ = some (.int .u32 (ns.getD (inF S.vals k + j) 0)))) := by
  rcases h with ⟨h1, h2⟩ | ⟨h1, h1', cb, cap, blks, h2, h3, h4, h5, h6, h7, h8, h9, h10⟩
  · exact ⟨none, 0, by rw [h2, h1]; rfl, fun hp => by rw [h1] at hp; simp at hp⟩
  · have hl := g.last h1
    refine ⟨_, cap, by rw [h2, hl], fun _ => ⟨cb, blks, rfl, fun k hk => h7 k (by omega), fun k hk j hj => ?_⟩⟩
    rw [h10 k (by omega) j hj, ← g.flat, flat_getD S.vals k j hk hj]

/-- The numbers of a round of the law's second loop. -/
theorem round_nums {S : St} {ns ws : List Int} (g : Greedy S ns ws) {k : Nat} (hk : k < S.vals.length) :
    0 < (S.vals.getD k []).length ∧ (S.vals.getD k []).length ≤ capOf k ∧ inF S.vals k + (S.vals.getD k []).length ≤ ns.length ∧ inF S.vals (k + 1) = inF S.vals k + (S.vals.getD k []).length ∧
    (capOf k < ns.length - inF S.vals k → (S.vals.getD k []).length = capOf k) ∧ (ns.length - inF S.vals k ≤ capOf k → (S.vals.getD k []).length = ns.length - inF S.vals k) := by
  have hv : S.vals ≠ [] := by intro e; rw [e] at hk; simp at hk
  have hl := g.last hv
  have hm := inF_mono S.vals k hk
  rw [g.flat] at hm
  have hs := inF_step S.vals k hk
  by_cases e : k = S.full
  · have hc := g.lastc hv
    rw [← e] at hc
    have ha := inF_all S.vals (k + 1) (by omega)
    rw [g.flat, hs] at ha
    exact ⟨hc.1, hc.2, hm, hs, fun h => by omega, fun h => by omega⟩
  · have hc := g.caps k (by omega)
    have hlo := capOf_lo k
    refine ⟨by omega, by omega, hm, hs, fun _ => hc, fun h => by omega⟩

set_option maxRecDepth 20000 in
set_option maxHeartbeats 2000000 in
theorem walk4 (a0 : Option Addr) (cap0 : Nat) (ds : List Int) (w : World) (hrow : InRow .u32 w a0 ds) (hwf : ∀ n ∈ ds, (Lit.int .u32 n).wf = true) (hlen : ds.length ≤ 262144) :
    Calls Try.prog 4 #[.slice a0 ds.length cap0] w fun e w' => e = .returned (.bool true) ∧ Below w.heap.size w w' := by
  have HR := hide hrow
  have hb : ∀ j, j < ds.length → 0 ≤ ds.getD j 0 ∧ ds.getD j 0 ≤ 4294967295 := by
    intro j hj
    exact bounds_u32 (hwf (ds.getD j 0) (by simp [List.getD, hj]))
  have HB := hide hb
  clear hrow hb hwf
  go_enter Try.func4, Try.ntmps4
  go_wp2_with (first | (go_at_call 16; refine (bytes16 _ _ _ _ (by omega)).mono ?_; rintro e w' ⟨rfl, rfl⟩))
  go_loopw [5] (fun i wr => ∃ k : Nat, k ≤ ds.length ∧ i = .int .i64 k ∧ ∃ F, RecS wr w.heap.size w.heap.size (fill (ds.take k)) F ∧ Below w.heap.size w wr) (fun i _ => ds.length - (intOf i).toNat)
  case atStart => exact ⟨0, Nat.zero_le _, rfl, _, rec_made w, (Below.refl _ _).alloc (Nat.le_refl _) _⟩
  case round =>
    obtain ⟨k, hk, rfl, F, hrec, hbel⟩ := hrel
    have HRec := hide hrec
    have HBel := hide hbel
    by_cases hlt : k < ds.length
    · obtain ⟨bb, off, rfl, hbb, hc⟩ := (unhide HR).below hbel (by omega)
      have hck := hc k hlt
      have hbk := unhide HB k hlt
      have HStep := hide (round_add hrec hlt hbk.1 hlen)
      have HE : Hid (∃ x, x = ds.getD k 0) := ⟨_, rfl⟩
      obtain ⟨x, hx⟩ := unhide HE
      rw [← hx] at hck hbk HStep
      have HX := hide hx
      clear hx hc hrec hbel
      go_wp2_with (first | (go_at_call 10; refine (unhide HStep).mono ?_; rintro e w' ⟨rfl, F', hrec', st'⟩))
      go_roundw
      case rel =>
        have hr := unhide HRec
        exact ⟨k + 1, by omega, by go_num, F', by rw [fill_snoc ds k hlt, ← unhide HX]; exact hrec', (unhide HBel).trans (hr.stepBelow st')⟩
      case measure => simp [intOf]; omega
    · have e : k = ds.length := by omega
      subst e
      rw [List.take_length] at hrec HRec
      have g := fill_greedy_all ds
      have hall : ∀ x, x ∈ ds → x ≤ 4294967295 := fun x hx => by
        obtain ⟨i, hi, he⟩ := List.getElem_of_mem hx
        have := (unhide HB i hi).2
        simpa [List.getD, hi, he] using this
      rw [narrows_all ds hall, wides_none ds hall] at g
      have hbs := fill_bounds ds ds.length (Nat.le_refl _) hlen
      rw [List.take_length] at hbs
      obtain ⟨S, hS⟩ : ∃ S, S = fill ds := ⟨_, rfl⟩
      rw [← hS] at g hrec hbs
      have HV := hide (view17 hrec hbs.1)
      have hcount := g.count
      have hnl := g.nlen
      have G := hide g
      have HRecS := hide hrec
      have HNL := hide hnl
      have HAll := hide hall
      clear g hnl hrec hbs hS hbel HRec hall
      go_wp2_with (first | (go_at_call 17; refine (unhide HV).mono ?_; rintro e w1 ⟨v, rfl, hrec1, st1, hview⟩; obtain ⟨va, vc, rfl, hvw⟩ := hview.greedy (unhide G)))
      have HV1 := hide hvw
      have HVW := hide hview
      have HRec1 := hide hrec1
      have HBel1 : Hid (Below w.heap.size w w1) := (unhide HBel).trans ((unhide HRecS).stepBelow st1)
      clear hvw hview hrec1 st1
      go_loopw [8, 9, 10] (fun st kk c wr => ∃ k : Nat, k ≤ S.vals.length ∧ st = .int .i64 (inF S.vals k) ∧ kk = .int .i64 k ∧ c = .int .i64 (capOf k) ∧ Same w1 wr) (fun _ kk _ _ => S.vals.length - (intOf kk).toNat)
      case atStart => exact ⟨0, Nat.zero_le _, rfl, rfl, rfl, Same.refl _⟩
      case round =>
        obtain ⟨k, hk, rfl, rfl, rfl, hsame⟩ := hrel
        by_cases hlt : k < S.vals.length
        · obtain ⟨p1, p2, p3, p4, p5, p6⟩ := round_nums (unhide G) hlt
          obtain ⟨cb, blks, rfl, q1, q2⟩ := unhide HV1 (by omega)
          have qc := (hsame.cell ⟨cb, k, none⟩).trans (q1 k hlt)
          have qj := q2 k hlt
          obtain ⟨bk, hbk⟩ : ∃ bk, bk = List.getD blks k 0 := ⟨_, rfl⟩
          obtain ⟨L, hL⟩ : ∃ L, L = (S.vals.getD k []).length := ⟨_, rfl⟩
          obtain ⟨s, hs⟩ : ∃ s, s = inF S.vals k := ⟨_, rfl⟩
          obtain ⟨c, hc⟩ : ∃ c, c = capOf k := ⟨_, rfl⟩
          have hclo := capOf_lo k
          have hchi := capOf_hi k
          have hcs := capOf_step k
          rw [← hbk, ← hL, ← hc] at qc
          rw [← hbk, ← hL, ← hs] at qj
          rw [← hL, ← hc] at p2
          rw [← hL] at p1
          rw [← hL, ← hs] at p3 p4
          rw [← hL, ← hs, ← hc] at p5 p6
          rw [← hc] at hclo hchi hcs
          rw [← hc, ← hs]
          obtain ⟨ci, hci⟩ : ∃ ci : Int, ci = (c : Int) := ⟨_, rfl⟩
          rw [← hci]
          have hci1 : ci ≤ (c : Int) := by omega
          have hci2 : (c : Int) ≤ ci := by omega
          have HCI := hide hci
          clear hci
          have QJ := hide qj
          have P4 := hide p4
          have P5 := hide p5
          have P6 := hide p6
          have HCS := hide hcs
          have HSm := hide hsame
          clear hbk hL hs hc q1 q2 qj p4 p5 p6 hcs hsame
          have hLr : (c < ds.length - s ∧ L ≤ c ∧ c ≤ L) ∨ (ds.length - s ≤ c ∧ L + s ≤ ds.length ∧ ds.length ≤ L + s) := by
            by_cases hw : c < ds.length - s
            · exact .inl ⟨hw, by have := unhide P5 hw; omega, by have := unhide P5 hw; omega⟩
            · exact .inr ⟨by omega, by have := unhide P6 (by omega); omega, by have := unhide P6 (by omega); omega⟩
          have hcr : ci < 65536 ∨ 65536 ≤ ci := by omega
          rcases hLr with ⟨hw, hl1, hl2⟩ | ⟨hw, hl1, hl2⟩
          all_goals
            go_wp2_with fail
            go_loopw [13] (fun jj wr2 => ∃ i : Nat, i ≤ L ∧ jj = .int .i64 i ∧ Same w1 wr2) (fun jj _ => L - (intOf jj).toNat)
            case atStart => exact ⟨0, Nat.zero_le _, rfl, unhide HSm⟩
            case round =>
              obtain ⟨i, hi, rfl, hsm2⟩ := hrel
              have HS2 := hide hsm2
              by_cases hil : i < L
              · obtain ⟨bb, off, rfl, hbb, hcc⟩ := (unhide HR).below (unhide HBel1) (by omega)
                have hd1 := (hsm2.cell _).trans (hcc (s + i) (by omega))
                have hd2 := (hsm2.cell _).trans (unhide QJ i hil)
                clear hcc hsm2
                go_wp2_with fail
                go_quiet (fail)
                go_wp2_with fail
                go_roundw
                case rel => exact ⟨i + 1, by omega, by go_num, (unhide HS2).trans (same_drewN _ _)⟩
                case measure => simp [intOf]; omega
              · clear hsm2
                rcases hcr with hcr | hcr
                all_goals
                  go_wp2_with fail
                  go_roundw
                  case rel => exact ⟨k + 1, by omega, by rw [unhide P4]; go_num, by go_num, by rw [unhide HCS]; first | (rw [if_pos (by omega), unhide HCI]; go_num) | (rw [if_neg (by omega), unhide HCI]), unhide HS2⟩
                  case measure => simp [intOf]; omega
        · obtain rfl : k = S.vals.length := by omega
          have hin : inF S.vals S.vals.length = ds.length := by rw [inF_all _ _ (Nat.le_refl _), (unhide G).flat]
          rw [hin]
          have hr2 := (unhide HRec1).same hsame
          have HCnt := hide (count_any hr2)
          have hnl2 := nlen_any hr2 (by rw [unhide HNL]; omega)
          rw [unhide HNL] at hnl2
          have HNl := hide hnl2
          clear hnl2
          have HFin : Hid (∀ n, Below w.heap.size w (wr.drewN n)) := fun n => (unhide HBel1).trans ((hsame.trans (same_drewN _ n)).below _)
          have HR2 := hide hr2
          have HSm := hide hsame
          clear hr2 hsame hin hk hlt
          obtain ⟨c, hc⟩ : ∃ c : Int, c = (capOf S.vals.length : Int) := ⟨_, rfl⟩
          rw [← hc]
          clear hc
          by_cases hpos : 0 < S.vals.length
          · have hv : S.vals ≠ [] := by intro e; rw [e] at hpos; simp at hpos
            have hfl := (unhide G).last hv
            obtain ⟨p1, p2, p3, p4, p5, p6⟩ := round_nums (unhide G) (k := S.full) (by omega)
            have p7 : inF S.vals S.full + (S.vals.getD S.full []).length = ds.length := by
              rw [← p4, inF_all _ _ (by omega), (unhide G).flat]
            obtain ⟨cb, blks, rfl, q1, q2⟩ := unhide HV1 hpos
            have qf := q1 S.full (by omega)
            obtain ⟨L, hL⟩ : ∃ L, L = (S.vals.getD S.full []).length := ⟨_, rfl⟩
            obtain ⟨ii, hii⟩ : ∃ ii, ii = inF S.vals S.full := ⟨_, rfl⟩
            obtain ⟨ff, hff⟩ : ∃ ff, ff = S.full := ⟨_, rfl⟩
            obtain ⟨bk, hbk⟩ : ∃ bk, bk = List.getD blks S.full 0 := ⟨_, rfl⟩
            obtain ⟨ck, hck⟩ : ∃ ck, ck = capOf S.full := ⟨_, rfl⟩
            have c19 : ∀ w2, Same wr w2 → ∀ n, Calls Try.prog 19 #[.pointer (some ⟨w.heap.size, 0, none⟩)] (World.drewN w2 n) fun e w'' => e = .returned (.int .i64 ff) ∧ ∃ m, w'' = World.drewN w2 m := by
              intro w2 hs n
              rw [hff]
              refine (full_any ((unhide HR2).same (hs.trans (same_drewN _ n)))).mono ?_
              rintro e w' ⟨rfl, rfl⟩
              exact ⟨rfl, n, rfl⟩
            have c20 : ∀ w2, Same wr w2 → ∀ n, Calls Try.prog 20 #[.pointer (some ⟨w.heap.size, 0, none⟩)] (World.drewN w2 n) fun e w'' => e = .returned (.int .i64 ii) ∧ ∃ m, w'' = World.drewN w2 m := by
              intro w2 hs n
              rw [hii]
              refine (inFull_any ((unhide HR2).same (hs.trans (same_drewN _ n)))).mono ?_
              rintro e w' ⟨rfl, rfl⟩
              exact ⟨rfl, n, rfl⟩
            rw [← hL, ← hii] at p7
            rw [← hff] at hfl
            rw [← hbk, ← hL, ← hck, ← hff] at qf
            have hg1 : ((ff : Int) != (S.vals.length : Int) - 1) = false := by
              have : (ff : Int) = (S.vals.length : Int) - 1 := by omega
              rw [this]; simp
            have hg2 : ((ii : Int) != (ds.length : Int) - (L : Int)) = false := by
              have : (ii : Int) = (ds.length : Int) - (L : Int) := by omega
              rw [this]; simp
            have hx : ((S.vals.length : Int) - 1).toNat = ff := by omega
            have hi1 : 0 ≤ (S.vals.length : Int) - 1 := by omega
            have hi2 : (S.vals.length : Int) - 1 < (S.vals.length : Int) := by omega
            have C19 := hide c19
            have C20 := hide c20
            have QF : Hid (∀ w2, Same wr w2 → w2.cell? ⟨cb, ff, none⟩ = some (.slice (some ⟨bk, 0, none⟩) L ck)) := fun w2 hs => (hs.cell _).trans (((unhide HSm).cell _).trans qf)
            have hL2 : (L : Int) ≤ ds.length := by omega
            clear p1 p2 p3 p4 p5 p6 p7 q1 q2 qf hL hii hff hbk hck c19 c20 hv hfl
            go_wp2_with (first | (go_at_call 18; refine (unhide HCnt).mono ?_; rintro e w' ⟨rfl, rfl⟩) | (go_at_call 14; refine (unhide HNl).mono ?_; rintro e w2 ⟨rfl, hs2⟩))
            have qf2 := unhide QF w2 hs2
            have D19 := hide (unhide C19 w2 hs2)
            have D20 := hide (unhide C20 w2 hs2)
            have HS2 := hide hs2
            clear hs2
            go_quiet ((first | (go_at_call 19; exact unhide D19 _) | (go_at_call 20; exact unhide D20 _)))
            go_wp2
            go_ret
            exact ⟨rfl, (unhide HFin 0).trans ((((unhide HS2).trans (same_drewN _ _))).below _)⟩
          · go_wp2_with (first | (go_at_call 18; refine (unhide HCnt).mono ?_; rintro e w' ⟨rfl, rfl⟩) | (go_at_call 14; refine (unhide HNl).mono ?_; rintro e w2 ⟨rfl, hs2⟩))
            go_ret
            exact ⟨rfl, (unhide HFin 0).trans (hs2.below _)⟩
set_option maxHeartbeats 1000000 in
theorem walk4_long (a0 : Option Addr) (cap0 len : Nat) (w : World) (h : 262144 < len) (hm : len ≤ maxLen) :
    Calls Try.prog 4 #[.slice a0 len cap0] w fun e w' => e = .returned (.bool true) ∧ Below w.heap.size w w' := by
  unfold maxLen at hm
  by_cases h2 : len ≤ 1048576
  · go_enter Try.func4, Try.ntmps4
    go_wp2_with (first | (go_at_call 16; refine (bytes16 _ _ _ _ (by omega)).mono ?_; rintro e w' ⟨rfl, rfl⟩))
    go_ret
    exact ⟨rfl, Below.refl _ _⟩
  · go_enter Try.func4, Try.ntmps4
    go_wp2_with (first | (go_at_call 16; refine (bytes16_no _ _ _ _ (by omega)).mono ?_; rintro e w' ⟨rfl, rfl⟩))
    go_ret
    exact ⟨rfl, Below.refl _ _⟩

end Go.Proofs.Qxb6600929a
