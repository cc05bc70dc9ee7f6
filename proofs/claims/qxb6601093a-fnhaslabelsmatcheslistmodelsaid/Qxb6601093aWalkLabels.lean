/- The law FnHasLabelsMatchesListModel, walked. -/
import Derived.Test.Qxb6601093aSizes
import Derived.Test.Qxb6601093aClone
import Derived.Test.Qxb6601093aHas
import Derived.Deep.SlicePairs
import Derived.ChangeArms
import Derived.OpenShut
namespace Go.Proofs.Qxb6601093a
open Go.RowKit Go.WideMaps
set_option linter.unusedSimpArgs false
set_option linter.unusedVariables false

/-- A slice of labels as it comes in. -/
def IsPairs (w : World) (a : Option Addr) (len cap : Nat) : Prop :=
  (a = none ∧ len = 0 ∧ cap = 0) ∨ ∃ x : Addr, a = some x ∧ len ≤ cap ∧ cap ≤ maxLen ∧ ∀ i, i < len → ∃ s t : ByteArray, w.cell? (x.add (i * 2)) = some (.string s) ∧ w.cell? (x.add (i * 2 + 1)) = some (.string t) ∧ s.size ≤ maxLen ∧ t.size ≤ maxLen

/-- What the walk asks of a slice of labels. -/
structure Lab (w : World) (a : Option Addr) (ls : List Pr) : Prop where
  cells : InPairs w a ls
  nil : a = none → ls = []
  sizes : ∀ k, k < ls.length → (ls.getD k nop).1.size ≤ maxLen ∧ (ls.getD k nop).2.size ≤ maxLen

theorem Lab.below {w w' : World} {a : Option Addr} {ls : List Pr} (h : Lab w a ls) (hb : Below w.heap.size w w') : Lab w' a ls := by
  refine ⟨fun hp => ?_, h.nil, h.sizes⟩
  obtain ⟨bb, off, e, hl, hc⟩ := h.cells hp
  exact ⟨bb, off, e, by have := hb.size; omega, fun j hj => ⟨(hb.cell (p := ⟨bb, off + j * 2, none⟩) hl).trans (hc j hj).1, (hb.cell (p := ⟨bb, off + j * 2 + 1, none⟩) hl).trans (hc j hj).2⟩⟩

theorem pairs_of (w : World) (x : Addr) : ∀ len, (∀ i, i < len → ∃ s t : ByteArray, w.cell? (x.add (i * 2)) = some (.string s) ∧ w.cell? (x.add (i * 2 + 1)) = some (.string t) ∧ s.size ≤ maxLen ∧ t.size ≤ maxLen) →
    ∃ ls : List Pr, ls.length = len ∧ ∀ i, i < len → w.cell? (x.add (i * 2)) = some (.string (ls.getD i nop).1) ∧ w.cell? (x.add (i * 2 + 1)) = some (.string (ls.getD i nop).2) ∧ (ls.getD i nop).1.size ≤ maxLen ∧ (ls.getD i nop).2.size ≤ maxLen := by
  intro len
  induction len with
  | zero => intro _; exact ⟨[], rfl, fun i hi => by omega⟩
  | succ n ih =>
    intro h
    obtain ⟨ls, hl, hc⟩ := ih (fun i hi => h i (by omega))
    obtain ⟨s, t, h1, h2, h3, h4⟩ := h n (by omega)
    refine ⟨ls ++ [(s, t)], by simp [hl], fun i hi => ?_⟩
    by_cases e : i = n
    · subst e
      have : (ls ++ [(s, t)]).getD i nop = (s, t) := by simp [List.getD, hl]
      rw [this]
      exact ⟨h1, h2, h3, h4⟩
    · have : (ls ++ [(s, t)]).getD i nop = ls.getD i nop := by
        simp [List.getD, List.getElem?_append_left (show i < ls.length by omega)]
      rw [this]
      exact hc i (by omega)

theorem IsPairs.lab {w : World} {a : Option Addr} {len cap : Nat} (h : IsPairs w a len cap) : ∃ ls : List Pr, ls.length = len ∧ Lab w a ls ∧ len ≤ maxLen := by
  rcases h with ⟨rfl, rfl, rfl⟩ | ⟨x, rfl, h1, h2, h3⟩
  · exact ⟨[], rfl, ⟨fun h => by simp at h, fun _ => rfl, fun k hk => by simp at hk⟩, Nat.zero_le _⟩
  · obtain ⟨ls, hl, hc⟩ := pairs_of w x len h3
    subst hl
    refine ⟨ls, rfl, ⟨fun hp => ?_, fun e => (by cases e), fun k hk => (hc k hk).2.2⟩, by omega⟩
    obtain ⟨b, off, spot⟩ := x
    have hspot : spot = none := by simpa [Addr.add] using World.cell?_spot (hc 0 hp).1
    subst hspot
    refine ⟨b, off, rfl, ?_, fun j hj => ⟨?_, ?_⟩⟩
    · have := (hc 0 hp).1
      rw [Go.WideShapes.add_plain] at this
      exact World.block_lt_of_cell? w _ this
    · rw [← Go.WideShapes.add_plain]; exact (hc j hj).1
    · rw [Nat.add_assoc, ← Go.WideShapes.add_plain]; exact (hc j hj).2.1

theorem clone12 (a : Option Addr) (c : Nat) (ls : List Pr) (w : World) (h : Lab w a ls) (hl : ls.length ≤ 4096) :
    Calls Try.prog 12 #[.slice a ls.length c] w fun e w' => ∃ q d, e = .returned (.slice q ls.length d) ∧ Lab w' q ls ∧ Below w.heap.size w w' := by
  cases a with
  | none =>
    refine (clone_nil ls.length c w).mono ?_
    rintro e w1 ⟨rfl, rfl⟩
    have := h.nil rfl
    subst this
    exact ⟨none, 0, rfl, h, Below.refl _ _⟩
  | some x =>
    refine (clone_some x c ls w h.cells hl).mono ?_
    rintro e w1 ⟨rfl, hf⟩
    exact ⟨_, _, rfl, ⟨hf.done, fun e => (by cases e), h.sizes⟩, hf.below⟩

theorem map14 (a : Option Addr) (c : Nat) (ls : List Pr) (w : World) (h : Lab w a ls) (hl : ls.length ≤ 4096) :
    Calls Try.prog 14 #[.slice a ls.length c] w fun e w' => ∃ mv, e = .returned mv ∧ MapIs w' mv ls ∧ Below w.heap.size w w' := by
  cases a with
  | none =>
    refine (map_nil ls.length c w).mono ?_
    rintro e w1 ⟨rfl, rfl⟩
    exact ⟨_, rfl, .inl ⟨rfl, h.nil rfl⟩, Below.refl _ _⟩
  | some x =>
    refine (map_some x c ls w h.cells hl h.sizes).mono ?_
    rintro e w1 ⟨rfl, ho, hb⟩
    exact ⟨_, rfl, .inr ⟨_, rfl, ho⟩, hb⟩

set_option maxRecDepth 20000 in
set_option maxHeartbeats 4000000 in
theorem walk3 (a b : Option Addr) (c d : Nat) (l1 l2 : List Pr) (w : World) (ha : Lab w a l1) (hb : Lab w b l2) (hm1 : (l1.length : Int) ≤ 9223372036854775807) (hm2 : (l2.length : Int) ≤ 9223372036854775807) :
    Calls Try.prog 3 #[.slice a l1.length c, .slice b l2.length d] w fun e w' => e = .returned (.bool true) ∧ Below w.heap.size w w' := by
  have HA := hide ha
  have HB := hide hb
  have HM1 := hide hm1
  have HM2 := hide hm2
  have B10 := hide (bytes10 a b c d l1 l2 w ha.cells hb.cells hm1 hm2)
  have P1 := hide (pair11 a c l1 w ha.cells hm1)
  clear ha hb
  go_enter Try.func3, Try.ntmps3
  go_wp2_with fail
  refine (unhide B10).mono ?_
  rintro e w1 ⟨rfl | rfl, rfl⟩
  · go_wp2_with fail
    go_ret
    exact ⟨rfl, Below.refl _ _⟩
  · go_wp2_with fail
    refine (unhide P1).mono ?_
    rintro e w1 ⟨t1, ht10, ht11, rfl, hs1⟩
    have S1 := hide hs1
    clear hs1
    go_wp2_with fail
    refine (pair11 b d l2 w1 ((unhide HB).cells.same (unhide S1)) (unhide HM2)).mono ?_
    rintro e w2 ⟨t2, ht20, ht21, rfl, hs2⟩
    have S2 := hide ((unhide S1).trans hs2)
    have BL : Hid (Below w.heap.size w w2) := (unhide S2).below _
    clear hs2
    by_cases hsum : 1048576 < t1 + t2
    · go_wp2_with fail
      go_ret
      exact ⟨rfl, unhide BL⟩
    · have hsum' : t1 + t2 ≤ 1048576 := by omega
      clear hsum
      by_cases hg1 : (4096 : Int) < l1.length
      · go_wp2_with fail
        go_ret
        exact ⟨rfl, unhide BL⟩
      · by_cases hg2 : (4096 : Int) < l2.length
        · go_wp2_with fail
          go_ret
          exact ⟨rfl, unhide BL⟩
        · have hl1 : l1.length ≤ 4096 := by omega
          have hl2 : l2.length ≤ 4096 := by omega
          clear hg1 hg2 hm1 hm2
          go_wp2_with fail
          refine (clone12 a c l1 w2 ((unhide HA).below (unhide BL)) hl1).mono ?_
          rintro e w3 ⟨q1, d1, rfl, hq1, hb3⟩
          have Q1 := hide hq1
          have B3 := hide hb3
          clear hq1 hb3
          go_wp2_with fail
          refine (clone12 b d l2 w3 (((unhide HB).below (unhide BL)).below (unhide B3)) hl2).mono ?_
          rintro e w4 ⟨q2, d2, rfl, hq2, hb4⟩
          have Q2 := hide hq2
          have Q1' := hide ((unhide Q1).below hb4)
          have BL4 : Hid (Below w.heap.size w w4) := (unhide BL).trans (((unhide B3).mono (unhide BL).size).trans (hb4.mono (by have := (unhide BL).size; have := (unhide B3).size; omega)))
          clear hq2 hb4 B3 Q1
          go_wp2_with fail
          refine (map14 q1 d1 l1 w4 (unhide Q1') hl1).mono ?_
          rintro e w5 ⟨m1, rfl, hm5, hb5⟩
          have M1 := hide hm5
          have Q1 := hide ((unhide Q1').below hb5)
          have Q2' := hide ((unhide Q2).below hb5)
          have BL5 : Hid (Below w.heap.size w w5) := (unhide BL4).trans (hb5.mono (unhide BL4).size)
          clear hm5 hb5 Q1' Q2 BL4
          go_wp2_with fail
          refine (map14 q2 d2 l2 w5 (unhide Q2') hl2).mono ?_
          rintro e w6 ⟨m2, rfl, hm6, hb6⟩
          have M2 := hide hm6
          have M1' := hide ((unhide M1).below hb6)
          have R1 := hide ((unhide Q1).below hb6)
          have R2 := hide ((unhide Q2').below hb6)
          have BL6 : Hid (Below w.heap.size w w6) := (unhide BL5).trans (hb6.mono (unhide BL5).size)
          clear hm6 hb6 Q1 Q2' BL5 M1
          go_wp2_with fail
          refine (has13 m1 m2 l1 l2 w6 (unhide M1') (unhide M2)).mono ?_
          rintro e w7 ⟨rfl, hb7⟩
          have T1 := hide ((unhide R1).below hb7)
          have T2 := hide ((unhide R2).below hb7)
          have BL7 : Hid (Below w.heap.size w w7) := (unhide BL6).trans (hb7.mono (unhide BL6).size)
          clear hb7 R1 R2 BL6 M1' M2
          have ML := hide (model15 q1 q2 d1 d2 l1 l2 w7 (unhide T1).cells (unhide T2).cells (by omega) (by omega))
          obtain ⟨mo, hmo⟩ : ∃ mo, mo = model l1 l2 := ⟨_, rfl⟩
          rw [← hmo] at ML ⊢
          clear hmo
          go_wp2_with fail
          refine (unhide ML).mono ?_
          rintro e w8 ⟨rfl, hs8⟩
          have BL8 : Hid (Below w.heap.size w w8) := (unhide BL7).trans (hs8.below _)
          clear hs8
          cases mo with
          | true =>
            go_wp2_with fail
            go_ret
            exact ⟨rfl, unhide BL8⟩
          | false =>
            go_wp2_with fail
            go_ret
            exact ⟨rfl, unhide BL8⟩
end Go.Proofs.Qxb6601093a
