/- Filling with cuts: the plain law; the second slice that came in; zzBytes. -/
import Derived.Test.Qxb6600929aLists
namespace Go.Proofs.Qxb6600929a
open Go.RowKit
set_option linter.unusedSimpArgs false
set_option linter.unusedVariables false

/-- The record and the count of calls behind the first k singletons. -/
def cutFill (ds : List Int) (cuts : List Bool) : Nat → St × Nat
  | 0 => (St.none, 0)
  | k + 1 =>
    let s := cutFill ds cuts k
    let t := s.1.addN (ds.getD k 0)
    let n := if s.1.fullB then s.2 + 1 else s.2
    if cuts.getD k false then (t.next, n + 1) else (t, n)

structure Cutty (S : St) (n : Nat) (ns : List Int) : Prop where
  flat : S.vals.flatten = ns
  wide : S.wide = []
  cnt : S.vals.length = n
  last : S.vals ≠ [] → S.full + 1 = S.vals.length
  zero : S.vals = [] → S.full = 0
  some : ns ≠ [] → S.vals ≠ []

theorem Cutty.next {S : St} {n : Nat} {ns : List Int} (h : Cutty S n ns) : Cutty S.next (n + 1) ns := by
  by_cases hv : S.vals = []
  · have e0 := h.zero hv
    have en : ns = [] := by rw [← h.flat, hv]; rfl
    obtain ⟨vals, full, wide⟩ := S
    simp only at hv e0
    subst hv e0
    have hc := h.cnt
    simp at hc
    subst hc
    refine ⟨?_, h.wide, ?_, ?_, ?_, ?_⟩
    · rw [en]; simp [St.next, nextVals, nextFull]
    · simp [St.next, nextVals, nextFull]
    · simp [St.next, nextVals, nextFull]
    · simp [St.next, nextVals, nextFull]
    · simp [St.next, nextVals, nextFull]
  · have hl := h.last hv
    have ev : S.next.vals = S.vals ++ [[]] := by simp only [St.next, nextVals]; rw [if_pos (by omega)]
    have ef : S.next.full = S.full + 1 := by simp only [St.next, nextFull]; rw [if_neg hv]
    refine ⟨?_, h.wide, ?_, ?_, ?_, ?_⟩
    · rw [ev, List.flatten_append, h.flat]; simp
    · rw [ev]; simp [h.cnt]
    · intro _; rw [ev, ef]; simp; omega
    · intro e; rw [ev] at e; simp at e
    · intro _ e; rw [ev] at e; simp at e

theorem Cutty.push {S : St} {n : Nat} {ns : List Int} (h : Cutty S n ns) (hv : S.vals ≠ []) (d : Int) : Cutty (S.push d) n (ns ++ [d]) := by
  have hl := h.last hv
  have hne : S.vals.set S.full (S.vals.getD S.full [] ++ [d]) ≠ [] := by intro e; have := congrArg List.length e; simp at this; exact hv this
  refine ⟨?_, h.wide, ?_, ?_, ?_, ?_⟩
  · show (S.vals.set S.full (S.vals.getD S.full [] ++ [d])).flatten = _
    rw [flatten_set_last S.vals S.full _ d hl rfl, h.flat]
  · simp [St.push, h.cnt]
  · intro _; simp [St.push]; exact hl
  · intro e; exact absurd e hne
  · intro _; exact hne

theorem Cutty.addN {S : St} {n : Nat} {ns : List Int} (h : Cutty S n ns) (d : Int) : Cutty (S.addN d) (if S.fullB then n + 1 else n) (ns ++ [d]) := by
  by_cases hf : S.fullB = true
  · simp only [St.addN, hf, if_true]
    refine h.next.push ?_ d
    intro e
    have := h.next.cnt
    rw [e] at this
    simp at this
  · have hf' : S.fullB = false := by simpa using hf
    simp only [St.addN, hf']
    refine h.push ?_ d
    intro e
    simp [St.fullB, e] at hf'

theorem cutFill_cutty (ds : List Int) (cuts : List Bool) : ∀ k, k ≤ ds.length → Cutty (cutFill ds cuts k).1 (cutFill ds cuts k).2 (ds.take k) := by
  intro k
  induction k with
  | zero => intro _; exact ⟨rfl, rfl, rfl, fun h => absurd rfl h, fun _ => rfl, fun h => absurd rfl h⟩
  | succ k ih =>
    intro hk
    have h1 := (ih (by omega)).addN (ds.getD k 0)
    rw [← take_snoc ds k (by omega)] at h1
    simp only [cutFill]
    split
    · exact h1.next
    · exact h1

theorem cutFill_count (ds : List Int) (cuts : List Bool) : ∀ k, (cutFill ds cuts k).2 ≤ 2 * k := by
  intro k
  induction k with
  | zero => exact Nat.le_refl _
  | succ k ih =>
    simp only [cutFill]
    split <;> split <;> simp only <;> omega

/-- The last bounds that the walk wants. -/
theorem cut_bounds (ds : List Int) (cuts : List Bool) (k : Nat) (h : k ≤ ds.length) (hl : ds.length ≤ 262144) :
    (cutFill ds cuts k).1.vals.length ≤ 1000000 ∧ (cutFill ds cuts k).1.vals.flatten.length ≤ 1000000 ∧ (cutFill ds cuts k).1.wide.length ≤ 1000000 ∧ (cutFill ds cuts k).2 ≤ 600000 := by
  have g := cutFill_cutty ds cuts k h
  have hc := cutFill_count ds cuts k
  have h1 := g.cnt
  have h2 : (ds.take k).length ≤ 262144 := by simp; omega
  rw [g.flat, g.wide]
  simp only [List.length_nil]
  omega

theorem Cutty.nlen {S : St} {n : Nat} {ns : List Int} (h : Cutty S n ns) : S.nlen = ns.length := by
  unfold St.nlen
  by_cases hv : S.vals = []
  · have : ns = [] := by rw [← h.flat, hv]; rfl
    rw [this, hv]; simp [inF, h.zero hv]
  · have hl := h.last hv
    rw [← inF_step S.vals S.full (by omega), inF_all _ _ (by omega), h.flat]
theorem Cutty.vlen {S : St} {n : Nat} {ns : List Int} (h : Cutty S n ns) : S.vlen = n := by
  unfold St.vlen
  by_cases hv : S.vals = []
  · have := h.cnt
    rw [hv] at this
    simp [hv]
    exact this
  · rw [if_neg hv, h.last hv, h.cnt]

/-- What the walk is told of a slice of bools that came in. -/
def IsBools (w : World) (a : Option Addr) (len cap : Nat) : Prop :=
  (a = none ∧ len = 0 ∧ cap = 0) ∨ ∃ x, ∃ B : Nat → Bool, a = some x ∧ len ≤ cap ∧ cap ≤ maxLen ∧ ∀ i, i < cap → w.cell? (x.add i) = some (.bool (B i))
def InBools (w : World) (a0 : Option Addr) (cs : List Bool) : Prop :=
  0 < cs.length → ∃ bb off, a0 = some ⟨bb, off, none⟩ ∧ bb < w.heap.size ∧ ∀ j, j < cs.length → w.cell? ⟨bb, off + j, none⟩ = some (.bool (cs.getD j false))
theorem IsBools.inBools {w : World} {a : Option Addr} {len cap : Nat} (h : IsBools w a len cap) : ∃ cs : List Bool, cs.length = len ∧ InBools w a cs ∧ len ≤ maxLen := by
  rcases h with ⟨rfl, rfl, rfl⟩ | ⟨x, B, rfl, h1, h2, h3⟩
  · exact ⟨[], rfl, fun h => by simp at h, Nat.zero_le _⟩
  · refine ⟨(List.range len).map B, by simp, fun hp => ?_, by omega⟩
    have hp' : 0 < cap := by simp at hp; omega
    obtain ⟨bb, off, spot⟩ := x
    have hspot : spot = none := by simpa [Addr.add] using World.cell?_spot (h3 0 hp')
    subst hspot
    have hc : ∀ j, j < cap → w.cell? ⟨bb, off + j, none⟩ = some (.bool (B j)) := fun j hj => by rw [← Go.WideShapes.add_plain]; exact h3 j hj
    refine ⟨bb, off, rfl, World.block_lt_of_cell? w _ (hc 0 hp'), fun j hj => ?_⟩
    simp at hj
    rw [hc j (by omega)]
    simp [List.getD, hj]
theorem InBools.below {w w' : World} {a : Option Addr} {cs : List Bool} (h : InBools w a cs) (hb : Below w.heap.size w w') : InBools w' a cs := by
  intro hp
  obtain ⟨bb, off, e, hl, hc⟩ := h hp
  exact ⟨bb, off, e, by have := hb.size; omega, fun j hj => (hb.cell (p := ⟨bb, off + j, none⟩) hl).trans (hc j hj)⟩

set_option maxHeartbeats 400000 in
theorem bytes21 (a0 a1 : Option Addr) (n0 c0 n1 c1 : Nat) (w : World) (h : n0 + n1 ≤ 1048576) :
    Calls Try.prog 21 #[.slice a0 n0 c0, .slice a1 n1 c1] w fun e w' => e = .returned (.bool true) ∧ w = w' := by
  go_enter Try.func21, Try.ntmps21
  go_wp2
  go_ret
  exact ⟨rfl, rfl⟩
set_option maxHeartbeats 400000 in
theorem bytes21_no (a0 a1 : Option Addr) (n0 c0 n1 c1 : Nat) (w : World) (h0 : n0 ≤ 9223372036854775807) (h1 : n1 ≤ 9223372036854775807) (h : 1048576 < n0 + n1) :
    Calls Try.prog 21 #[.slice a0 n0 c0, .slice a1 n1 c1] w fun e w' => e = .returned (.bool false) ∧ w = w' := by
  by_cases h2 : n0 ≤ 1048576
  · by_cases h3 : n1 ≤ 1048576
    · go_enter Try.func21, Try.ntmps21
      go_wp2
      go_ret
      exact ⟨rfl, rfl⟩
    · go_enter Try.func21, Try.ntmps21
      go_wp2
      go_ret
      exact ⟨rfl, rfl⟩
  · go_enter Try.func21, Try.ntmps21
    go_wp2
    go_ret
    exact ⟨rfl, rfl⟩
set_option maxRecDepth 20000 in
set_option maxHeartbeats 1000000 in
theorem walk5_long (a0 a1 : Option Addr) (n0 c0 n1 c1 : Nat) (w : World) (h0 : n0 ≤ maxLen) (h1 : n1 ≤ maxLen) (h : 262144 < n0 ∨ 1048576 < 4 * n0 + n1) :
    Calls Try.prog 5 #[.slice a0 n0 c0, .slice a1 n1 c1] w fun e w' => e = .returned (.bool true) ∧ Below w.heap.size w w' := by
  unfold maxLen at h0 h1
  by_cases h2 : n0 + n1 ≤ 1048576
  · by_cases h3 : n0 ≤ 262144
    · have h4 : 1048576 < 4 * n0 + n1 := by omega
      go_enter Try.func5, Try.ntmps5
      go_wp2_with (first | (go_at_call 21; refine (bytes21 _ _ _ _ _ _ _ (by omega)).mono ?_; rintro e w' ⟨rfl, rfl⟩))
      go_ret
      exact ⟨rfl, Below.refl _ _⟩
    · go_enter Try.func5, Try.ntmps5
      go_wp2_with (first | (go_at_call 21; refine (bytes21 _ _ _ _ _ _ _ (by omega)).mono ?_; rintro e w' ⟨rfl, rfl⟩))
      go_ret
      exact ⟨rfl, Below.refl _ _⟩
  · go_enter Try.func5, Try.ntmps5
    go_wp2_with (first | (go_at_call 21; refine (bytes21_no _ _ _ _ _ _ _ h0 h1 (by omega)).mono ?_; rintro e w' ⟨rfl, rfl⟩))
    go_ret
    exact ⟨rfl, Below.refl _ _⟩

end Go.Proofs.Qxb6600929a
