/- The plain law of filling: no Go in sight. -/
import Derived.Test.Qxb6600929aAddRec
namespace Go.Proofs.Qxb6600929a
set_option linter.unusedSimpArgs false
set_option linter.unusedVariables false

theorem capOf_big (k : Nat) (h : 10 ≤ k) : capOf k = 65536 := by
  unfold capOf
  have : 2 ^ 10 ≤ 2 ^ k := Nat.pow_le_pow_right (by decide) h
  omega
/-- How the laws reckon the next capacity. -/
theorem capOf_step (k : Nat) : capOf (k + 1) = if capOf k < 65536 then capOf k * 2 else capOf k := by
  by_cases h : 10 ≤ k
  · rw [capOf_big k h, capOf_big (k + 1) (by omega)]
    rfl
  · have : ∀ j, j < 10 → capOf (j + 1) = if capOf j < 65536 then capOf j * 2 else capOf j := by decide
    exact this k (by omega)

theorem inF_zero (vals : List (List Int)) : inF vals 0 = 0 := rfl
theorem inF_all (vals : List (List Int)) (k : Nat) (h : vals.length ≤ k) : inF vals k = vals.flatten.length := by
  unfold inF
  rw [List.take_of_length_le h]
theorem inF_step (vals : List (List Int)) (full : Nat) (h : full < vals.length) : inF vals (full + 1) = inF vals full + (vals.getD full []).length := inF_succ vals full h

/-- The cells of chunk k are the cells of the flat list from 'inF vals k' on. -/
theorem flat_getD (vals : List (List Int)) : ∀ (k j : Nat), k < vals.length → j < (vals.getD k []).length → vals.flatten.getD (inF vals k + j) 0 = (vals.getD k []).getD j 0 := by
  intro k j hk hj
  have e : vals = vals.take k ++ (vals.getD k [] :: vals.drop (k + 1)) := by
    have : vals.getD k [] = vals[k] := by simp [List.getD, hk]
    rw [this, List.getElem_cons_drop, List.take_append_drop]
  have e2 : vals.flatten = (vals.take k).flatten ++ (vals.getD k [] ++ (vals.drop (k + 1)).flatten) := by
    conv => lhs; rw [e]
    simp only [List.flatten_append, List.flatten_cons]
  rw [e2]
  unfold inF
  generalize vals.getD k [] = x at hj
  simp only [List.getD]
  rw [List.getElem?_append_right (by omega), Nat.add_sub_cancel_left, List.getElem?_append_left hj]

theorem inF_mono (vals : List (List Int)) (k : Nat) (h : k < vals.length) : inF vals k + (vals.getD k []).length ≤ vals.flatten.length := by
  rw [← inF_step vals k h]
  exact inF_le vals (k + 1)

/-- What filling from nothing keeps: the chunks cut the narrow ones greedily and in order. -/
structure Greedy (S : St) (ns ws : List Int) : Prop where
  flat : S.vals.flatten = ns
  wide : S.wide = ws
  last : S.vals ≠ [] → S.full + 1 = S.vals.length
  zero : S.vals = [] → S.full = 0
  caps : ∀ k, k < S.full → (S.vals.getD k []).length = capOf k
  lastc : S.vals ≠ [] → 0 < (S.vals.getD S.full []).length ∧ (S.vals.getD S.full []).length ≤ capOf S.full

theorem Greedy.none : Greedy St.none [] [] := ⟨rfl, rfl, fun h => absurd rfl h, fun _ => rfl, fun k h => by simp [St.none] at h, fun h => absurd rfl h⟩

theorem Greedy.addW {S : St} {ns ws : List Int} (h : Greedy S ns ws) (d : Int) : Greedy (S.addW d) ns (ws ++ [d]) :=
  ⟨h.flat, by simp [St.addW, h.wide], h.last, h.zero, h.caps, h.lastc⟩

theorem Greedy.nil_iff {S : St} {ns ws : List Int} (h : Greedy S ns ws) : S.vals = [] ↔ ns = [] := by
  constructor
  · intro e; rw [← h.flat, e]; rfl
  · intro e
    apply Classical.byContradiction
    intro hne
    have hl := h.last hne
    have h1 := inF_mono S.vals S.full (by omega)
    have h2 := h.lastc hne
    rw [h.flat, e, List.length_nil] at h1
    omega

theorem flatten_set_last (vals : List (List Int)) (f : Nat) (x : List Int) (d : Int) (h : f + 1 = vals.length) (hx : vals.getD f [] = x) : (vals.set f (x ++ [d])).flatten = vals.flatten ++ [d] := by
  have hx' : vals[f]'(by omega) = x := by rw [← hx]; simp [List.getD, show f < vals.length by omega]
  have e : vals = vals.take f ++ [x] := by
    conv => lhs; rw [← List.take_append_drop f vals]
    rw [← List.getElem_cons_drop (by omega), hx', List.drop_of_length_le (by omega)]
  have hl : (vals.take f).length = f := by simp; omega
  rw [e, List.set_append_right _ _ (by omega), hl, Nat.sub_self]
  simp

theorem Greedy.addN {S : St} {ns ws : List Int} (h : Greedy S ns ws) (d : Int) : Greedy (S.addN d) (ns ++ [d]) ws := by
  by_cases hf : S.fullB = true
  · simp only [St.addN, hf, if_true]
    by_cases hv : S.vals = []
    · have e0 := h.zero hv
      have en := h.nil_iff.1 hv
      subst en
      obtain ⟨vals, full, wide⟩ := S
      simp only at hv e0
      subst hv e0
      refine ⟨?_, h.wide, ?_, ?_, ?_, ?_⟩
      · simp [St.next, St.push, nextVals, nextFull]
      · simp [St.next, St.push, nextVals, nextFull]
      · simp [St.next, St.push, nextVals, nextFull]
      · intro k hk; simp [St.next, St.push, nextVals, nextFull] at hk
      · intro _; simp [St.next, St.push, nextVals, nextFull]; decide
    · have hl := h.last hv
      have hlc := h.lastc hv
      have hcap : (S.vals.getD S.full []).length = capOf S.full := by
        simp only [St.fullB, Bool.or_eq_true, List.isEmpty_iff, beq_iff_eq] at hf
        rcases hf with e | e
        · exact absurd e hv
        · exact e
      have ev : S.next.vals = S.vals ++ [[]] := by simp only [St.next, nextVals]; rw [if_pos (by omega)]
      have ef : S.next.full = S.full + 1 := by simp only [St.next, nextFull]; rw [if_neg hv]
      have eg : S.next.vals.getD S.next.full [] = [] := by rw [ev, ef]; simp [List.getD, hl]
      have epv : (S.next.push d).vals = S.vals ++ [[d]] := by
        simp only [St.push]
        rw [eg, ev, ef, List.set_append_right _ _ (by omega), hl, Nat.sub_self]
        rfl
      have epf : (S.next.push d).full = S.full + 1 := ef
      have glast : (S.vals ++ [[d]]).getD (S.full + 1) [] = [d] := by simp [List.getD, hl]
      refine ⟨?_, h.wide, ?_, ?_, ?_, ?_⟩
      · rw [epv, List.flatten_append, h.flat]; rfl
      · intro _; rw [epv, epf]; simp; omega
      · intro e; rw [epv] at e; simp at e
      · intro k hk
        rw [epf] at hk
        rw [epv]
        have e1 : (S.vals ++ [[d]]).getD k [] = S.vals.getD k [] := by simp [List.getD, List.getElem?_append_left (show k < S.vals.length by omega)]
        rw [e1]
        by_cases e : k = S.full
        · rw [e]; exact hcap
        · exact h.caps k (by omega)
      · intro _
        rw [epv, epf, glast]
        have := capOf_lo (S.full + 1)
        simp; omega
  · have hf' : S.fullB = false := by simpa using hf
    simp only [St.addN, hf']
    have hf2 := hf'
    simp only [St.fullB, Bool.or_eq_false_iff, beq_eq_false_iff_ne] at hf2
    have hv : S.vals ≠ [] := by intro e; rw [e] at hf2; simp at hf2
    have hl := h.last hv
    have hlc := h.lastc hv
    have hne : S.vals.set S.full (S.vals.getD S.full [] ++ [d]) ≠ [] := by intro e; have := congrArg List.length e; simp at this; exact hv this
    have hs := getD_set_self S.vals S.full (S.vals.getD S.full [] ++ [d]) (by omega)
    refine ⟨?_, h.wide, ?_, ?_, ?_, ?_⟩
    · simp only [St.push]
      show (S.vals.set S.full (S.vals.getD S.full [] ++ [d])).flatten = _
      rw [flatten_set_last S.vals S.full _ d hl rfl, h.flat]
    · intro _; simp [St.push]; exact hl
    · intro e; exact absurd e hne
    · intro k hk
      show ((S.vals.set S.full (S.vals.getD S.full [] ++ [d])).getD k []).length = _
      rw [getD_set_ne _ _ _ _ (by simp [St.push] at hk; omega)]
      exact h.caps k hk
    · intro _
      show 0 < ((S.vals.set S.full (S.vals.getD S.full [] ++ [d])).getD S.full []).length ∧ ((S.vals.set S.full (S.vals.getD S.full [] ++ [d])).getD S.full []).length ≤ capOf S.full
      rw [hs]
      have := hf2.2
      simp only [List.length_append, List.length_cons, List.length_nil]
      omega

theorem Greedy.count {S : St} {ns ws : List Int} (h : Greedy S ns ws) : S.vals.length ≤ ns.length := by
  by_cases hv : S.vals = []
  · rw [hv]; simp
  · have hl := h.last hv
    have key : ∀ k, k ≤ S.vals.length → k ≤ inF S.vals k := by
      intro k
      induction k with
      | zero => intro _; omega
      | succ k ih =>
        intro hk
        rw [inF_step S.vals k (by omega)]
        have := ih (by omega)
        have hpos : 0 < (S.vals.getD k []).length := by
          by_cases e : k = S.full
          · rw [e]; exact (h.lastc hv).1
          · rw [h.caps k (by omega)]; have := capOf_lo k; omega
        omega
    have := key S.vals.length (Nat.le_refl _)
    rw [inF_all _ _ (Nat.le_refl _), h.flat] at this
    exact this

theorem Greedy.nlen {S : St} {ns ws : List Int} (h : Greedy S ns ws) : S.nlen = ns.length := by
  unfold St.nlen
  by_cases hv : S.vals = []
  · have := h.nil_iff.1 hv
    rw [this, hv]; simp [inF, h.zero hv]
  · have hl := h.last hv
    rw [← inF_step S.vals S.full (by omega), inF_all _ _ (by omega), h.flat]

/-- The narrow ones, the wide ones. -/
def narrows (l : List Int) : List Int := l.filter (fun d => decide (d ≤ 4294967295))
def wides (l : List Int) : List Int := l.filter (fun d => !decide (d ≤ 4294967295))
/-- The record that 'zzAddB1' fills with the list, one by one. -/
def fillFrom (S : St) (l : List Int) : St := l.foldl St.add S
def fill (l : List Int) : St := fillFrom St.none l

theorem fillFrom_snoc (S : St) (l : List Int) (d : Int) : fillFrom S (l ++ [d]) = (fillFrom S l).add d := by simp [fillFrom]

theorem Greedy.add {S : St} {l : List Int} (h : Greedy S (narrows l) (wides l)) (d : Int) : Greedy (S.add d) (narrows (l ++ [d])) (wides (l ++ [d])) := by
  by_cases hd : d ≤ 4294967295
  · have e1 : narrows (l ++ [d]) = narrows l ++ [d] := by simp [narrows, hd]
    have e2 : wides (l ++ [d]) = wides l := by simp [wides, hd]
    have e3 : S.add d = S.addN d := by simp [St.add, hd]
    rw [e1, e2, e3]
    exact h.addN d
  · have e1 : narrows (l ++ [d]) = narrows l := by simp [narrows, hd]
    have e2 : wides (l ++ [d]) = wides l ++ [d] := by simp [wides, hd]
    have e3 : S.add d = S.addW d := by simp [St.add, hd]
    rw [e1, e2, e3]
    exact h.addW d

theorem take_snoc (l : List Int) (k : Nat) (h : k < l.length) : l.take (k + 1) = l.take k ++ [l.getD k 0] := by
  rw [List.take_succ_eq_append_getElem h]
  simp [List.getD, h]

theorem fill_greedy (l : List Int) : ∀ k, k ≤ l.length → Greedy (fill (l.take k)) (narrows (l.take k)) (wides (l.take k)) := by
  intro k
  induction k with
  | zero => intro _; exact Greedy.none
  | succ k ih =>
    intro hk
    rw [take_snoc l k (by omega)]
    unfold fill
    rw [fillFrom_snoc]
    exact (ih (by omega)).add _
theorem fill_greedy_all (l : List Int) : Greedy (fill l) (narrows l) (wides l) := by
  have := fill_greedy l l.length (Nat.le_refl _)
  rwa [List.take_length] at this

theorem narrows_all (l : List Int) (h : ∀ x, x ∈ l → x ≤ 4294967295) : narrows l = l := by
  unfold narrows
  rw [List.filter_eq_self]
  intro x hx
  simpa using h x hx
theorem wides_none (l : List Int) (h : ∀ x, x ∈ l → x ≤ 4294967295) : wides l = [] := by
  unfold wides
  rw [List.filter_eq_nil_iff]
  intro x hx
  simpa using h x hx
theorem narrows_len (l : List Int) : (narrows l).length ≤ l.length := List.length_filter_le _ _
theorem wides_len (l : List Int) : (wides l).length ≤ l.length := List.length_filter_le _ _
theorem both_len (l : List Int) : (narrows l).length + (wides l).length = l.length := by
  unfold narrows wides
  induction l with
  | nil => rfl
  | cons a l ih =>
    by_cases h : a ≤ 4294967295
    · simp [h]; omega
    · simp [h]; omega
theorem both_sum (l : List Int) : (narrows l).sum + (wides l).sum = l.sum := by
  unfold narrows wides
  induction l with
  | nil => rfl
  | cons a l ih =>
    by_cases h : a ≤ 4294967295
    · simp [h]; omega
    · simp [h]; omega

end Go.Proofs.Qxb6600929a
