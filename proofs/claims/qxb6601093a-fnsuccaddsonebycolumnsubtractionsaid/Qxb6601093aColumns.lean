/- Column subtraction: the plain law. No Go in sight. -/
import Derived.Test.Qxb6601093aDigits
namespace Go.Proofs.Qxb6601093a
set_option linter.unusedSimpArgs false
set_option linter.unusedVariables false

/-- What the law's loop keeps at column i (the lowest first): the one is still to be added, or it has been. -/
def Col (yr xr : List Int) (i : Nat) (b : Int) : Prop :=
  (b = (if i = 0 then 0 else 1) ∧ yr.drop i = sr (xr.drop i)) ∨ (b = 0 ∧ 1 ≤ i ∧ yr.drop i = xr.drop i)

theorem col_start (xr : List Int) : Col (sr xr) xr 0 0 := .inl ⟨rfl, rfl⟩
theorem sr_ne (xr : List Int) : sr xr ≠ [] := by
  cases xr with
  | nil => simp [sr]
  | cons x t => simp only [sr]; split <;> simp
theorem col_end {yr xr : List Int} {i : Nat} {b : Int} (h : Col yr xr i b) (hi : yr.length ≤ i) : b = 0 := by
  rcases h with ⟨_, h2⟩ | ⟨h1, _, _⟩
  · rw [List.drop_of_length_le hi] at h2
    exact absurd h2.symm (sr_ne _)
  · exact h1

theorem drop_cons (l : List Int) (i : Nat) (h : i < l.length) : l.drop i = l.getD i 0 :: l.drop (i + 1) := by
  rw [← List.getElem_cons_drop h]
  simp [List.getD, h]

theorem col_cases {yr xr : List Int} {i : Nat} {b : Int} (h : Col yr xr i b) (hi : i < yr.length) (hx : ∀ x, x ∈ xr → 48 ≤ x ∧ x ≤ 57) :
    (i < xr.length ∧ b = (if i = 0 then 0 else 1) ∧ yr.getD i 0 = 48 ∧ xr.getD i 0 = 57 ∧ Col yr xr (i + 1) 1) ∨
    (i < xr.length ∧ b = (if i = 0 then 0 else 1) ∧ yr.getD i 0 = xr.getD i 0 + 1 ∧ 48 ≤ xr.getD i 0 ∧ xr.getD i 0 ≤ 56 ∧ Col yr xr (i + 1) 0) ∨
    (xr.length ≤ i ∧ b = (if i = 0 then 0 else 1) ∧ yr.getD i 0 = 49 ∧ Col yr xr (i + 1) 0) ∨
    (i < xr.length ∧ b = 0 ∧ 1 ≤ i ∧ yr.getD i 0 = xr.getD i 0 ∧ 48 ≤ xr.getD i 0 ∧ xr.getD i 0 ≤ 57 ∧ Col yr xr (i + 1) 0) := by
  have hxi : i < xr.length → 48 ≤ xr.getD i 0 ∧ xr.getD i 0 ≤ 57 := fun hl => hx _ (by simp [List.getD, hl])
  rcases h with ⟨hb, hd⟩ | ⟨hb, h1, hd⟩
  · rw [drop_cons yr i hi] at hd
    by_cases hl : i < xr.length
    · rw [drop_cons xr i hl] at hd
      simp only [sr] at hd
      by_cases h57 : xr.getD i 0 = 57
      · rw [if_pos h57, List.cons.injEq] at hd
        exact .inl ⟨hl, hb, hd.1, h57, .inl ⟨by rw [if_neg (by omega)], hd.2⟩⟩
      · rw [if_neg h57, List.cons.injEq] at hd
        have := hxi hl
        exact .inr (.inl ⟨hl, hb, hd.1, this.1, by omega, .inr ⟨rfl, by omega, hd.2⟩⟩)
    · rw [List.drop_of_length_le (l := xr) (by omega)] at hd
      simp only [sr, List.cons.injEq] at hd
      refine .inr (.inr (.inl ⟨by omega, hb, hd.1, .inr ⟨rfl, by omega, ?_⟩⟩))
      rw [hd.2, List.drop_of_length_le (l := xr) (by omega)]
  · rw [drop_cons yr i hi] at hd
    have hl : i < xr.length := by
      rcases Nat.lt_or_ge i xr.length with h | h
      · exact h
      · rw [List.drop_of_length_le h] at hd; cases hd
    rw [drop_cons xr i hl, List.cons.injEq] at hd
    have := hxi hl
    exact .inr (.inr (.inr ⟨hl, hb, h1, hd.1, this.1, this.2, .inr ⟨rfl, by omega, hd.2⟩⟩))

theorem sr_range (xr : List Int) (hx : ∀ x, x ∈ xr → 48 ≤ x ∧ x ≤ 57) : ∀ y, y ∈ sr xr → 48 ≤ y ∧ y ≤ 57 := by
  induction xr with
  | nil => intro y hy; simp [sr] at hy; omega
  | cons x t ih =>
    intro y hy
    have h0 := hx x (by simp)
    simp only [sr] at hy
    split at hy
    · rw [List.mem_cons] at hy
      rcases hy with rfl | hy
      · omega
      · exact ih (fun z hz => hx z (by simp [hz])) y hy
    · rw [List.mem_cons] at hy
      rcases hy with rfl | hy
      · omega
      · exact hx y (by simp [hy])

/-- How long: one more exactly where all are nines. -/
theorem sr_len (xr : List Int) : (sr xr).length = if ∀ x, x ∈ xr → x = 57 then xr.length + 1 else xr.length := by
  induction xr with
  | nil => simp [sr]
  | cons x t ih =>
    simp only [sr]
    by_cases h : x = 57
    · rw [if_pos h, List.length_cons, ih]
      by_cases ha : ∀ x, x ∈ t → x = 57
      · rw [if_pos ha, if_pos (by intro z hz; rw [List.mem_cons] at hz; rcases hz with rfl | hz; exact h; exact ha z hz)]; rfl
      · rw [if_neg ha, if_neg (fun hc => ha fun z hz => hc z (by simp [hz]))]; rfl
    · rw [if_neg h, if_neg (fun hc => h (hc x (by simp)))]; rfl

theorem succL_range (xs : List Int) (hx : ∀ x, x ∈ xs → 48 ≤ x ∧ x ≤ 57) : ∀ y, y ∈ succL xs → 48 ≤ y ∧ y ≤ 57 := by
  intro y hy
  unfold succL at hy
  exact sr_range xs.reverse (fun x h => hx x (by simpa using h)) y (by simpa using hy)
theorem succL_len (xs : List Int) : (succL xs).length = if ∀ x, x ∈ xs → x = 57 then xs.length + 1 else xs.length := by
  unfold succL
  rw [List.length_reverse, sr_len]
  simp

theorem getD_rev (l : List Int) (i : Nat) (h : i < l.length) : l.reverse.getD i 0 = l.getD (l.length - 1 - i) 0 := by
  simp [List.getD, List.getElem?_reverse h]

/-- Are the first k all nines? -/
def nines (xs : List Int) (k : Nat) : Bool := (xs.take k).all fun x => x == 57
theorem nines_step (xs : List Int) (k : Nat) (h : k < xs.length) : nines xs (k + 1) = (nines xs k && (xs.getD k 0 == 57)) := by
  unfold nines
  rw [List.take_succ_eq_append_getElem h, List.all_append]
  simp [List.getD, h]
theorem nines_all (xs : List Int) : nines xs xs.length = true ↔ ∀ x, x ∈ xs → x = 57 := by
  unfold nines
  rw [List.take_length, List.all_eq_true]
  simp

end Go.Proofs.Qxb6601093a
