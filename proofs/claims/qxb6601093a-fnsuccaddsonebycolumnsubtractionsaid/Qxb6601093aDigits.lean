/- Decimal digits as lists of numbers: the plain law. No Go in sight. -/
namespace Go.Proofs.Qxb6601093a
set_option linter.unusedSimpArgs false

/-- One more, the lowest digit first. -/
def sr : List Int → List Int
  | [] => [49]
  | x :: t => if x = 57 then 48 :: sr t else (x + 1) :: t
/-- One more, the highest digit first. -/
def succL (xs : List Int) : List Int := (sr xs.reverse).reverse

theorem sr_nines (k : Nat) (t : List Int) : sr (List.replicate k 57 ++ t) = List.replicate k 48 ++ sr t := by
  induction k with
  | zero => rfl
  | succ k ih => simp [List.replicate_succ, sr, ih]

theorem succL_hit (a : List Int) (x : Int) (k : Nat) (hx : x ≠ 57) : succL (a ++ x :: List.replicate k 57) = a ++ (x + 1) :: List.replicate k 48 := by
  unfold succL
  have e : (a ++ x :: List.replicate k 57).reverse = List.replicate k 57 ++ x :: a.reverse := by simp
  rw [e, sr_nines]
  simp [sr, hx]
theorem succL_all (n : Nat) : succL (List.replicate n 57) = 49 :: List.replicate n 48 := by
  unfold succL
  have e : (List.replicate n (57 : Int)).reverse = List.replicate n 57 ++ [] := by simp
  rw [e, sr_nines]
  simp [sr]

/-- The digits of k, the lowest first, at most f of them. -/
def dl : Nat → Nat → List Int
  | 0, _ => []
  | f + 1, k => if k = 0 then [] else ((48 + k % 10 : Nat) : Int) :: dl f (k / 10)

theorem dl_zero (f : Nat) : dl f 0 = [] := by cases f <;> rfl
theorem dl_step (f k : Nat) (h : 0 < k) : dl (f + 1) k = ((48 + k % 10 : Nat) : Int) :: dl f (k / 10) := by
  simp only [dl]
  rw [if_neg (by omega)]

theorem sr_dl : ∀ f k, k + 1 < 10 ^ f → sr (dl f k) = dl f (k + 1) := by
  intro f
  induction f with
  | zero => intro k h; simp at h
  | succ f ih =>
    intro k h
    rw [dl_step f (k + 1) (by omega)]
    by_cases hk : k = 0
    · subst hk
      rw [dl_zero]
      simp [sr, dl_zero]
    · rw [dl_step f k (by omega)]
      have hp : 10 ^ (f + 1) = 10 * 10 ^ f := by rw [Nat.pow_succ]; omega
      by_cases h9 : k % 10 = 9
      · have e1 : (k + 1) % 10 = 0 := by omega
        have e2 : (k + 1) / 10 = k / 10 + 1 := by omega
        rw [h9, e1, e2, ← ih (k / 10) (by omega)]
        simp [sr]
      · have e1 : (k + 1) % 10 = k % 10 + 1 := by omega
        have e2 : (k + 1) / 10 = k / 10 := by omega
        rw [e1, e2]
        have hne : ((48 + k % 10 : Nat) : Int) ≠ 57 := by omega
        simp only [sr]
        rw [if_neg hne]
        congr 1

theorem dl_range (f : Nat) : ∀ k x, x ∈ dl f k → 48 ≤ x ∧ x ≤ 57 := by
  induction f with
  | zero => intro k x hx; simp [dl] at hx
  | succ f ih =>
    intro k x hx
    by_cases hk : k = 0
    · subst hk; rw [dl_zero] at hx; simp at hx
    · rw [dl_step f k (by omega), List.mem_cons] at hx
      rcases hx with rfl | hx
      · omega
      · exact ih _ _ hx
theorem dl_len (f : Nat) : ∀ k, (dl f k).length ≤ f := by
  induction f with
  | zero => intro k; simp [dl]
  | succ f ih =>
    intro k
    by_cases hk : k = 0
    · subst hk; rw [dl_zero]; simp
    · rw [dl_step f k (by omega)]
      have := ih (k / 10)
      simp
      omega

def utoaL (K : Nat) : List Int := if K = 0 then [48] else (dl 20 K).reverse

theorem utoa_range (K : Nat) : ∀ x, x ∈ utoaL K → 48 ≤ x ∧ x ≤ 57 := by
  intro x hx
  unfold utoaL at hx
  split at hx
  · simp at hx; omega
  · exact dl_range 20 K x (by simpa using hx)
theorem utoa_len (K : Nat) : (utoaL K).length ≤ 20 := by
  unfold utoaL
  split
  · simp
  · have := dl_len 20 K
    simpa using this

theorem succ_utoa (K : Nat) (h : K + 1 < 18446744073709551616) : succL (utoaL K) = utoaL (K + 1) := by
  have e1 : utoaL (K + 1) = (dl 20 (K + 1)).reverse := by unfold utoaL; rw [if_neg (by omega)]
  rw [e1, ← sr_dl 20 K (by omega)]
  unfold utoaL
  split
  · next h0 => subst h0; rw [dl_zero]; rfl
  · unfold succL; simp

/-- What succ's loop keeps: k nines at the end, turned to zeros so far. -/
theorem nines_split (xs : List Int) (k : Nat) (hk : k < xs.length) (h : xs.drop (xs.length - k) = List.replicate k 57) :
    xs = xs.take (xs.length - 1 - k) ++ xs.getD (xs.length - 1 - k) 0 :: List.replicate k 57 := by
  have e : xs.length - k = (xs.length - 1 - k) + 1 := by omega
  have hlt : xs.length - 1 - k < xs.length := by omega
  rw [e] at h
  rw [← h]
  have : xs.getD (xs.length - 1 - k) 0 = xs[xs.length - 1 - k] := by simp [List.getD, hlt]
  rw [this, List.getElem_cons_drop, List.take_append_drop]

end Go.Proofs.Qxb6601093a
