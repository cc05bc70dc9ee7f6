/- A record refilled behind a reset against a fresh one: the plain law; the two in one memory. -/
import Derived.Test.Qxb6600929aSame
namespace Go.Proofs.Qxb6600929a
open Go.RowKit
set_option linter.unusedSimpArgs false
set_option linter.unusedVariables false

/-- The refilled record has the fresh one's chunks, and behind them the emptied ones that it kept. -/
structure Track (made : Nat) (P Q : St) : Prop where
  vals : P.vals = Q.vals ++ List.replicate (made - Q.vals.length) []
  full : P.full = Q.full
  wide : P.wide = Q.wide

theorem Track.start (S : St) : Track S.vals.length S.reset St.none := by
  refine ⟨?_, rfl, rfl⟩
  simp only [St.reset, St.none, List.nil_append, List.length_nil, Nat.sub_zero]
  induction S.vals with
  | nil => rfl
  | cons a l ih => rw [List.map_cons, ih, List.length_cons, List.replicate_succ]

theorem Track.getD {made : Nat} {P Q : St} (h : Track made P Q) (k : Nat) : P.vals.getD k [] = Q.vals.getD k [] := by
  rw [h.vals]
  simp only [List.getD]
  by_cases hk : k < Q.vals.length
  · rw [List.getElem?_append_left hk]
  · rw [List.getElem?_append_right (by omega), List.getElem?_eq_none (l := Q.vals) (by omega), List.getElem?_replicate]
    split <;> rfl

theorem Track.addW {made : Nat} {P Q : St} (h : Track made P Q) (d : Int) : Track made (P.addW d) (Q.addW d) := ⟨h.vals, h.full, by simp [St.addW, h.wide]⟩

theorem Track.push {made : Nat} {P Q : St} (h : Track made P Q) (hq : Q.full < Q.vals.length) (d : Int) : Track made (P.push d) (Q.push d) := by
  refine ⟨?_, h.full, h.wide⟩
  simp only [St.push]
  rw [h.getD, h.full, h.vals, List.set_append_left _ _ hq]
  simp

theorem Track.addN {made : Nat} {P Q : St} {ns ws : List Int} (h : Track made P Q) (g : Greedy Q ns ws) (d : Int) : Track made (P.addN d) (Q.addN d) := by
  by_cases hv : Q.vals = []
  · have hqf : Q.fullB = true := by simp [St.fullB, hv]
    have hq0 := g.zero hv
    have hpv : P.vals = List.replicate made [] := by rw [h.vals, hv]; simp
    have hp0 : P.full = 0 := by rw [h.full, hq0]
    have qv : (Q.addN d).vals = [[d]] := by
      simp only [St.addN, hqf, if_true, St.next, St.push, nextVals, nextFull, hv, hq0]
      rfl
    have qf : (Q.addN d).full = 0 := by
      simp only [St.addN, hqf, if_true, St.next, St.push, nextVals, nextFull, hv]
    have qw : (Q.addN d).wide = Q.wide := by simp only [St.addN, hqf, if_true, St.next, St.push]
    by_cases hm : made = 0
    · have hpe : P.vals = [] := by rw [hpv, hm]; rfl
      have hpf : P.fullB = true := by simp [St.fullB, hpe]
      refine ⟨?_, ?_, ?_⟩
      · rw [qv]
        simp only [St.addN, hpf, if_true, St.next, St.push, nextVals, nextFull, hpe, hp0]
        rw [hm]
        rfl
      · rw [qf]
        simp only [St.addN, hpf, if_true, St.next, St.push, nextVals, nextFull, hpe]
      · rw [qw]
        simp only [St.addN, hpf, if_true, St.next, St.push]
        exact h.wide
    · obtain ⟨m, rfl⟩ : ∃ m, made = m + 1 := ⟨made - 1, by omega⟩
      have hpf : P.fullB = false := by
        simp only [St.fullB, hpv, hp0]
        simp [List.replicate_succ, capOf_zero]
      refine ⟨?_, ?_, ?_⟩
      · rw [qv]
        simp only [St.addN, hpf, St.push, hpv, hp0]
        simp [List.replicate_succ]
      · rw [qf]
        simp only [St.addN, hpf, St.push, hp0]
        rfl
      · rw [qw]
        simp only [St.addN, hpf, St.push]
        exact h.wide
  · have hl := g.last hv
    have hpv : P.vals ≠ [] := by rw [h.vals]; simp [hv]
    have hfb : P.fullB = Q.fullB := by
      simp only [St.fullB]
      rw [h.full, h.getD]
      cases hp : P.vals with
      | nil => exact absurd hp hpv
      | cons a l => cases hq : Q.vals with
        | nil => exact absurd hq hv
        | cons a' l' => simp
    by_cases hf : Q.fullB = true
    · rw [hf] at hfb
      simp only [St.addN, hf, hfb, if_true]
      have qv : Q.next.vals = Q.vals ++ [[]] := by simp only [St.next, nextVals]; rw [if_pos (by omega)]
      have qf : Q.next.full = Q.full + 1 := by simp only [St.next, nextFull]; rw [if_neg hv]
      have pf : P.next.full = Q.full + 1 := by simp only [St.next, nextFull]; rw [if_neg hpv, h.full]
      have hnext : Track made P.next Q.next := by
        refine ⟨?_, by rw [pf, qf], h.wide⟩
        rw [qv]
        by_cases hm : made ≤ Q.vals.length
        · have hpl : P.vals = Q.vals := by rw [h.vals, Nat.sub_eq_zero_of_le hm]; simp
          simp only [St.next, nextVals]
          rw [hpl, h.full, if_pos (by omega)]
          have : made - (Q.vals ++ [[]]).length = 0 := by simp; omega
          rw [this]
          simp
        · obtain ⟨r, hr⟩ : ∃ r, made - Q.vals.length = r + 1 := ⟨made - Q.vals.length - 1, by omega⟩
          have hpl : P.vals.length = made := by rw [h.vals]; simp; omega
          have hpe : P.next.vals = P.vals := by simp only [St.next, nextVals]; rw [if_neg (by rw [hpl, h.full]; omega)]
          rw [hpe, h.vals, hr]
          have : made - (Q.vals ++ [[]]).length = r := by simp; omega
          rw [this, List.replicate_succ]
          simp
      exact hnext.push (by rw [qv, qf]; simp; omega) d
    · have hf' : Q.fullB = false := by simpa using hf
      rw [hf'] at hfb
      simp only [St.addN, hf', hfb]
      exact h.push (by omega) d

theorem Track.add {made : Nat} {P Q : St} {ns ws : List Int} (h : Track made P Q) (g : Greedy Q ns ws) (d : Int) : Track made (P.add d) (Q.add d) := by
  by_cases hd : d ≤ 4294967295
  · simp only [St.add, hd, if_true]; exact h.addN g d
  · simp only [St.add, hd, if_false]; exact h.addW d

theorem track_fill (S : St) (l : List Int) : ∀ k, k ≤ l.length → Track S.vals.length (fillFrom S.reset (l.take k)) (fill (l.take k)) := by
  intro k
  induction k with
  | zero => intro _; exact Track.start S
  | succ k ih =>
    intro hk
    rw [take_snoc l k (by omega)]
    unfold fill
    rw [fillFrom_snoc, fillFrom_snoc]
    exact (ih (by omega)).add (fill_greedy l k (by omega)) _

theorem Track.flat {made : Nat} {P Q : St} (h : Track made P Q) : P.vals.flatten = Q.vals.flatten := by
  rw [h.vals, List.flatten_append]
  have : (List.replicate (made - Q.vals.length) ([] : List Int)).flatten = [] := by
    generalize made - Q.vals.length = n
    induction n with
    | zero => rfl
    | succ n ih => rw [List.replicate_succ, List.flatten_cons, ih]; rfl
  rw [this, List.append_nil]
theorem Track.len {made : Nat} {P Q : St} (h : Track made P Q) : P.vals.length = max made Q.vals.length := by
  rw [h.vals]; simp; omega
theorem Track.inF {made : Nat} {P Q : St} (h : Track made P Q) (k : Nat) (hk : k ≤ Q.vals.length) : Go.Proofs.Qxb6600929a.inF P.vals k = Go.Proofs.Qxb6600929a.inF Q.vals k := by
  unfold Go.Proofs.Qxb6600929a.inF
  rw [h.vals, List.take_append_of_le_length hk]
theorem Track.nlen {made : Nat} {P Q : St} {ns ws : List Int} (h : Track made P Q) (g : Greedy Q ns ws) : P.nlen = Q.nlen := by
  unfold St.nlen
  rw [h.full, h.getD]
  by_cases hv : Q.vals = []
  · rw [g.zero hv]; rfl
  · have := g.last hv
    rw [h.inF Q.full (by omega)]

/-- The bounds of the refilled record. -/
theorem track_bounds {made : Nat} {P : St} {ds : List Int} {k : Nat} (h : Track made P (fill (ds.take k))) (hm : made ≤ 1000000) (hk : k ≤ ds.length) (hl : ds.length ≤ 262144) :
    P.vals.length ≤ 1000000 ∧ P.vals.flatten.length ≤ 1000000 ∧ P.wide.length ≤ 1000000 := by
  obtain ⟨h1, h2, h3⟩ := fill_bounds ds k hk hl
  rw [h.len, h.flat, h.wide]
  exact ⟨by omega, h2, h3⟩

/-- Two records in one memory. -/
structure Two (w0 : World) (B Bq : Nat) (P Q : St) (F G : List Nat) (w : World) : Prop where
  p : RecS w B B P F
  q : RecS w Bq Bq Q G
  below : Below B w0 w
  fq : ∀ k, k ∈ F → k < Bq

section
variable {w0 w w' : World} {B Bq : Nat} {P Q : St} {F G : List Nat}
theorem Two.apart (h : Two w0 B Bq P Q F G w) : ∀ k, k ∈ F → k ∉ G := fun k hf hg => by
  have h1 := h.fq k hf
  have h2 := (h.q.foot_lt k hg).1
  omega
theorem Two.stepP (h : Two w0 B Bq P Q F G w) (st : Step w w' F F) (hp : RecS w' B B P F) : Two w0 B Bq P Q F G w' :=
  ⟨hp, h.q.apart st fun k hk hf => h.apart k hf hk, h.below.trans (h.p.stepBelow st), h.fq⟩
theorem Two.stepQ (h : Two w0 B Bq P Q F G w) (hB : B ≤ Bq) (st : Step w w' G G) (hq : RecS w' Bq Bq Q G) : Two w0 B Bq P Q F G w' :=
  ⟨h.p.apart st h.apart, hq, h.below.trans ((h.q.stepBelow st).mono hB), h.fq⟩
theorem Two.same (h : Two w0 B Bq P Q F G w) (hs : Same w w') : Two w0 B Bq P Q F G w' :=
  ⟨h.p.same hs, h.q.same hs, h.below.trans (hs.below _), h.fq⟩
theorem View.apartQ {v : Value} (hv : View w v P F) (h : Two w0 B Bq P Q F G w) (st : Step w w' G G) : View w' v P F :=
  hv.keep st.size fun k hk hlt => st.block k hlt (h.apart k hk)
end

end Go.Proofs.Qxb6600929a
