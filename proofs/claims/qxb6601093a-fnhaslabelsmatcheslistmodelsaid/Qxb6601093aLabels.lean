/- Labels as lists of pairs: the plain law; the map that a list stands for. -/
import Derived.Test.Qxb6601093aRows
import Derived.WalkKit
import Derived.WalkSpells
import Derived.WalkLawsBesides
import Derived.BigRegion
import Derived.BigQuiet
import Derived.Maps.Own
import Derived.Maps.OwnSet
import Derived.Maps.RangeWalk
import Derived.Maps.StringElems
import Derived.Maps.Views
namespace Go.Proofs.Qxb6601093a
open Go.RowKit
set_option linter.unusedSimpArgs false
set_option linter.unusedVariables false
theorem hide {p : Prop} (h : p) : Hid p := h
theorem unhide {p : Prop} (h : Hid p) : p := h
theorem ret_bool {a b : Bool} (h : a = b) : Ending.returned (.bool a) = .returned (.bool b) := by rw [h]
theorem ret_int {k : IntKind} {a b : Int} (h : a = b) : Ending.returned (.int k a) = .returned (.int k b) := by rw [h]

abbrev Pr := ByteArray × ByteArray
def nop : Pr := (ByteArray.empty, ByteArray.empty)

/-- The last index below n at which the key stands, or -1. -/
def lastI (ls : List Pr) (key : ByteArray) : Nat → Int
  | 0 => -1
  | n + 1 => if (ls.getD n nop).1 = key then (n : Int) else lastI ls key n
def lastIdx (ls : List Pr) (key : ByteArray) : Int := lastI ls key ls.length

theorem lastI_bounds (ls : List Pr) (key : ByteArray) : ∀ n, -1 ≤ lastI ls key n ∧ lastI ls key n < n := by
  intro n
  induction n with
  | zero => simp [lastI]
  | succ n ih =>
    simp only [lastI]
    split
    · omega
    · omega
theorem lastI_key (ls : List Pr) (key : ByteArray) : ∀ n, 0 ≤ lastI ls key n → (ls.getD (lastI ls key n).toNat nop).1 = key := by
  intro n
  induction n with
  | zero => intro h; simp [lastI] at h
  | succ n ih =>
    intro h
    simp only [lastI] at h ⊢
    split
    · next he => simpa using he
    · next he => rw [if_neg he] at h; exact ih h
/-- A key that stands somewhere has a last index. -/
theorem lastI_pos (ls : List Pr) (key : ByteArray) : ∀ n i, i < n → (ls.getD i nop).1 = key → 0 ≤ lastI ls key n := by
  intro n
  induction n with
  | zero => intro i h; omega
  | succ n ih =>
    intro i hi hk
    simp only [lastI]
    split
    · omega
    · next he =>
      by_cases e : i = n
      · subst e; exact absurd hk he
      · exact ih i (by omega) hk

/-- Does the label named so stand, with its winning value? -/
def okAt (labels want : List Pr) (key : ByteArray) : Bool :=
  decide (0 ≤ lastIdx labels key) && ((labels.getD (lastIdx labels key).toNat nop).2.toList == (want.getD (lastIdx want key).toNat nop).2.toList)
/-- The list model. -/
def model (labels want : List Pr) : Bool := (List.range want.length).all fun i => okAt labels want (want.getD i nop).1

/-- The key of the map. -/
def keyL (s : ByteArray) : Lit := .string s.data.toList
def valD (s : ByteArray) : DataW Unit := .lit (.string s.data.toList)
/-- The map that the first n entries stand for. -/
def mapD (ls : List Pr) : Nat → DataW Unit
  | 0 => .map []
  | n + 1 => (mapD ls n).put (keyL (ls.getD n nop).1) (valD (ls.getD n nop).2)

theorem keyL_inj {a b : ByteArray} (h : keyL a = keyL b) : a = b := by
  unfold keyL at h
  exact WideShapes.bytes_inj (by simpa using h)
theorem keyL_is (a : ByteArray) : WideAt.IsKeyLit (keyL a) := by unfold keyL; trivial

theorem mapD_isMap (ls : List Pr) : ∀ n, Maps.IsMap (mapD ls n) := by
  intro n
  induction n with
  | zero => exact Maps.isMap_empty
  | succ n ih => exact ih.put _ _

theorem mapD_has (ls : List Pr) (key : ByteArray) : ∀ n, Maps.has (mapD ls n) (keyL key) = true ↔ 0 ≤ lastI ls key n := by
  intro n
  induction n with
  | zero => simp [mapD, lastI, Maps.has]
  | succ n ih =>
    simp only [mapD, lastI]
    by_cases h : (ls.getD n nop).1 = key
    · rw [if_pos h, h, Maps.has_put_same (mapD_isMap ls n) (keyL_is key)]
      simp
    · rw [if_neg h, Maps.has_put_other (fun e => h (keyL_inj e).symm), ih]
theorem mapD_at (ls : List Pr) (key : ByteArray) (z : DataW Unit) : ∀ n, 0 ≤ lastI ls key n → (mapD ls n).atKey (keyL key) z = valD (ls.getD (lastI ls key n).toNat nop).2 := by
  intro n
  induction n with
  | zero => intro h; simp [lastI] at h
  | succ n ih =>
    intro h
    simp only [mapD, lastI] at h ⊢
    by_cases he : (ls.getD n nop).1 = key
    · rw [if_pos he, he, Maps.atKey_put_same (mapD_isMap ls n) (keyL_is key)]
      simp
    · rw [if_neg he] at h
      rw [if_neg he, Maps.atKey_put_other (fun e => he (keyL_inj e).symm), ih h]

/-- The keys of the map are the list's. -/
theorem mapD_keys (ls : List Pr) (key : ByteArray) (h : Maps.has (mapD ls ls.length) (keyL key) = true) : ∃ i, i < ls.length ∧ (ls.getD i nop).1 = key := by
  have h0 : 0 ≤ lastI ls key ls.length := (mapD_has ls key _).1 h
  have hb := lastI_bounds ls key ls.length
  exact ⟨(lastI ls key ls.length).toNat, by omega, lastI_key ls key ls.length h0⟩

/-- What the loop over the map asks of one key. -/
def okMap (labels want : List Pr) (key : ByteArray) : Prop :=
  Maps.has (mapD labels labels.length) (keyL key) = true ∧ (mapD labels labels.length).atKey (keyL key) (.lit (.string [])) = (mapD want want.length).atKey (keyL key) (.lit (.string []))

theorem okMap_iff (labels want : List Pr) (key : ByteArray) (h : Maps.has (mapD want want.length) (keyL key) = true) : okMap labels want key ↔ okAt labels want key = true := by
  have hw : 0 ≤ lastI want key want.length := (mapD_has want key _).1 h
  unfold okMap okAt lastIdx
  rw [mapD_has, mapD_at want key _ _ hw, Bool.and_eq_true, decide_eq_true_iff]
  constructor
  · rintro ⟨h0, h2⟩
    rw [mapD_at labels key _ _ h0] at h2
    refine ⟨h0, ?_⟩
    unfold valD at h2
    rw [ByteArray.toList_eq, ByteArray.toList_eq]
    simpa using h2
  · rintro ⟨h0, h2⟩
    rw [mapD_at labels key _ _ h0]
    refine ⟨h0, ?_⟩
    unfold valD
    rw [ByteArray.toList_eq, ByteArray.toList_eq] at h2
    have h3 : (labels.getD (lastI labels key labels.length).toNat nop).2.data.toList = (want.getD (lastI want key want.length).toNat nop).2.data.toList := by simpa using h2
    rw [h3]

theorem model_true (labels want : List Pr) (h : ∀ key, Maps.has (mapD want want.length) (keyL key) = true → okMap labels want key) : model labels want = true := by
  unfold model
  rw [List.all_eq_true]
  intro i hi
  have hi' : i < want.length := by simpa using hi
  have hh : Maps.has (mapD want want.length) (keyL (want.getD i nop).1) = true := by
    rw [mapD_has]
    exact lastI_pos want _ want.length i hi' rfl
  exact (okMap_iff labels want _ hh).1 (h _ hh)
theorem model_false (labels want : List Pr) (key : ByteArray) (h : Maps.has (mapD want want.length) (keyL key) = true) (hn : ¬ okMap labels want key) : model labels want = false := by
  obtain ⟨i, hi, he⟩ := mapD_keys want key h
  have h1 : okAt labels want key = false := by
    cases hb : okAt labels want key with
    | false => rfl
    | true => exact absurd ((okMap_iff labels want key h).2 hb) hn
  cases hm : model labels want with
  | false => rfl
  | true =>
    unfold model at hm
    rw [List.all_eq_true] at hm
    have := hm i (by simpa using hi)
    rw [he, h1] at this
    cases this

end Go.Proofs.Qxb6601093a
