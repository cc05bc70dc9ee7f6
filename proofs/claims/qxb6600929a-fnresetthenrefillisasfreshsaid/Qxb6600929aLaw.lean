/- What all five laws share: a slice that came in; the record as it is made. -/
import Derived.Test.Qxb6600929aRead
import Derived.Test.Qxb6600929aPure
import Derived.OpenShut
namespace Go.Proofs.Qxb6600929a
open Go.RowKit
set_option linter.unusedSimpArgs false
set_option linter.unusedVariables false

/-- WHAT THE WALK IS TOLD OF A SLICE OF INTEGERS THAT CAME IN (as the shell has it). -/
def IsRow (k : IntKind) (w : World) (a : Option Addr) (len cap : Nat) (zs : List Int) : Prop :=
  (a = none ∧ len = 0 ∧ cap = 0 ∧ zs = []) ∨
  ∃ x, a = some x ∧ len ≤ cap ∧ cap ≤ maxLen ∧ zs.length = cap ∧ (∀ i, i < zs.length → w.cell? (x.add i) = some (.int k (zs.getD i 0))) ∧ ∀ n ∈ zs, (Lit.int k n).wf = true

/-- The elements alone. -/
def InRow (k : IntKind) (w : World) (a0 : Option Addr) (ds : List Int) : Prop :=
  0 < ds.length → ∃ bb off, a0 = some ⟨bb, off, none⟩ ∧ bb < w.heap.size ∧ ∀ j, j < ds.length → w.cell? ⟨bb, off + j, none⟩ = some (.int k (ds.getD j 0))

theorem IsRow.inRow {k : IntKind} {w : World} {a : Option Addr} {len cap : Nat} {zs : List Int} (h : IsRow k w a len cap zs) :
    ∃ ds : List Int, ds.length = len ∧ InRow k w a ds ∧ (∀ n ∈ ds, (Lit.int k n).wf = true) ∧ len ≤ maxLen := by
  rcases h with ⟨rfl, rfl, rfl, rfl⟩ | ⟨x, rfl, h1, h2, h3, h4, h5⟩
  · exact ⟨[], rfl, fun h => by simp at h, fun n hn => by simp at hn, Nat.zero_le _⟩
  · refine ⟨zs.take len, by simp; omega, fun hpos => ?_, fun n hn => h5 n (List.mem_of_mem_take hn), by omega⟩
    have hp : 0 < zs.length := by simp at hpos; omega
    obtain ⟨bb, off, rfl, hc⟩ := ints_at h4 hp
    refine ⟨bb, off, rfl, World.block_lt_of_cell? w _ (hc 0 hp), fun j hj => ?_⟩
    simp at hj
    rw [hc j (by omega)]
    have : (zs.take len).getD j 0 = zs.getD j 0 := by simp [List.getD, List.getElem?_take, show j < len by omega]
    rw [this]

/-- A record just made. -/
theorem rec_made (w : World) : RecS (w.alloc (.cells #[.slice none 0 0, .slice none 0 0, .int .i64 0, .int .i64 0, .slice none 0 0, .slice none 0 0] 28)) w.heap.size w.heap.size St.none [w.heap.size] := by
  refine ⟨[], .slice none 0 0, .slice none 0 0, [], ⟨?_, Nat.le_refl _, rfl, World.ownsRow_nil _ _ _ _, World.ownsRow_nil _ _ _ _, ?_, ?_, ?_, fun _ => rfl, ?_, ?_, fun _ => rfl⟩, rfl⟩
  · rw [heap_alloc_new]; rfl
  · intro k hk; simp [St.none] at hk
  · intro k hk; simp [St.none] at hk
  · intro h; exact absurd rfl h
  · intro k hk; simp [St.none, List.getD]
  · simp [foot, Value.ownBlock]

theorem InRow.below {k : IntKind} {w w' : World} {a : Option Addr} {ds : List Int} (h : InRow k w a ds) (hb : Below w.heap.size w w') : InRow k w' a ds := by
  intro hp
  obtain ⟨bb, off, e, hl, hc⟩ := h hp
  exact ⟨bb, off, e, by have := hb.size; omega, fun j hj => (hb.cell (p := ⟨bb, off + j, none⟩) hl).trans (hc j hj)⟩

theorem RecS.stepBelow {w w' : World} {base b : Nat} {S : St} {F F' : List Nat} (h : RecS w base b S F) (st : Step w w' F F') : Below base w w' :=
  st.below (fun k hk => (h.foot_lt k hk).1) (by obtain ⟨blks, cv, wv, cells, r, rfl⟩ := h; have := r.b_lt; have := r.base_b; omega)

end Go.Proofs.Qxb6600929a
