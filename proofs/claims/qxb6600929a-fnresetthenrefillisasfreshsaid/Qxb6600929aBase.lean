/- The record 'finiteSingletons' in memory: one predicate, 'Rec', and what a step may change, 'Step'. -/
import Derived.Test.Qxb6600929aRows
import Derived.WalkKit
import Derived.WalkSpells
import Derived.WalkLawsBesides
import Derived.Deep.AppendLies
import Derived.Deep.DeepAppendRoom
namespace Go.Proofs.Qxb6600929a
open Go.RowKit

theorem hide {p : Prop} (h : p) : Hid p := h
theorem unhide {p : Prop} (h : Hid p) : p := h

theorem Try.info36 : (Try.prog.info? 36).map (fun i => (i.zero, i.size, i.bytes)) = some (some (.int .u32 0), 1, 4) := by kernel_rfl
theorem Try.info24 : (Try.prog.info? 24).map (fun i => (i.zero, i.size, i.bytes)) = some (some (.slice none 0 0), 1, 24) := by kernel_rfl
theorem Try.info2 : (Try.prog.info? 2).map (fun i => (i.zero, i.size, i.bytes)) = some (some (.int .i64 0), 1, 8) := by kernel_rfl

/-- The capacity of chunk k. -/
def capOf (k : Nat) : Nat := min (64 * 2 ^ k) 65536
theorem capOf_hi (k : Nat) : capOf k ≤ 65536 := Nat.min_le_right _ _
theorem capOf_lo (k : Nat) : 64 ≤ capOf k := by
  unfold capOf
  have : 1 ≤ 2 ^ k := Nat.one_le_two_pow
  omega
theorem capOf_zero : capOf 0 = 64 := rfl
theorem capOf_next (k : Nat) : capOf (k + 1) = min (2 * capOf k) 65536 := by
  unfold capOf
  have : 2 ^ (k + 1) = 2 * 2 ^ k := by rw [Nat.pow_succ]; omega
  rw [this]
  omega

/-- Chunk k as a slice value of l elements. -/
def chunkV (blks : List Nat) (k l : Nat) : Value := .slice (some ⟨blks.getD k 0, 0, none⟩) l (capOf k)
/-- The field 'narrow'. -/
def narV (blks : List Nat) (vals : List (List Int)) (full : Nat) : Value :=
  if vals = [] then .slice none 0 0 else chunkV blks full (vals.getD full []).length
/-- The field 'inFull'. -/
def inF (vals : List (List Int)) (full : Nat) : Nat := (vals.take full).flatten.length
/-- The blocks that the record owns. -/
def foot (b : Nat) (blks : List Nat) (cv wv : Value) : List Nat := b :: (blks ++ (cv.ownBlock.toList ++ wv.ownBlock.toList))

/-- What a step may change: nothing that was there but the blocks in F; it owns F' behind it. -/
structure Step (w w' : World) (F F' : List Nat) : Prop where
  os : w'.os = w.os
  tape : w'.tape = w.tape
  output : w'.output = w.output
  size : w.heap.size ≤ w'.heap.size
  block : ∀ k, k < w.heap.size → k ∉ F → w'.heap[k]? = w.heap[k]?
  foot : ∀ k, k ∈ F' → k ∈ F ∨ w.heap.size ≤ k

theorem Step.refl (w : World) (F : List Nat) : Step w w F F := ⟨rfl, rfl, rfl, Nat.le_refl _, fun _ _ _ => rfl, fun _ h => .inl h⟩
theorem Step.trans {a b c : World} {F G H : List Nat} (h : Step a b F G) (k : Step b c G H) : Step a c F H :=
  ⟨k.os.trans h.os, k.tape.trans h.tape, k.output.trans h.output, Nat.le_trans h.size k.size,
   fun i hi hn => (k.block i (Nat.lt_of_lt_of_le hi h.size) (fun hg => by rcases h.foot i hg with q | q; exact hn q; omega)).trans (h.block i hi hn),
   fun i hi => by
    rcases k.foot i hi with q | q
    · exact h.foot i q
    · exact .inr (Nat.le_trans h.size q)⟩
theorem Step.below {w w' : World} {F F' : List Nat} (h : Step w w' F F') {B : Nat} (hF : ∀ k, k ∈ F → B ≤ k) (hB : B ≤ w.heap.size) : Below B w w' :=
  ⟨h.os, h.tape, h.output, h.size, fun k hk => h.block k (by omega) (fun hf => by have := hF k hf; omega)⟩

/-- The record at block b: 'vals' the contents of the chunks made, 'full' which of them is being filled, 'wide' the wide ones. -/
structure Rec (w : World) (base b : Nat) (vals : List (List Int)) (full : Nat) (wide : List Int) (blks : List Nat) (cv wv : Value) (cells : List Value) : Prop where
  hb : w.heap[b]? = some (.cells #[narV blks vals full, cv, .int .i64 full, .int .i64 (inF vals full), wv, .slice none 0 0] 28 (0, 0))
  base_b : base ≤ b
  blen : blks.length = vals.length
  cOwn : w.ownsRow base 24 1 cv vals.length cells
  wOwn : w.ownsRow base 2 1 wv wide.length (wide.map (Value.int .i64))
  chunk : ∀ k, k < vals.length → w.ownsRow base 36 1 (chunkV blks k (vals.getD k []).length) (vals.getD k []).length ((vals.getD k []).map (Value.int .u32))
  cell : ∀ k, k < vals.length → ∃ l, cells[k]? = some (chunkV blks k l) ∧ l ≤ capOf k ∧ (k ≠ full → l = (vals.getD k []).length)
  fullLt : vals ≠ [] → full < vals.length
  full0 : vals = [] → full = 0
  after : ∀ k, full < k → vals.getD k [] = []
  nodup : (foot b blks cv wv).Nodup
  cnil : vals = [] → cv = .slice none 0 0

/-- The record, its representation forgotten but for the blocks that it owns. -/
def RecE (w : World) (base b : Nat) (vals : List (List Int)) (full : Nat) (wide : List Int) (F : List Nat) : Prop :=
  ∃ blks cv wv cells, Rec w base b vals full wide blks cv wv cells ∧ F = foot b blks cv wv

/-! ### Blocks of a world behind a store, a new block -/
theorem heap_set_at {w : World} {g i : Nat} {cs : Array Value} {e : TypeId} {fr : Nat × Nat} {v : Value} (h : w.heap[g]? = some (.cells cs e fr)) :
    (w.setCell ⟨g, i, none⟩ v).heap[g]? = some (.cells (cs.setIfInBounds i v) e fr) := by
  simp [World.setCell, Array.getElem?_modify, h]
theorem heap_set_ne {w : World} {g k i : Nat} {v : Value} (h : k ≠ g) : (w.setCell ⟨g, i, none⟩ v).heap[k]? = w.heap[k]? :=
  Below.heap_setCell w ⟨g, i, none⟩ v k h

/-- An owned row is owned in every world in which its block is as it was. -/
theorem owns_keep {w w' : World} {base : Nat} {e : TypeId} {size : Nat} {v : Value} {n : Nat} {xs : List Value} (h : w.ownsRow base e size v n xs)
    (hk : ∀ g, v.ownBlock = some g → w'.heap[g]? = w.heap[g]?) : w'.ownsRow base e size v n xs := by
  refine ⟨h.1, ?_⟩
  rcases h.2 with hn | ⟨g, cap, cur, rfl, hb, hgg, rest⟩
  · exact .inl hn
  · exact .inr ⟨g, cap, cur, rfl, hb, by rw [hk g rfl]; exact hgg, rest⟩

theorem owns_lt {w : World} {base : Nat} {e : TypeId} {size : Nat} {v : Value} {n : Nat} {xs : List Value} (h : w.ownsRow base e size v n xs) {g : Nat}
    (hg : v.ownBlock = some g) : base ≤ g ∧ g < w.heap.size := h.lt g hg

/-- A slice value with an address owns its block. -/
theorem owns_some {w : World} {base : Nat} {e : TypeId} {g n cap m : Nat} {xs : List Value} (h : w.ownsRow base e 1 (.slice (some ⟨g, 0, none⟩) n cap) m xs) :
    n = m ∧ xs.length = n ∧ n ≤ cap ∧ cap ≤ maxLen ∧ base ≤ g ∧ ∃ cur : Array Value, w.heap[g]? = some (.cells cur e (0, 0)) ∧ cur.size = cap ∧ cur.toList.take n = xs := by
  rcases h.2 with ⟨h', _⟩ | ⟨g', cap', cur, h', hb, hg, h1, h2, h3, htake⟩
  · simp at h'
  · simp only [Value.slice.injEq, Option.some.injEq, Addr.mk.injEq, and_true] at h'
    obtain ⟨rfl, rfl, rfl⟩ := h'
    exact ⟨rfl, by have := h.1; omega, h1, h2, hb, cur, hg, by omega, by simpa using htake⟩

/-- The form of an owned value. -/
theorem owns_form {w : World} {base : Nat} {e : TypeId} {v : Value} {n : Nat} {xs : List Value} (h : w.ownsRow base e 1 v n xs) :
    (v = .slice none 0 0 ∧ n = 0 ∧ xs = []) ∨ ∃ g cap, v = .slice (some ⟨g, 0, none⟩) n cap ∧ n ≤ cap ∧ cap ≤ maxLen ∧ base ≤ g ∧ g < w.heap.size := by
  rcases h.2 with ⟨h1, h2⟩ | ⟨g, cap, cur, hv, hb, hg, h1, h2, h3, htake⟩
  · exact .inl ⟨h1, h2, by have := h.1; subst h2; simpa using this⟩
  · exact .inr ⟨g, cap, hv, h1, h2, hb, (Array.getElem?_eq_some_iff.1 hg).1⟩

/-- Cell j of an owned row. -/
theorem owns_cell {w : World} {base : Nat} {e : TypeId} {g n cap m : Nat} {xs : List Value} (h : w.ownsRow base e 1 (.slice (some ⟨g, 0, none⟩) n cap) m xs) {j : Nat} {u : Value}
    (hu : xs[j]? = some u) : w.cell? ⟨g, j, none⟩ = some u := by
  obtain ⟨_, hl, _, _, _, cur, hg, _, ht⟩ := owns_some h
  rw [cell_of_row w g j cur e (0, 0) hg]
  rw [← ht, List.getElem?_take] at hu
  split at hu
  · simpa using hu
  · cases hu
theorem owns_frozen {w : World} {base : Nat} {e : TypeId} {g n cap m : Nat} {xs : List Value} (h : w.ownsRow base e 1 (.slice (some ⟨g, 0, none⟩) n cap) m xs) (j : Nat) :
    w.frozen? ⟨g, j, none⟩ = false := by
  obtain ⟨_, hl, _, _, _, cur, hg, _, ht⟩ := owns_some h
  exact frozen_of_row w g j cur e hg

/-- A store into an owned row. -/
theorem owns_set {w w' : World} {base : Nat} {e : TypeId} {g n cap m j : Nat} {xs : List Value} {u : Value} (h : w.ownsRow base e 1 (.slice (some ⟨g, 0, none⟩) n cap) m xs)
    (hw : ∀ cs, w.heap[g]? = some (.cells cs e (0, 0)) → w'.heap[g]? = some (.cells (cs.setIfInBounds j u) e (0, 0))) :
    w'.ownsRow base e 1 (.slice (some ⟨g, 0, none⟩) n cap) m (xs.set j u) := by
  obtain ⟨rfl, hl, h1, h2, h3, cur, hg, hs, ht⟩ := owns_some h
  refine ⟨by simpa using h.1, .inr ⟨g, cap, _, rfl, h3, hw cur hg, h1, h2, by simpa using hs, ?_⟩⟩
  rw [Nat.mul_one, Array.toList_setIfInBounds, List.take_set, ht]

/-- The same row, its length cut to nothing. -/
theorem owns_zero {w : World} {base : Nat} {e : TypeId} {g n cap m : Nat} {xs : List Value} (h : w.ownsRow base e 1 (.slice (some ⟨g, 0, none⟩) n cap) m xs) :
    w.ownsRow base e 1 (.slice (some ⟨g, 0, none⟩) 0 cap) 0 [] := by
  obtain ⟨rfl, hl, h1, h2, h3, cur, hg, hs, ht⟩ := owns_some h
  exact ⟨rfl, .inr ⟨g, cap, cur, rfl, h3, hg, by omega, h2, by omega, by simp⟩⟩

/-! ### What the record gives a walk -/
section
variable {w : World} {base b : Nat} {vals : List (List Int)} {full : Nat} {wide : List Int} {blks : List Nat} {cv wv : Value} {cells : List Value}

theorem Rec.field (h : Rec w base b vals full wide blks cv wv cells) (i : Nat) (v : Value) (hv : (#[narV blks vals full, cv, .int .i64 full, .int .i64 (inF vals full), wv, .slice none 0 0] : Array Value)[i]? = some v) :
    w.cell? ⟨b, i, none⟩ = some v := by rw [cell_of_row w b i _ 28 (0, 0) h.hb]; exact hv
theorem Rec.free (h : Rec w base b vals full wide blks cv wv cells) (i : Nat) : w.frozen? ⟨b, i, none⟩ = false := frozen_of_row w b i _ 28 h.hb
theorem Rec.b_lt (h : Rec w base b vals full wide blks cv wv cells) : b < w.heap.size := (Array.getElem?_eq_some_iff.1 h.hb).1
theorem Rec.cells_len (h : Rec w base b vals full wide blks cv wv cells) : cells.length = vals.length := by have := h.cOwn.1; omega
theorem Rec.foot_lt (h : Rec w base b vals full wide blks cv wv cells) : ∀ k, k ∈ foot b blks cv wv → base ≤ k ∧ k < w.heap.size := by
  intro k hk
  simp only [foot, List.mem_cons, List.mem_append, Option.mem_toList] at hk
  rcases hk with rfl | hk | hk | hk
  · exact ⟨h.base_b, h.b_lt⟩
  · obtain ⟨i, hi, he⟩ := List.getElem_of_mem hk
    have hi' : i < vals.length := by have := h.blen; omega
    have hc := owns_lt (h.chunk i hi') (g := k) (by simp [chunkV, Value.ownBlock, List.getD, hi, he])
    exact hc
  · exact owns_lt h.cOwn hk
  · exact owns_lt h.wOwn hk

end
end Go.Proofs.Qxb6600929a
