/- 'zzUtoa' and 'succ', walked. -/
import Derived.Test.Qxb6601093aRows
import Derived.Test.Qxb6601093aDigits
import Derived.WalkKit
import Derived.WalkSpells
import Derived.WalkLawsBesides
import Derived.BigRegion
import Derived.BigQuiet
import Derived.Laws.IdiomStrings
import Derived.Lib.ConvBytes
import Derived.Laws.BytesArg
namespace Go.Proofs.Qxb6601093a
open Go.RowKit
set_option linter.unusedSimpArgs false
set_option linter.unusedVariables false
theorem hide {p : Prop} (h : p) : Hid p := h
theorem unhide {p : Prop} (h : Hid p) : p := h
theorem ret_int {k : IntKind} {a b : Int} (h : a = b) : Ending.returned (.int k a) = .returned (.int k b) := by rw [h]
theorem ret_str {a b : ByteArray} (h : a = b) : Ending.returned (.string a) = .returned (.string b) := by rw [h]

theorem heap_set_at {w : World} {g i : Nat} {cs : Array Value} {e : TypeId} {fr : Nat × Nat} {v : Value} (h : w.heap[g]? = some (.cells cs e fr)) :
    (w.setCell ⟨g, i, none⟩ v).heap[g]? = some (.cells (cs.setIfInBounds i v) e fr) := by
  simp [World.setCell, Array.getElem?_modify, h]

theorem Try.info5 : (Try.prog.info? 5).map (fun i => (i.zero, i.size, i.bytes)) = some (some (.int .u8 0), 1, 1) := by kernel_rfl

theorem slice_tail (H x : Nat) (hx : x < 20) (w : World) :
    (Instr.sliceAt 39 (.pointer (some ⟨H, 0, none⟩)) (some (.int .i64 x)) none none).run Try.prog w = .ok (.slice (some ⟨H, x, none⟩) (20 - x) (20 - x)) w := by
  obtain ⟨i0, hi, hz0, hz1, hz2⟩ := info_parts Try.info5
  have h2 : x ≤ 20 := by omega
  have h3 : ¬ 20 = x := by omega
  have h4 : (⟨H, 0, none⟩ : Addr).add x = ⟨H, x, none⟩ := by unfold Addr.add; split <;> simp_all
  simp [Instr.sliceAt, Instr.sureAddr, run_underlying Try.underlying39, Instr.sliceBounds, Instr.sliceBound, asIntOf, sizeOf, typeInfo, hi, hz1, h2, h3, h4]

/-- The digits written so far: the last of the 20 cells. -/
structure Wrote (w wr : World) (H m : Nat) (ds : List Int) : Prop where
  below : Below H w wr
  len : ds.length = m
  cells : ∃ cur : Array Value, wr.heap[H]? = some (.cells cur 39 (0, 0)) ∧ cur.size = 20 ∧ ∀ j, j < m → cur[20 - m + j]? = some (.int .u8 (ds.getD j 0))

theorem Wrote.step {w wr w2 : World} {H m : Nat} {ds : List Int} (h : Wrote w wr H m ds) (hm : m < 20) (x : Int) (hw : w2 = wr.setCell ⟨H, 19 - m, none⟩ (.int .u8 x)) : Wrote w w2 H (m + 1) (x :: ds) := by
  subst hw
  obtain ⟨cur, h1, h2, h3⟩ := h.cells
  refine ⟨h.below.setCell (Nat.le_refl _) _, by simp [h.len], cur.setIfInBounds (19 - m) (.int .u8 x), heap_set_at h1, by simp [h2], fun j hj => ?_⟩
  cases j with
  | zero =>
    have e : 20 - (m + 1) + 0 = 19 - m := by omega
    rw [e, Array.getElem?_setIfInBounds_self_of_lt (by omega)]
    rfl
  | succ j =>
    have e : 20 - (m + 1) + (j + 1) = 20 - m + j := by omega
    rw [e, Array.getElem?_setIfInBounds_ne (by omega), h3 j (by omega)]
    rfl

set_option maxHeartbeats 2000000 in
theorem utoa_pos (K : Nat) (w : World) (hK : 0 < K) (hK2 : (K : Int) ≤ 18446744073709551615) :
    Calls Try.prog 20 #[.int .u64 K] w fun e w' => e = .returned (.string (strOfNums (utoaL K))) ∧ Below w.heap.size w w' := by
  have hlt : K < 10 ^ 20 := by omega
  have HLt := hide hlt
  have hconv : ∀ (wr : World) (m : Nat) (ds : List Int), Wrote w wr w.heap.size m ds → ∀ n c, n = m → (convert 40 9 (.slice (some ⟨w.heap.size, 20 - m, none⟩) n c)).run Try.prog wr = .ok (.string (strOfNums ds)) wr := by
    intro wr m ds h n c hn
    subst hn
    obtain ⟨cur, h1, h2, h3⟩ := h.cells
    refine run_convert_bytes_arg wr 40 5 Try.underlying40 Try.underlying5 w.heap.size (20 - n) n c ds h.len (fun i hi => ?_) 9 Try.underlying9
    rw [cell_of_row wr w.heap.size (20 - n + i) cur 39 (0, 0) h1]
    exact h3 i hi
  have HConv := hide hconv
  clear hconv hlt
  go_enter Try.func20, Try.ntmps20
  go_wp2_with fail
  go_loopw [0, 4] (fun kk i wr => ∃ q m : Nat, ∃ ds, kk = .int .u64 q ∧ i = .int .i64 (20 - m : Nat) ∧ m ≤ 20 ∧ q < 10 ^ (20 - m) ∧ (q : Int) ≤ 18446744073709551615 ∧ dl 20 K = ds.reverse ++ dl (20 - m) q ∧ Wrote w wr w.heap.size m ds) (fun kk _ _ => (intOf kk).toNat)
  case atStart => exact ⟨K, 0, [], rfl, rfl, by omega, unhide HLt, hK2, rfl, (Below.refl _ _).alloc (Nat.le_refl _) _, rfl, _, heap_alloc_new w _, rfl, fun j hj => by omega⟩
  case round =>
    obtain ⟨q, m, ds, rfl, rfl, hm, hq, hq2, hdl, hwr⟩ := hrel
    have HD := hide hdl
    have HW := hide hwr
    have HQ := hide hq
    by_cases h0 : 0 < q
    · have hm20 : m < 20 := by
        rcases Nat.lt_or_ge m 20 with h | h
        · exact h
        · have : m = 20 := by omega
          subst this
          simp at hq
          omega
      obtain ⟨cur, h1, h2, h3⟩ := hwr.cells
      have hc : wr.cell? ⟨w.heap.size, 19 - m, none⟩ = some cur[19 - m] := by rw [cell_of_row wr _ _ cur 39 (0, 0) h1]; simp [show 19 - m < cur.size by omega]
      have hf := frozen_of_row wr w.heap.size (19 - m) cur 39 h1
      obtain ⟨v, hv⟩ : ∃ v, v = cur[19 - m] := ⟨_, rfl⟩
      rw [← hv] at hc
      obtain ⟨x, hx⟩ : ∃ x, x = 20 - m := ⟨_, rfl⟩
      have hx1 : 1 ≤ x := by omega
      have hx2 : x ≤ 20 := by omega
      have e19 : 19 - m = x - 1 := by omega
      rw [e19] at hc hf
      rw [← hx]
      have HX := hide hx
      clear h1 h2 h3 hv hdl hwr hq hx e19
      go_wp2_with fail
      go_roundw
      case rel =>
        have hq3 := unhide HQ
        have hxx := unhide HX
        have ep : 10 ^ (20 - m) = 10 * 10 ^ (20 - (m + 1)) := by
          have : 20 - m = (20 - (m + 1)) + 1 := by omega
          rw [this, Nat.pow_succ]; omega
        have ex : (48 + (q : Int) % 10) = ((48 + q % 10 : Nat) : Int) := by omega
        refine ⟨q / 10, m + 1, ((48 + q % 10 : Nat) : Int) :: ds, by go_num, ?_, by omega, by omega, by omega, ?_, ?_⟩
        · rw [hxx]
          congr 1
          omega
        · have e2 : 20 - m = (20 - (m + 1)) + 1 := by omega
          rw [unhide HD, e2, dl_step _ q h0]
          simp
        · rw [ex]
          have e19 : x - 1 = 19 - m := by omega
          rw [e19]
          exact (unhide HW).step hm20 _ rfl
      case measure => simp [intOf]; omega
    · obtain rfl : q = 0 := by omega
      have hd : dl 20 K = ds.reverse := by rw [hdl, dl_zero]; simp
      have hm0 : 0 < m := by
        rcases Nat.eq_zero_or_pos m with h | h
        · have hl := hwr.len
          rw [h] at hl
          have : ds = [] := List.eq_nil_of_length_eq_zero hl
          rw [this, dl_step 19 K hK] at hd
          simp at hd
        · exact h
      have hut : utoaL K = ds := by unfold utoaL; rw [if_neg (by omega), hd]; simp
      obtain ⟨x, hx⟩ : ∃ x, x = 20 - m := ⟨_, rfl⟩
      have hsl := slice_tail w.heap.size x (by omega)
      have hcv := unhide HConv wr m ds hwr (20 - x) (20 - x) (by omega)
      rw [← hx] at hcv
      rw [← hx]
      have HU := hide hut
      clear hdl hwr hq hd hx hut
      go_wp2_with fail
      go_ret
      exact ⟨ret_str (by rw [unhide HU]), (unhide HW).below⟩
set_option maxHeartbeats 400000 in
theorem utoa_zero (w : World) : Calls Try.prog 20 #[.int .u64 0] w fun e w' => e = .returned (.string (strOfNums (utoaL 0))) ∧ Below w.heap.size w w' := by
  go_enter Try.func20, Try.ntmps20
  go_wp2_with fail
  go_ret
  exact ⟨rfl, Below.refl _ _⟩

theorem utoa_any (K : Nat) (w : World) (hK2 : (K : Int) ≤ 18446744073709551615) :
    Calls Try.prog 20 #[.int .u64 K] w fun e w' => e = .returned (.string (strOfNums (utoaL K))) ∧ Below w.heap.size w w' := by
  by_cases h : K = 0
  · subst h; exact utoa_zero w
  · exact utoa_pos K w (by omega) hK2

/-- A string's bytes as numbers. -/
def numsOf (s : ByteArray) : List Int := s.data.toList.map fun b => (b.toNat : Int)
theorem numsOf_len (s : ByteArray) : (numsOf s).length = s.size := by simp [numsOf]
theorem str_nums (s : ByteArray) : strOfNums (numsOf s) = s := by
  unfold strOfNums numsOf
  have : (s.data.toList.map fun b => (b.toNat : Int)).map (fun n => UInt8.ofNat n.toNat) = s.data.toList := by
    rw [List.map_map]
    conv => rhs; rw [← List.map_id s.data.toList]
    apply List.map_congr_left
    intro b _
    simp
  rw [this]
theorem nums_str (xs : List Int) (h : ∀ x, x ∈ xs → 0 ≤ x ∧ x ≤ 255) : numsOf (strOfNums xs) = xs := by
  unfold strOfNums numsOf
  simp only [List.map_map]
  conv => rhs; rw [← List.map_id xs]
  apply List.map_congr_left
  intro x hx
  have := h x hx
  simp only [Function.comp_apply, id]
  have e : (UInt8.ofNat x.toNat).toNat = x.toNat := by
    rw [UInt8.toNat_ofNat']
    exact Nat.mod_eq_of_lt (by omega)
  rw [e]
  omega

/-- The bytes in memory: k nines at the end turned to zeros so far. -/
structure Turned (w wr : World) (H k : Nat) (xs : List Int) : Prop where
  below : Below H w wr
  cells : ∃ cur : Array Value, ∃ fr : Nat, wr.heap[H]? = some (.cells cur 5 (fr, fr + 1)) ∧ xs.length ≤ fr ∧ xs.length ≤ cur.size ∧
    ∀ j, j < xs.length → cur[j]? = some (.int .u8 ((xs.take (xs.length - k) ++ List.replicate k 48).getD j 0))
  nines : xs.drop (xs.length - k) = List.replicate k 57
  le : k ≤ xs.length

theorem Turned.start (w : World) (s : ByteArray) : Turned w (Lib.bytesWorld w 5 s) w.heap.size 0 (numsOf s) := by
  refine ⟨⟨?_, ?_, ?_, by rw [Lib.bytesWorld_size]; omega, fun k hk => Lib.bytesWorld_at_old w 5 s k hk⟩, ⟨_, _, Lib.bytesWorld_at_new w 5 s, ?_, ?_, ?_⟩, by simp, Nat.zero_le _⟩
  · unfold Lib.bytesWorld World.freeze; rw [if_neg (by decide)]; rfl
  · unfold Lib.bytesWorld World.freeze; rw [if_neg (by decide)]; rfl
  · unfold Lib.bytesWorld World.freeze; rw [if_neg (by decide)]; rfl
  · rw [numsOf_len]; simp [Lib.bytesCells]
  · rw [numsOf_len]; simp [Lib.bytesCells]
  · intro j hj
    rw [numsOf_len] at hj
    have h1 := Lib.bytesWorld_cell w 5 s j hj
    rw [cell_of_row _ _ _ _ _ _ (Lib.bytesWorld_at_new w 5 s)] at h1
    rw [h1]
    have hj' : j < s.data.toList.length := by simpa using hj
    have e : (numsOf s).take ((numsOf s).length - 0) ++ List.replicate 0 48 = numsOf s := by simp
    rw [e]
    simp only [numsOf, List.getD, List.getElem?_map, List.getElem?_eq_getElem hj', Option.map_some, Option.getD_some]

theorem getD_left (a b : List Int) (j : Nat) (h : j < a.length) : (a ++ b).getD j 0 = a.getD j 0 := by
  simp [List.getD, List.getElem?_append_left h]
theorem getD_right (a b : List Int) (j : Nat) (h : a.length ≤ j) : (a ++ b).getD j 0 = b.getD (j - a.length) 0 := by
  simp [List.getD, List.getElem?_append_right h]
theorem getD_take (a : List Int) (n j : Nat) (h : j < n) : (a.take n).getD j 0 = a.getD j 0 := by
  simp [List.getD, List.getElem?_take, h]

/-- A nine more. -/
theorem Turned.step {w wr w2 : World} {H k : Nat} {xs : List Int} (h : Turned w wr H k xs) (hk : k < xs.length) (h9 : xs.getD (xs.length - 1 - k) 0 = 57)
    (hw : w2 = wr.setCell ⟨H, xs.length - 1 - k, none⟩ (.int .u8 48)) : Turned w w2 H (k + 1) xs := by
  subst hw
  obtain ⟨cur, fr, h1, h2, h3, h4⟩ := h.cells
  refine ⟨h.below.setCell (Nat.le_refl _) _, ⟨_, fr, heap_set_at h1, h2, by simpa using h3, fun j hj => ?_⟩, ?_, by omega⟩
  · have e1 : xs.length - (k + 1) = xs.length - 1 - k := by omega
    by_cases e : j = xs.length - 1 - k
    · subst e
      rw [Array.getElem?_setIfInBounds_self_of_lt (by omega), getD_right _ _ _ (by simp; omega)]
      simp only [List.length_take]
      have : xs.length - 1 - k - min (xs.length - (k + 1)) xs.length = 0 := by omega
      rw [this]
      rfl
    · rw [Array.getElem?_setIfInBounds_ne (by omega), h4 j hj]
      by_cases e2 : j < xs.length - 1 - k
      · rw [getD_left _ _ _ (by simp; omega), getD_left _ _ _ (by simp; omega), getD_take _ _ _ (by omega), getD_take _ _ _ (by omega)]
      · rw [getD_right _ _ _ (by simp; omega), getD_right _ _ _ (by simp; omega)]
        simp only [List.length_take, List.getD, List.getElem?_replicate]
        rw [if_pos (by omega), if_pos (by omega)]
  · have e1 : xs.length - (k + 1) = xs.length - 1 - k := by omega
    have e2 : xs.length - k = (xs.length - 1 - k) + 1 := by omega
    have hn := h.nines
    rw [e2] at hn
    rw [e1, ← List.getElem_cons_drop (by omega), hn, List.replicate_succ]
    have : xs.getD (xs.length - 1 - k) 0 = xs[xs.length - 1 - k] := by simp [List.getD, show xs.length - 1 - k < xs.length by omega]
    rw [← this, h9]

/-- The bytes read back as a string. -/
theorem back_run {wr : World} {H : Nat} {cur : Array Value} {fr : Nat × Nat} {ys : List Int} (h1 : wr.heap[H]? = some (.cells cur 5 fr)) (h2 : ∀ j, j < ys.length → cur[j]? = some (.int .u8 (ys.getD j 0))) (c : Nat) :
    (convert 40 9 (.slice (some ⟨H, 0, none⟩) ys.length c)).run Try.prog wr = .ok (.string (strOfNums ys)) wr := by
  refine run_convert_bytes_arg wr 40 5 Try.underlying40 Try.underlying5 H 0 ys.length c ys rfl (fun i hi => ?_) 9 Try.underlying9
  rw [Nat.zero_add, cell_of_row wr H i cur 5 fr h1]
  exact h2 i hi

set_option maxHeartbeats 2000000 in
theorem succ_any (s : ByteArray) (w : World) (hs : s.size ≤ 1048576) (hd : ∀ x, x ∈ numsOf s → 48 ≤ x ∧ x ≤ 57) :
    Calls Try.prog 29 #[.string s] w fun e w' => e = .returned (.string (strOfNums (succL (numsOf s)))) ∧ Below w.heap.size w w' := by
  have hconv : ∀ w, (convert 9 40 (.string s)).run Try.prog w = .ok (.slice (some ⟨w.heap.size, 0, none⟩) s.size (grownCap w s.size 0 5)) (Lib.bytesWorld w 5 s) := fun w => Lib.run_convert_string_bytes w 9 40 5 s Try.underlying9 Try.underlying40 Try.underlying5
  have HD := hide hd
  have hlen := numsOf_len s
  obtain ⟨xs, hxs⟩ : ∃ xs, xs = numsOf s := ⟨_, rfl⟩
  have hstart := Turned.start w s
  rw [← hxs] at HD hlen hstart
  rw [← hxs]
  have HSt := hide hstart
  have HLen := hide hlen
  clear hd hstart hxs
  obtain ⟨n, hn⟩ : ∃ n, n = s.size := ⟨_, rfl⟩
  have hn2 : n ≤ 1048576 := by omega
  have HN : Hid (xs.length = n) := by show xs.length = n; omega
  rw [← hn] at hconv
  obtain ⟨gc, hgc⟩ : ∃ gc, gc = grownCap w n 0 5 := ⟨_, rfl⟩
  have hconv1 := hconv w
  rw [← hgc] at hconv1
  clear hlen hn hgc hconv HLen hs
  go_enter Try.func29, Try.ntmps29
  go_wp2_with fail
  go_loopw [4] (fun i wr => ∃ k : Nat, k ≤ n ∧ i = .int .i64 ((n : Int) - 1 - k) ∧ Turned w wr w.heap.size k xs) (fun i _ => (intOf i + 1).toNat)
  case atStart => exact ⟨0, Nat.zero_le _, by simp, unhide HSt⟩
  case round =>
    obtain ⟨k, hk, rfl, ht⟩ := hrel
    have HT := hide ht
    have hln := unhide HN
    by_cases hlt : k < n
    · obtain ⟨cur, fr, h1, h2, h3, h4⟩ := ht.cells
      obtain ⟨p, hp⟩ : ∃ p, p = xs.length - 1 - k := ⟨_, rfl⟩
      have h4p := h4 p (by omega)
      rw [getD_left _ _ _ (by simp; omega), getD_take _ _ _ (by omega)] at h4p
      have hc : wr.cell? ⟨w.heap.size, p, none⟩ = some (.int .u8 (xs.getD p 0)) := by rw [cell_of_row wr _ _ cur 5 _ h1]; exact h4p
      have hf : wr.frozen? ⟨w.heap.size, p, none⟩ = false := by simp [World.frozen?, h1]; omega
      have hr := unhide HD (xs.getD p 0) (by simp [List.getD, show p < xs.length by omega])
      have hsp := nines_split xs k (by omega) ht.nines
      rw [← hp] at hsp
      obtain ⟨x, hx⟩ : ∃ x, x = xs.getD p 0 := ⟨_, rfl⟩
      rw [← hx] at hc hr
      have hpn : (n : Int) - 1 - k = (p : Int) := by omega
      rw [hpn]
      have hx1 := hr.1
      have hx2 := hr.2
      have hpl : p < n := by omega
      by_cases h9 : x = 57
      · subst h9
        have HX : Hid ((57 : Int) = xs.getD p 0) := hx
        have HP := hide hp
        have HPN := hide hpn
        clear h1 h2 h3 h4 h4p hsp hx hr ht hln hp hpn
        go_wp2_with fail
        go_roundw
        case rel =>
          have hpp := unhide HP
          have hln := unhide HN
          refine ⟨k + 1, by omega, ?_, (unhide HT).step (by omega) (by rw [← hpp]; exact (unhide HX).symm) (by rw [← hpp])⟩
          have := unhide HPN
          congr 1
          omega
        case measure => simp [intOf]
      · have hback : ∀ c, (convert 40 9 (.slice (some ⟨w.heap.size, 0, none⟩) n c)).run Try.prog (wr.setCell ⟨w.heap.size, p, none⟩ (.int .u8 (x + 1))) = .ok (.string (strOfNums (succL xs))) (wr.setCell ⟨w.heap.size, p, none⟩ (.int .u8 (x + 1))) := by
          intro c
          have hl : (succL xs).length = n := by
            rw [hsp, ← hx, succL_hit _ _ _ h9]
            simp
            omega
          rw [← hl]
          refine back_run (heap_set_at h1) (fun j hj => ?_) c
          rw [hl] at hj
          by_cases e : j = p
          · subst e
            rw [Array.getElem?_setIfInBounds_self_of_lt (by omega), hsp, ← hx, succL_hit _ _ _ h9, getD_right _ _ _ (by simp; omega)]
            have : j - (xs.take j).length = 0 := by simp; omega
            rw [this]
            rfl
          · rw [Array.getElem?_setIfInBounds_ne (by omega), h4 j (by omega)]
            conv => rhs; rw [hsp, ← hx, succL_hit _ _ _ h9]
            by_cases e2 : j < p
            · rw [getD_left _ _ _ (by simp; omega), getD_left _ _ _ (by simp; omega), getD_take _ _ _ (by omega), getD_take _ _ _ (by omega)]
            · rw [getD_right _ _ _ (by simp; omega), getD_right _ _ _ (by simp; omega)]
              have e3 : j - (xs.take p).length = (j - p - 1) + 1 := by simp; omega
              rw [e3]
              simp only [List.length_take, List.getD, List.getElem?_cons_succ, List.getElem?_replicate]
              rw [if_pos (by omega), if_pos (by omega)]
        have hxi : (x != 57) = true := by simpa using h9
        have hb1 := (unhide HT).below
        have HB := hide (hb1.setCell (p := ⟨w.heap.size, p, none⟩) (Nat.le_refl _) (.int .u8 (x + 1)))
        have hx3 : x ≤ 56 := by omega
        clear h1 h2 h3 h4 h4p hsp hx hr ht hln hp hpn h9 hb1
        go_wp2_with fail
        go_ret
        exact ⟨rfl, unhide HB⟩
    · obtain rfl : k = n := by omega
      obtain ⟨cur, fr, h1, h2, h3, h4⟩ := ht.cells
      have hall : xs = List.replicate k 57 := by
        have := ht.nines
        rw [hln, Nat.sub_self, List.drop_zero] at this
        exact this
      have hback : ∀ c, (convert 40 9 (.slice (some ⟨w.heap.size, 0, none⟩) k c)).run Try.prog wr = .ok (.string (strOfNums (List.replicate k 48))) wr := by
        intro c
        have := back_run (ys := List.replicate k 48) h1 (fun j hj => by
          rw [h4 j (by simp at hj; omega), hln, Nat.sub_self, List.take_zero, List.nil_append]) c
        simpa using this
      have hsz : (strOfNums (List.replicate k 48)).size = k := by rw [strOfNums_size]; simp
      have hres : (ByteArray.mk #[49]) ++ strOfNums (List.replicate k 48) = strOfNums (succL xs) := by
        rw [hall, succL_all]
        unfold strOfNums
        have e : (ByteArray.mk #[49]) = ByteArray.mk ([49] : List UInt8).toArray := rfl
        rw [e, ByteArray.mk_append_mk]
        rfl
      have HRes := hide hres
      have hkk : (k : Int) - 1 - k = -1 := by omega
      rw [hkk]
      obtain ⟨t, ht2⟩ : ∃ t, t = strOfNums (List.replicate k 48) := ⟨_, rfl⟩
      rw [← ht2] at hback hsz HRes
      have hsz1 : t.size ≤ 1048576 := by omega
      clear h1 h2 h3 h4 hall hres ht ht2 hkk hln hsz
      go_wp2_with fail
      go_ret
      exact ⟨ret_str (unhide HRes), (unhide HT).below⟩

set_option maxHeartbeats 400000 in
theorem succ22 (s : ByteArray) (w : World) (hs : s.size ≤ 1048576) (hd : ∀ x, x ∈ numsOf s → 48 ≤ x ∧ x ≤ 57) :
    Calls Try.prog 22 #[.string s] w fun e w' => e = .returned (.string (strOfNums (succL (numsOf s)))) ∧ Below w.heap.size w w' := by
  have H := hide (succ_any s w hs hd)
  clear hd
  go_enter Try.func22, Try.ntmps22
  go_wp2_with (go_at_call 29; refine (unhide H).mono ?_; rintro e w' ⟨rfl, h1⟩)
  go_ret
  exact ⟨rfl, h1⟩

end Go.Proofs.Qxb6601093a
