/- 'sum', walked. -/
import Derived.Test.Qxb6600929aLaw
namespace Go.Proofs.Qxb6600929a
open Go.RowKit
set_option linter.unusedSimpArgs false
set_option linter.unusedVariables false

/-- How many chunks 'narrowChunks' shows. -/
def St.vlen (S : St) : Nat := if S.vals = [] then 0 else S.full + 1

theorem View.rows {w : World} {v : Value} {S : St} {F : List Nat} (h : View w v S F) :
    ∃ va vc, v = .slice va S.vlen vc ∧ S.vlen ≤ S.vals.length ∧ (0 < S.vlen → ∃ cb blks, va = some ⟨cb, 0, none⟩ ∧
      (∀ k, k < S.vlen → w.cell? ⟨cb, k, none⟩ = some (.slice (some ⟨List.getD blks k 0, 0, none⟩) (S.vals.getD k []).length (capOf k))) ∧
      (∀ k, k < S.vlen → ∀ j, j < (S.vals.getD k []).length → w.cell? ⟨List.getD blks k 0, j, none⟩ = some (.int .u32 (S.vals.flatten.getD (inF S.vals k + j) 0)))) := by
  rcases h with ⟨h1, h2⟩ | ⟨h1, h1', cb, cap, blks, h2, h3, h4, h5, h6, h7, h8, h9, h10⟩
  · have e : S.vlen = 0 := by simp [St.vlen, h1]
    exact ⟨none, 0, by rw [h2, e], by omega, fun hp => by omega⟩
  · have e : S.vlen = S.full + 1 := by simp [St.vlen, h1]
    refine ⟨_, cap, by rw [h2, e], by omega, fun _ => ⟨cb, blks, rfl, fun k hk => h7 k (by omega), fun k hk j hj => ?_⟩⟩
    rw [h10 k (by omega) j hj, flat_getD S.vals k j (by omega) hj]

theorem inF_after (vals : List (List Int)) (m : Nat) (h : ∀ k, m ≤ k → vals.getD k [] = []) : inF vals m = vals.flatten.length := by
  have key : ∀ n, inF vals (m + n) = inF vals m := by
    intro n
    induction n with
    | zero => rfl
    | succ n ih =>
      by_cases hlt : m + n < vals.length
      · rw [← Nat.add_assoc, inF_step vals (m + n) hlt, h (m + n) (by omega), ih]; rfl
      · rw [inF_all vals _ (by omega)] at ih
        rw [inF_all vals _ (by omega), ih]
  have := key vals.length
  rw [inF_all vals _ (by omega)] at this
  exact this.symm

theorem RecS.vlen_all {w : World} {base b : Nat} {S : St} {F : List Nat} (h : RecS w base b S F) : inF S.vals S.vlen = S.vals.flatten.length := by
  obtain ⟨blks, cv, wv, cells, r, rfl⟩ := h
  by_cases hv : S.vals = []
  · simp [St.vlen, hv, inF]
  · have e : S.vlen = S.full + 1 := by simp [St.vlen, hv]
    rw [e]
    exact inF_after _ _ fun k hk => r.after k (by omega)

/-- The wide ones' cells. -/
theorem RecS.wides {w : World} {base b : Nat} {S : St} {F : List Nat} (h : RecS w base b S F) :
    ∃ wa wc, w.cell? ⟨b, 4, none⟩ = some (.slice wa S.wide.length wc) ∧ (0 < S.wide.length → ∃ wb, wa = some ⟨wb, 0, none⟩ ∧ wb ∈ F ∧ ∀ j, j < S.wide.length → w.cell? ⟨wb, j, none⟩ = some (.int .i64 (S.wide.getD j 0))) := by
  obtain ⟨blks, cv, wv, cells, r, rfl⟩ := h
  have h4 := r.field 4 _ rfl
  rcases owns_form r.wOwn with ⟨e, e2, e3⟩ | ⟨g, cap, e, _⟩
  · subst e
    rw [e2]
    exact ⟨none, 0, h4, fun hp => by omega⟩
  · subst e
    refine ⟨_, cap, h4, fun hp => ⟨g, rfl, ?_, fun j hj => owns_cell r.wOwn (map_getD _ _ _ hj)⟩⟩
    simp only [foot, List.mem_cons, List.mem_append, Option.mem_toList, own_slice]
    exact .inr (.inr (.inr trivial))

def psum (l : List Int) (m : Nat) : Int := (l.take m).sum
theorem psum_zero (l : List Int) : psum l 0 = 0 := rfl
theorem psum_all (l : List Int) : psum l l.length = l.sum := by simp [psum]
theorem psum_step (l : List Int) (m : Nat) (h : m < l.length) : psum l (m + 1) = psum l m + l.getD m 0 := by
  unfold psum
  rw [take_snoc l m h]
  simp
theorem psum_bounds (l : List Int) (h : ∀ x, x ∈ l → 0 ≤ x ∧ x ≤ 4294967295) (hl : l.length ≤ 1000000) (m : Nat) (hm : m ≤ l.length) : 0 ≤ psum l m ∧ psum l m ≤ 4294967295 * (m : Int) := by
  induction m with
  | zero => simp [psum_zero]
  | succ m ih =>
    rw [psum_step l m (by omega)]
    have := ih (by omega)
    have hx := h (l.getD m 0) (by simp [List.getD, show m < l.length by omega])
    omega
theorem wrap64_add (a b : Int) : wrap64 (wrap64 a + b) = wrap64 (a + b) := by unfold wrap64; omega
theorem wrap64_id (a : Int) (h : 0 ≤ a) (h' : a < 9223372036854775808) : wrap64 a = a := by unfold wrap64; omega

set_option maxHeartbeats 2000000 in
theorem sum_any {w : World} {base b : Nat} {S : St} {F : List Nat} (h : RecS w base b S F) (hn : S.vals.length ≤ 1000000) (ht : S.vals.flatten.length ≤ 1000000) (hw : S.wide.length ≤ 1000000)
    (hx : ∀ x, x ∈ S.vals.flatten → 0 ≤ x ∧ x ≤ 4294967295) :
    Calls Try.prog 33 #[.pointer (some ⟨b, 0, none⟩)] w fun e w' => e = .returned (.int .i64 (wrap64 (S.vals.flatten.sum + S.wide.sum))) ∧ RecS w' base b S F ∧ Step w w' F F := by
  have hall := h.vlen_all
  have HV := hide (view_any h hn)
  have HAll := hide hall
  have HX := hide hx
  clear h hall hx
  go_enter Try.func33, Try.ntmps33
  go_wp2_with (first | (go_at_call 36; refine (unhide HV).mono ?_; rintro e w1 ⟨v, rfl, hrec1, st1, hview⟩; obtain ⟨va, vc, rfl, hvl, hvw⟩ := hview.rows))
  have HV1 := hide hvw
  have HR1 := hide hrec1
  have HST := hide st1
  clear hvw hview hrec1 st1
  go_loop [3, 14] (fun acc kk => ∃ k : Nat, k ≤ S.vlen ∧ kk = .int .i64 k ∧ acc = .int .u64 (psum S.vals.flatten (inF S.vals k))) (fun _ kk => S.vlen - (intOf kk).toNat)
  case atStart => exact ⟨0, Nat.zero_le _, rfl, rfl⟩
  case round =>
    obtain ⟨k, hk, rfl, rfl⟩ := hrel
    by_cases hlt : k < S.vlen
    · obtain ⟨cb, blks, rfl, q1, q2⟩ := unhide HV1 (by omega)
      have qc := q1 k hlt
      have qj := q2 k hlt
      have hst := inF_step S.vals k (by omega)
      have hmo := inF_mono S.vals k (by omega)
      obtain ⟨bk, hbk⟩ : ∃ bk, bk = List.getD blks k 0 := ⟨_, rfl⟩
      obtain ⟨ck, hck⟩ : ∃ ck, ck = capOf k := ⟨_, rfl⟩
      obtain ⟨L, hL⟩ : ∃ L, L = (S.vals.getD k []).length := ⟨_, rfl⟩
      obtain ⟨s, hs⟩ : ∃ s, s = inF S.vals k := ⟨_, rfl⟩
      rw [← hbk, ← hL, ← hck] at qc
      rw [← hbk, ← hL, ← hs] at qj
      rw [← hL, ← hs] at hst hmo
      rw [← hs]
      have QJ := hide qj
      have HST2 := hide hst
      clear q1 q2 qj hst hbk hck hL hs
      have hLb : L ≤ 1000000 := by omega
      go_wp2_with fail
      go_loop [3, 20] (fun acc jj => ∃ j : Nat, j ≤ L ∧ jj = .int .i64 j ∧ acc = .int .u64 (psum S.vals.flatten (s + j))) (fun _ jj => L - (intOf jj).toNat)
      case atStart => exact ⟨0, Nat.zero_le _, rfl, rfl⟩
      case round =>
        obtain ⟨j, hj, rfl, rfl⟩ := hrel
        by_cases hjl : j < L
        · have hc := unhide QJ j hjl
          have hp := psum_bounds S.vals.flatten (unhide HX) ht (s + j) (by omega)
          have hsx := psum_step S.vals.flatten (s + j) (by omega)
          have hb := unhide HX (S.vals.flatten.getD (s + j) 0) (by simp only [List.getD]; rw [List.getElem?_eq_getElem (by omega)]; simp)
          obtain ⟨y, hy⟩ : ∃ y, y = S.vals.flatten.getD (s + j) 0 := ⟨_, rfl⟩
          obtain ⟨p, hpp⟩ : ∃ p, p = psum S.vals.flatten (s + j) := ⟨_, rfl⟩
          rw [← hy] at hc hb hsx
          rw [← hpp] at hp hsx
          rw [← hpp]
          have hp1 : 0 ≤ p := hp.1
          have hp2 : p ≤ 4294967295000000 := by omega
          have hb1 := hb.1
          have hb2 := hb.2
          have HSX := hide hsx
          clear hsx hy hpp hp hb
          go_wp2_with fail
          go_round
          case rel => exact ⟨j + 1, by omega, by go_num, by rw [← Nat.add_assoc, unhide HSX]⟩
          case measure => simp [intOf]; omega
        · obtain rfl : j = L := by omega
          go_wp2_with fail
          go_round
          case rel => exact ⟨k + 1, by omega, by go_num, by rw [unhide HST2]⟩
          case measure => simp [intOf]; omega
    · obtain rfl : k = S.vlen := by omega
      rw [unhide HAll, psum_all]
      have hpb := psum_bounds S.vals.flatten (unhide HX) ht S.vals.flatten.length (Nat.le_refl _)
      rw [psum_all] at hpb
      obtain ⟨T, hT⟩ : ∃ T, T = S.vals.flatten.sum := ⟨_, rfl⟩
      rw [← hT] at hpb
      rw [← hT]
      have hT1 : 0 ≤ T := hpb.1
      have hT2 : T ≤ 4294967295000000 := by omega
      obtain ⟨wa, wc, h4, hwc⟩ := (unhide HR1).wides
      have HW := hide hwc
      have HT := hide hT
      clear hpb hwc hT hk hlt
      go_wp2_with fail
      go_loop [8, 37] (fun acc kk => ∃ k : Nat, k ≤ S.wide.length ∧ kk = .int .i64 k ∧ acc = .int .i64 (wrap64 (T + psum S.wide k))) (fun _ kk => S.wide.length - (intOf kk).toNat)
      case atStart => exact ⟨0, Nat.zero_le _, rfl, by rw [psum_zero, Int.add_zero, wrap64_id T hT1 (by omega)]⟩
      case round =>
        obtain ⟨k, hk, rfl, rfl⟩ := hrel
        by_cases hlt : k < S.wide.length
        · obtain ⟨wb, rfl, _, hcw⟩ := unhide HW (by omega)
          have hck := hcw k hlt
          have hps := psum_step S.wide k hlt
          obtain ⟨y, hy⟩ : ∃ y, y = S.wide.getD k 0 := ⟨_, rfl⟩
          obtain ⟨p, hpp⟩ : ∃ p, p = wrap64 (T + psum S.wide k) := ⟨_, rfl⟩
          rw [← hy] at hck hps
          rw [← hpp]
          have HP := hide hpp
          have HPS := hide hps
          clear hcw hpp hps hy
          go_wp2_with fail
          go_round
          case rel => exact ⟨k + 1, by omega, by go_num, by rw [unhide HPS, unhide HP, wrap64_add, Int.add_assoc]⟩
          case measure => simp [intOf]; omega
        · obtain rfl : k = S.wide.length := by omega
          rw [psum_all]
          go_wp2_with fail
          go_ret
          exact ⟨ret_int (by rw [unhide HT]), unhide HR1, unhide HST⟩

set_option maxHeartbeats 400000 in
theorem sum11 {w : World} {base b : Nat} {S : St} {F : List Nat} (h : RecS w base b S F) (hn : S.vals.length ≤ 1000000) (ht : S.vals.flatten.length ≤ 1000000) (hw : S.wide.length ≤ 1000000)
    (hx : ∀ x, x ∈ S.vals.flatten → 0 ≤ x ∧ x ≤ 4294967295) :
    Calls Try.prog 11 #[.pointer (some ⟨b, 0, none⟩)] w fun e w' => e = .returned (.int .i64 (wrap64 (S.vals.flatten.sum + S.wide.sum))) ∧ RecS w' base b S F ∧ Step w w' F F := by
  have H := hide (sum_any h hn ht hw hx)
  clear h hx
  go_enter Try.func11, Try.ntmps11
  go_wp2_with (go_at_call 33; refine (unhide H).mono ?_; rintro e w' ⟨rfl, h1, h2⟩)
  go_ret
  exact ⟨rfl, h1, h2⟩
end Go.Proofs.Qxb6600929a
