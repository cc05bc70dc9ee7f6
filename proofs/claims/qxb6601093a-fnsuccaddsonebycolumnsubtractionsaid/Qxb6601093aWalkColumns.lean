/- The law FnSuccAddsOneByColumnSubtraction, walked. -/
import Derived.Test.Qxb6601093aAllDigits
namespace Go.Proofs.Qxb6601093a
open Go.RowKit
set_option linter.unusedSimpArgs false
set_option linter.unusedVariables false

set_option maxHeartbeats 400000 in
theorem walk8_long (s : ByteArray) (w : World) (h : 1048576 < s.size) (hm : s.size ≤ maxLen) : Calls Try.prog 8 #[.string s] w fun e w' => e = .returned (.bool true) ∧ Below w.heap.size w w' := by
  go_enter Try.func8, Try.ntmps8
  go_wp2_with (first | (go_at_call 23; refine (bytes23_no _ _ h hm).mono ?_; rintro e w' ⟨rfl, rfl⟩))
  go_ret
  exact ⟨rfl, Below.refl _ _⟩
set_option maxHeartbeats 400000 in
theorem walk8_no (s : ByteArray) (w : World) (hs : s.size ≤ 1048576) (hd : ¬ ∀ x, x ∈ numsOf s → 48 ≤ x ∧ x ≤ 57) : Calls Try.prog 8 #[.string s] w fun e w' => e = .returned (.bool true) ∧ Below w.heap.size w w' := by
  have C := hide (digits24_no s w hs hd)
  clear hd
  go_enter Try.func8, Try.ntmps8
  go_wp2_with (first | (go_at_call 23; refine (bytes23 _ _ hs).mono ?_; rintro e w' ⟨rfl, rfl⟩) | (go_at_call 24; refine (unhide C).mono ?_; rintro e w' ⟨rfl, rfl⟩))
  go_ret
  exact ⟨rfl, Below.refl _ _⟩

set_option maxHeartbeats 4000000 in
theorem walk8 (s : ByteArray) (w : World) (hs : s.size ≤ 1048576) (hd : ∀ x, x ∈ numsOf s → 48 ≤ x ∧ x ≤ 57) : Calls Try.prog 8 #[.string s] w fun e w' => e = .returned (.bool true) ∧ Below w.heap.size w w' := by
  have C24a := hide (digits24 s w (by omega) hd)
  have C22 := hide (succ22 s w hs hd)
  have hrr := succL_range (numsOf s) hd
  have hnr := nums_str (succL (numsOf s)) (fun x hx => by have := hrr x hx; omega)
  have hlen := succL_len (numsOf s)
  have hsl := numsOf_len s
  obtain ⟨r, hr⟩ : ∃ r, r = strOfNums (succL (numsOf s)) := ⟨_, rfl⟩
  rw [← hr] at C22 hnr
  have hrl : r.size = (succL (numsOf s)).length := by rw [← hnr, numsOf_len]
  have hrs : r.size ≤ 1048577 := by rw [hrl, hlen]; split <;> omega
  have C24b : Hid (∀ w1, Calls Try.prog 24 #[.string r] w1 fun e w' => e = .returned (.bool true) ∧ w1 = w') := fun w1 => digits24 r w1 (by omega) (by rw [hnr]; exact hrr)
  have hd2 := hd
  obtain ⟨xs, hxs⟩ : ∃ xs, xs = numsOf s := ⟨_, rfl⟩
  have hax : ∀ j (h : j < s.size), ((s[j]'h).toNat : Int) = xs.getD j 0 := fun j h => by rw [hxs]; exact byte_at s j h
  have hay : ∀ j (h : j < r.size), ((r[j]'h).toNat : Int) = (succL xs).getD j 0 := fun j h => by rw [byte_at r j h, hnr, hxs]
  rw [← hxs] at hlen hsl hrl hd
  have HAX := hide hax
  have HAY := hide hay
  have HLen := hide hlen
  have HSl := hide hsl
  have HRl := hide hrl
  have HD := hide hd
  have HRS : Hid ((r.size : Int) ≤ 2000000) := by show (r.size : Int) ≤ 2000000; omega
  clear hrr hnr hlen hsl hr hrl hd hxs hax hay hd2 hrs
  go_enter Try.func8, Try.ntmps8
  go_wp2_with (first | (go_at_call 23; refine (bytes23 _ _ hs).mono ?_; rintro e w' ⟨rfl, rfl⟩))
  refine (unhide C24a).mono ?_
  rintro e w' ⟨rfl, rfl⟩
  go_wp2_with fail
  refine (unhide C22).mono ?_
  rintro e w1 ⟨rfl, hb1⟩
  have HB1 := hide hb1
  clear hb1
  go_wp2_with fail
  refine (unhide C24b _).mono ?_
  rintro e w' ⟨rfl, rfl⟩
  go_wp2_with fail
  go_loop [4, 5] (fun b i => ∃ k : Nat, k ≤ s.size ∧ i = .int .i64 k ∧ b = .bool (nines xs k)) (fun _ i => s.size - (intOf i).toNat)
  case atStart => exact ⟨0, Nat.zero_le _, rfl, rfl⟩
  case round =>
    obtain ⟨k, hk, rfl, rfl⟩ := hrel
    by_cases hlt : k < s.size
    · have hst := nines_step xs k (by have := unhide HSl; omega)
      have hx := unhide HAX k hlt
      rw [← hx] at hst
      have HST := hide hst
      obtain ⟨b, hb⟩ : ∃ b, b = nines xs k := ⟨_, rfl⟩
      rw [← hb] at HST
      rw [← hb]
      clear hst hx hb
      by_cases h57 : (s[k].toNat : Int) = 57
      · have h57' : ((s[k].toNat : Int) != 57) = false := by rw [h57]; rfl
        have HE := hide h57
        clear h57
        go_wp2_with fail
        go_round
        case rel => exact ⟨k + 1, by omega, by go_num, by rw [unhide HST, unhide HE]; simp⟩
        case measure => simp [intOf]; omega
      · have h57' : ((s[k].toNat : Int) != 57) = true := by simpa using h57
        have HE := hide h57
        clear h57
        go_wp2_with fail
        go_round
        case rel => exact ⟨k + 1, by omega, by go_num, by rw [unhide HST]; have := unhide HE; simp [this]⟩
        case measure => simp [intOf]; omega
    · obtain rfl : k = s.size := by omega
      have hrl := unhide HRl
      have hlen := unhide HLen
      have hsl := unhide HSl
      have hyr : (succL xs).reverse = sr xs.reverse := by unfold succL; simp
      have hY : ∀ i, i < r.size → ∀ (p : Nat) (hp : p < r.size), p = r.size - 1 - i → ((r[p]'hp).toNat : Int) = (sr xs.reverse).getD i 0 := by
        intro i hi p hp e
        rw [unhide HAY p hp, ← hyr, getD_rev _ _ (by omega)]
        congr 1
        omega
      have hX : ∀ i, i < s.size → ∀ (p : Nat) (hp : p < s.size), p = s.size - 1 - i → ((s[p]'hp).toNat : Int) = xs.reverse.getD i 0 := by
        intro i hi p hp e
        rw [unhide HAX p hp, getD_rev _ _ (by omega)]
        congr 1
        omega
      have hcl : (sr xs.reverse).length = r.size := by rw [← hyr, List.length_reverse]; omega
      have hxl : xs.reverse.length = s.size := by rw [List.length_reverse]; exact hsl
      have hxd : ∀ x, x ∈ xs.reverse → 48 ≤ x ∧ x ≤ 57 := fun x hx => unhide HD x (by simpa using hx)
      have hcs := col_start xs.reverse
      obtain ⟨xr, hxr⟩ : ∃ xr, xr = xs.reverse := ⟨_, rfl⟩
      rw [← hxr] at hY hX hcl hxl hxd hcs
      have HY := hide hY
      have HX := hide hX
      have HCL := hide hcl
      have HXL := hide hxl
      have HXD := hide hxd
      have HCS := hide hcs
      have hrs := unhide HRS
      have hcase : (nines xs s.size = true ∧ (r.size : Int) = (s.size : Int) + 1) ∨ (nines xs s.size = false ∧ (r.size : Int) = s.size) := by
        have hna := nines_all xs
        rw [hsl] at hna
        cases hb : nines xs s.size with
        | true =>
          rw [if_pos (hna.1 hb)] at hlen
          exact .inl ⟨rfl, by omega⟩
        | false =>
          rw [if_neg (fun hc => by rw [hna.2 hc] at hb; cases hb)] at hlen
          exact .inr ⟨rfl, by omega⟩
      obtain ⟨nb, hnb⟩ : ∃ nb, nb = nines xs s.size := ⟨_, rfl⟩
      rw [← hnb] at hcase
      rw [← hnb]
      clear hrl hlen hsl hyr hY hX hcl hxl hxd hcs hxr hnb hk hlt
      have hrn : (nb = true ∧ (s.size : Int) + 1 ≤ r.size ∧ (r.size : Int) ≤ (s.size : Int) + 1) ∨ (nb = false ∧ (s.size : Int) ≤ r.size ∧ (r.size : Int) ≤ (s.size : Int)) := by
        rcases hcase with ⟨h1, h2⟩ | ⟨h1, h2⟩
        · exact .inl ⟨h1, by omega, by omega⟩
        · exact .inr ⟨h1, by omega, by omega⟩
      clear hcase
      rcases hrn with ⟨rfl, hr1, hr2⟩ | ⟨rfl, hr1, hr2⟩
      all_goals
        go_wp2_with fail
        go_loop [6, 7] (fun b i => ∃ k : Nat, ∃ bb : Int, k ≤ r.size ∧ i = .int .i64 k ∧ b = .int .i64 bb ∧ Col (sr xr) xr k bb) (fun _ i => r.size - (intOf i).toNat)
        case atStart => exact ⟨0, 0, Nat.zero_le _, rfl, rfl, unhide HCS⟩
        case round =>
          obtain ⟨k, bb, hk, rfl, rfl, hcol⟩ := hrel
          have hcl := unhide HCL
          have hxl := unhide HXL
          by_cases hlt : k < r.size
          · obtain ⟨p, hp⟩ : ∃ p, p = r.size - 1 - k := ⟨_, rfl⟩
            have hpl : p < r.size := by omega
            have hpr : (r.size : Int) - 1 - (k : Int) = (p : Int) := by omega
            have hy := unhide HY k hlt p hpl hp
            have hk0 : k ≤ 0 ∨ 1 ≤ k := by omega
            rcases col_cases hcol (by omega) (unhide HXD) with ⟨c1, c2, c3, c4, c5⟩ | ⟨c1, c2, c3, c4, c4', c5⟩ | ⟨c1, c2, c3, c5⟩ | ⟨c1, c2, c2', c3, c4, c4', c5⟩
            · obtain ⟨q, hq⟩ : ∃ q, q = s.size - 1 - k := ⟨_, rfl⟩
              have hql : q < s.size := by omega
              have hqs : (s.size : Int) - 1 - (k : Int) = (q : Int) := by omega
              have hx := unhide HX k (by omega) q hql hq
              rw [c3] at hy
              rw [c4] at hx
              have hks : k < s.size := by omega
              have HC5 := hide c5
              rcases hk0 with hk0 | hk0
              · rw [if_pos (by omega)] at c2
                subst c2
                clear hcol hcl hxl hp hq c1 c3 c4 c5
                go_wp2_with fail
                go_round
                case rel => exact ⟨k + 1, 1, by omega, by go_num, by go_num, unhide HC5⟩
                case measure => simp [intOf]; omega
              · rw [if_neg (by omega)] at c2
                subst c2
                clear hcol hcl hxl hp hq c1 c3 c4 c5
                go_wp2_with fail
                go_round
                case rel => exact ⟨k + 1, 1, by omega, by go_num, by go_num, unhide HC5⟩
                case measure => simp [intOf]; omega
            · obtain ⟨q, hq⟩ : ∃ q, q = s.size - 1 - k := ⟨_, rfl⟩
              have hql : q < s.size := by omega
              have hqs : (s.size : Int) - 1 - (k : Int) = (q : Int) := by omega
              have hx := unhide HX k (by omega) q hql hq
              rw [c3] at hy
              obtain ⟨x, hxx⟩ : ∃ x, x = xr.getD k 0 := ⟨_, rfl⟩
              rw [← hxx] at hy hx c4 c4'
              have hks : k < s.size := by omega
              have HC5 := hide c5
              rcases hk0 with hk0 | hk0
              · rw [if_pos (by omega)] at c2
                subst c2
                clear hcol hcl hxl hp hq c1 c3 c5 hxx
                go_wp2_with fail
                go_round
                case rel => exact ⟨k + 1, 0, by omega, by go_num, by go_num, unhide HC5⟩
                case measure => simp [intOf]; omega
              · rw [if_neg (by omega)] at c2
                subst c2
                clear hcol hcl hxl hp hq c1 c3 c5 hxx
                go_wp2_with fail
                go_round
                case rel => exact ⟨k + 1, 0, by omega, by go_num, by go_num, unhide HC5⟩
                case measure => simp [intOf]; omega
            · rw [c3] at hy
              have hks : s.size ≤ k := by omega
              have HC5 := hide c5
              rcases hk0 with hk0 | hk0
              · rw [if_pos (by omega)] at c2
                subst c2
                clear hcol hcl hxl hp c1 c3 c5
                go_wp2_with fail
                all_goals go_round
                all_goals first | exact ⟨k + 1, 0, by omega, by go_num, by go_num, unhide HC5⟩ | (simp [intOf]; omega)
              · rw [if_neg (by omega)] at c2
                subst c2
                clear hcol hcl hxl hp c1 c3 c5
                go_wp2_with fail
                all_goals go_round
                all_goals first | exact ⟨k + 1, 0, by omega, by go_num, by go_num, unhide HC5⟩ | (simp [intOf]; omega)
            · obtain ⟨q, hq⟩ : ∃ q, q = s.size - 1 - k := ⟨_, rfl⟩
              have hql : q < s.size := by omega
              have hqs : (s.size : Int) - 1 - (k : Int) = (q : Int) := by omega
              have hx := unhide HX k (by omega) q hql hq
              rw [c3] at hy
              obtain ⟨x, hxx⟩ : ∃ x, x = xr.getD k 0 := ⟨_, rfl⟩
              rw [← hxx] at hy hx c4 c4'
              have hks : k < s.size := by omega
              have HC5 := hide c5
              subst c2
              clear hcol hcl hxl hp hq c1 c3 c5 hxx hk0
              go_wp2_with fail
              go_round
              case rel => exact ⟨k + 1, 0, by omega, by go_num, by go_num, unhide HC5⟩
              case measure => simp [intOf]; omega
          · have hb0 := col_end hcol (by omega)
            subst hb0
            clear hcol hcl hxl
            go_wp2_with fail
            go_ret
            exact ⟨rfl, unhide HB1⟩
end Go.Proofs.Qxb6601093a
