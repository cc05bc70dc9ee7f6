/- 'zzAllDigits', 'zzIsDigit', 'zzBytes', walked. -/
import Derived.Test.Qxb6601093aSucc
import Derived.Test.Qxb6601093aColumns
namespace Go.Proofs.Qxb6601093a
open Go.RowKit
set_option linter.unusedSimpArgs false
set_option linter.unusedVariables false

set_option maxHeartbeats 400000 in
theorem bytes23 (s : ByteArray) (w : World) (h : s.size ≤ 1048576) : Calls Try.prog 23 #[.string s] w fun e w' => e = .returned (.bool true) ∧ w = w' := by
  go_enter Try.func23, Try.ntmps23
  go_wp2
  go_ret
  exact ⟨rfl, rfl⟩
set_option maxHeartbeats 400000 in
theorem bytes23_no (s : ByteArray) (w : World) (h : 1048576 < s.size) (hm : s.size ≤ maxLen) : Calls Try.prog 23 #[.string s] w fun e w' => e = .returned (.bool false) ∧ w = w' := by
  unfold maxLen at hm
  go_enter Try.func23, Try.ntmps23
  go_wp2
  go_ret
  exact ⟨rfl, rfl⟩
set_option maxHeartbeats 400000 in
theorem digit28 (x : Int) (w : World) (h : 48 ≤ x ∧ x ≤ 57) : Calls Try.prog 28 #[.int .u8 x] w fun e w' => e = .returned (.bool true) ∧ w = w' := by
  obtain ⟨h1, h2⟩ := h
  go_enter Try.func28, Try.ntmps28
  go_wp2
  go_ret
  exact ⟨rfl, rfl⟩
set_option maxHeartbeats 400000 in
theorem digit28_no (x : Int) (w : World) (h : ¬ (48 ≤ x ∧ x ≤ 57)) : Calls Try.prog 28 #[.int .u8 x] w fun e w' => e = .returned (.bool false) ∧ w = w' := by
  by_cases h1 : 48 ≤ x
  · have h2 : ¬ x ≤ 57 := fun h2 => h ⟨h1, h2⟩
    clear h
    go_enter Try.func28, Try.ntmps28
    go_wp2
    go_ret
    exact ⟨rfl, rfl⟩
  · clear h
    go_enter Try.func28, Try.ntmps28
    go_wp2
    go_ret
    exact ⟨rfl, rfl⟩

theorem byte_at (s : ByteArray) (k : Nat) (h : k < s.size) : ((s[k]'h).toNat : Int) = (numsOf s).getD k 0 := by
  have h' : k < s.data.toList.length := by simpa using h
  simp only [numsOf, List.getD, List.getElem?_map, List.getElem?_eq_getElem h', Option.map_some, Option.getD_some]
  rfl
theorem byte_mem (s : ByteArray) (k : Nat) (h : k < s.size) : (numsOf s).getD k 0 ∈ numsOf s := by
  have h' : k < (numsOf s).length := by rw [numsOf_len]; exact h
  simp [List.getD, h']

set_option maxHeartbeats 1000000 in
theorem digits24 (s : ByteArray) (w : World) (hs : (s.size : Int) ≤ 2000000) (hd : ∀ x, x ∈ numsOf s → 48 ≤ x ∧ x ≤ 57) : Calls Try.prog 24 #[.string s] w fun e w' => e = .returned (.bool true) ∧ w = w' := by
  have HD := hide hd
  clear hd
  go_enter Try.func24, Try.ntmps24
  go_wp2_with fail
  go_loop [3] (fun i => ∃ k : Nat, k ≤ s.size ∧ i = .int .i64 k) (fun i => s.size - (intOf i).toNat)
  case atStart => exact ⟨0, Nat.zero_le _, rfl⟩
  case round =>
    obtain ⟨k, hk, rfl⟩ := hrel
    by_cases hlt : k < s.size
    · have C := hide (fun w1 => digit28 (s[k].toNat : Int) w1 (by rw [byte_at s k hlt]; exact unhide HD _ (byte_mem s k hlt)))
      go_wp2_with (go_at_call 28; refine (unhide C _).mono ?_; rintro e w' ⟨rfl, rfl⟩)
      go_round
      case rel => exact ⟨k + 1, by omega, by go_num⟩
      case measure => simp [intOf]; omega
    · go_wp2_with fail
      go_ret
      exact ⟨rfl, rfl⟩

set_option maxHeartbeats 1000000 in
theorem digits24_no (s : ByteArray) (w : World) (hs : s.size ≤ 1048576) (hd : ¬ ∀ x, x ∈ numsOf s → 48 ≤ x ∧ x ≤ 57) : Calls Try.prog 24 #[.string s] w fun e w' => e = .returned (.bool false) ∧ w = w' := by
  have HD := hide hd
  clear hd
  go_enter Try.func24, Try.ntmps24
  go_wp2_with fail
  go_loop [3] (fun i => ∃ k : Nat, k ≤ s.size ∧ i = .int .i64 k ∧ ∀ j, j < k → 48 ≤ (numsOf s).getD j 0 ∧ (numsOf s).getD j 0 ≤ 57) (fun i => s.size - (intOf i).toNat)
  case atStart => exact ⟨0, Nat.zero_le _, rfl, fun j hj => by omega⟩
  case round =>
    obtain ⟨k, hk, rfl, hall⟩ := hrel
    have HA := hide hall
    clear hall
    by_cases hlt : k < s.size
    · by_cases hx : 48 ≤ (s[k].toNat : Int) ∧ (s[k].toNat : Int) ≤ 57
      · have C := hide (fun w1 => digit28 (s[k].toNat : Int) w1 hx)
        have HX := hide hx
        clear hx
        go_wp2_with (go_at_call 28; refine (unhide C _).mono ?_; rintro e w' ⟨rfl, rfl⟩)
        go_round
        case rel =>
          refine ⟨k + 1, by omega, by go_num, fun j hj => ?_⟩
          by_cases e : j = k
          · subst e; rw [← byte_at s j hlt]; exact unhide HX
          · exact unhide HA j (by omega)
        case measure => simp [intOf]; omega
      · have C := hide (fun w1 => digit28_no (s[k].toNat : Int) w1 hx)
        clear hx
        go_wp2_with (go_at_call 28; refine (unhide C _).mono ?_; rintro e w' ⟨rfl, rfl⟩)
        go_ret
        exact ⟨rfl, rfl⟩
    · exfalso
      refine unhide HD fun x hx => ?_
      obtain ⟨i, hi, he⟩ := List.getElem_of_mem hx
      have hl := numsOf_len s
      have := unhide HA i (by omega)
      simpa [List.getD, hi, he] using this

end Go.Proofs.Qxb6601093a
