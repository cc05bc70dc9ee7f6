/- The law FnSuccAgreesWithMachineIncrement, walked. -/
import Derived.Test.Qxb6601093aSucc
namespace Go.Proofs.Qxb6601093a
open Go.RowKit
set_option linter.unusedSimpArgs false
set_option linter.unusedVariables false

set_option maxHeartbeats 1000000 in
theorem walk9_max (w : World) : Calls Try.prog 9 #[.int .u64 18446744073709551615] w fun e w' => e = .returned (.bool true) ∧ Below w.heap.size w w' := by
  go_enter Try.func9, Try.ntmps9
  go_wp2_with fail
  go_ret
  exact ⟨rfl, Below.refl _ _⟩

set_option maxHeartbeats 1000000 in
theorem walk9 (z : Int) (w : World) (h0 : 0 ≤ z) (hz : z < 18446744073709551615) : Calls Try.prog 9 #[.int .u64 z] w fun e w' => e = .returned (.bool true) ∧ Below w.heap.size w w' := by
  obtain ⟨K, hK⟩ : ∃ K : Nat, z = (K : Int) := ⟨z.toNat, by omega⟩
  have C1 : Hid (∀ w1, Calls Try.prog 20 #[.int .u64 z] w1 fun e w' => e = .returned (.string (strOfNums (utoaL K))) ∧ Below w1.heap.size w1 w') := fun w1 => by rw [hK]; exact utoa_any K w1 (by omega)
  have C2 : Hid (∀ w1, Calls Try.prog 22 #[.string (strOfNums (utoaL K))] w1 fun e w' => e = .returned (.string (strOfNums (utoaL (K + 1)))) ∧ Below w1.heap.size w1 w') := by
    intro w1
    have hr := utoa_range K
    have hn := nums_str (utoaL K) (fun x hx => by have := hr x hx; omega)
    have := succ22 (strOfNums (utoaL K)) w1 (by rw [strOfNums_size]; have := utoa_len K; omega) (by rw [hn]; exact hr)
    rw [hn, succ_utoa K (by omega)] at this
    exact this
  have C3 : Hid (∀ w1, Calls Try.prog 20 #[.int .u64 (z + 1)] w1 fun e w' => e = .returned (.string (strOfNums (utoaL (K + 1)))) ∧ Below w1.heap.size w1 w') := fun w1 => by rw [hK]; exact utoa_any (K + 1) w1 (by omega)
  have ht : (z == 18446744073709551615) = false := by simp; omega
  obtain ⟨s1, hs1⟩ : ∃ s1, s1 = strOfNums (utoaL K) := ⟨_, rfl⟩
  obtain ⟨s2, hs2⟩ : ∃ s2, s2 = strOfNums (utoaL (K + 1)) := ⟨_, rfl⟩
  rw [← hs1] at C1 C2
  rw [← hs2] at C2 C3
  clear hs1 hs2 hK
  go_enter Try.func9, Try.ntmps9
  go_wp2_with fail
  refine (unhide C1 _).mono ?_
  rintro e w1 ⟨rfl, hb1⟩
  have HB1 := hide hb1
  clear hb1
  go_wp2_with fail
  refine (unhide C2 _).mono ?_
  rintro e w2 ⟨rfl, hb2⟩
  have HB2 := hide hb2
  clear hb2
  go_wp2_with fail
  refine (unhide C3 _).mono ?_
  rintro e w3 ⟨rfl, hb3⟩
  have HB3 := hide hb3
  clear hb3
  go_wp2_with fail
  go_ret
  have h1 := (unhide HB1).size
  have h2 := (unhide HB2).size
  exact ⟨rfl, ((unhide HB1).trans ((unhide HB2).mono h1)).trans ((unhide HB3).mono (by omega))⟩

end Go.Proofs.Qxb6601093a
