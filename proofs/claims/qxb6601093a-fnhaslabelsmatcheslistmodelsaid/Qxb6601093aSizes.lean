/- The law's first tests, walked: zzBytes, zzPairBytes: they return. -/
import Derived.Test.Qxb6601093aModel
namespace Go.Proofs.Qxb6601093a
open Go.RowKit
set_option linter.unusedSimpArgs false
set_option linter.unusedVariables false

set_option maxHeartbeats 2000000 in
theorem pair11 (a : Option Addr) (c : Nat) (ls : List Pr) (w : World) (hr : InPairs w a ls) (hl : (ls.length : Int) ≤ 9223372036854775807) :
    Calls Try.prog 11 #[.slice a ls.length c] w fun e w' => ∃ t : Int, 0 ≤ t ∧ t ≤ 1048577 ∧ e = .returned (.int .i64 t) ∧ Same w w' := by
  have HR := hide hr
  clear hr
  go_enter Try.func11, Try.ntmps11
  go_wp2_with fail
  go_loopw [3, 4] (fun t i wr => ∃ k : Nat, ∃ z : Int, k ≤ ls.length ∧ i = .int .i64 k ∧ t = .int .i64 z ∧ 0 ≤ z ∧ z ≤ 1048576 ∧ Same w wr) (fun _ i _ => ls.length - (intOf i).toNat)
  case atStart => exact ⟨0, 0, Nat.zero_le _, rfl, rfl, by omega, by omega, Same.refl _⟩
  case round =>
    obtain ⟨k, z, hk, rfl, rfl, hz0, hz1, hsame⟩ := hrel
    have HS := hide hsame
    by_cases hlt : k < ls.length
    · obtain ⟨bb, off, rfl, hbb, hc⟩ := (unhide HR).same hsame (by omega)
      obtain ⟨c1, c2⟩ := hc k hlt
      obtain ⟨x, hx⟩ : ∃ x, x = (ls.getD k nop).1 := ⟨_, rfl⟩
      obtain ⟨y, hy⟩ : ∃ y, y = (ls.getD k nop).2 := ⟨_, rfl⟩
      rw [← hx] at c1
      rw [← hy] at c2
      clear hc hx hy hsame
      by_cases h1 : (1048576 : Int) < x.size
      · go_wp2_with fail
        go_ret
        exact ⟨_, by omega, by omega, rfl, unhide HS⟩
      · by_cases h2 : (1048576 : Int) < y.size
        · go_wp2_with fail
          go_ret
          exact ⟨_, by omega, by omega, rfl, unhide HS⟩
        · have h1' : (x.size : Int) ≤ 1048576 := by omega
          have h2' : (y.size : Int) ≤ 1048576 := by omega
          clear h1 h2
          go_wp2_with fail
          go_quiet (fail)
          by_cases h3 : 1048576 < z + (32 + (x.size : Int) + (y.size : Int))
          · go_wp2_with fail
            go_ret
            exact ⟨_, by omega, by omega, rfl, (unhide HS).trans (same_drewN _ _)⟩
          · go_wp2_with fail
            go_roundw
            case rel => exact ⟨k + 1, z + (32 + (x.size : Int) + (y.size : Int)), by omega, by go_num, by go_num, by omega, by omega, (unhide HS).trans (same_drewN _ _)⟩
            case measure => simp [intOf]; omega
    · clear hsame
      go_wp2_with fail
      go_ret
      exact ⟨z, hz0, by omega, rfl, unhide HS⟩

set_option maxRecDepth 20000 in
set_option maxHeartbeats 4000000 in
theorem bytes10 (a b : Option Addr) (c d : Nat) (l1 l2 : List Pr) (w : World) (ha : InPairs w a l1) (hb : InPairs w b l2) (hl1 : (l1.length : Int) ≤ 9223372036854775807) (hl2 : (l2.length : Int) ≤ 9223372036854775807) :
    Calls Try.prog 10 #[.slice a l1.length c, .slice b l2.length d] w fun e w' => (e = .returned (.bool false) ∨ e = .returned (.bool true)) ∧ w = w' := by
  have HA := hide ha
  have HB := hide hb
  clear ha hb
  by_cases g1 : (1048576 : Int) < l1.length
  · go_enter Try.func10, Try.ntmps10
    go_wp2_with fail
    go_ret
    first | exact ⟨.inl rfl, rfl⟩ | exact ⟨.inr rfl, rfl⟩
  · have g1' : (l1.length : Int) ≤ 1048576 := by omega
    clear g1
    go_enter Try.func10, Try.ntmps10
    go_wp2_with fail
    go_loop [5, 6] (fun t i => ∃ k : Nat, ∃ z : Int, k ≤ l1.length ∧ i = .int .i64 k ∧ t = .int .i64 z ∧ 0 ≤ z ∧ z ≤ 1048576) (fun _ i => l1.length - (intOf i).toNat)
    case atStart => exact ⟨0, l1.length, Nat.zero_le _, rfl, rfl, by omega, by omega⟩
    case round =>
      obtain ⟨k, z, hk, rfl, rfl, hz0, hz1⟩ := hrel
      by_cases hlt : k < l1.length
      · obtain ⟨bb, off, rfl, hbb, hc⟩ := unhide HA (by omega)
        obtain ⟨c1, c2⟩ := hc k hlt
        obtain ⟨x, hx⟩ : ∃ x, x = (l1.getD k nop).1 := ⟨_, rfl⟩
        obtain ⟨y, hy⟩ : ∃ y, y = (l1.getD k nop).2 := ⟨_, rfl⟩
        rw [← hx] at c1
        rw [← hy] at c2
        clear hc hx hy
        by_cases h1 : (1048576 : Int) < x.size
        · go_wp2_with fail
          go_ret
          first | exact ⟨.inl rfl, rfl⟩ | exact ⟨.inr rfl, rfl⟩
        · have h1' : (x.size : Int) ≤ 1048576 := by omega
          clear h1
          by_cases h3 : 1048576 < z + (x.size : Int)
          · go_wp2_with fail
            go_ret
            first | exact ⟨.inl rfl, rfl⟩ | exact ⟨.inr rfl, rfl⟩
          · have h3' : z + (x.size : Int) ≤ 1048576 := by omega
            clear h3
            by_cases h2 : (1048576 : Int) < y.size
            · go_wp2_with fail
              go_ret
              first | exact ⟨.inl rfl, rfl⟩ | exact ⟨.inr rfl, rfl⟩
            · have h2' : (y.size : Int) ≤ 1048576 := by omega
              clear h2
              by_cases h4 : 1048576 < z + (x.size : Int) + (y.size : Int)
              · go_wp2_with fail
                go_ret
                first | exact ⟨.inl rfl, rfl⟩ | exact ⟨.inr rfl, rfl⟩
              · go_wp2_with fail
                go_round
                case rel => exact ⟨k + 1, z + (x.size : Int) + (y.size : Int), by omega, by go_num, by go_num, by omega, by omega⟩
                case measure => simp [intOf]; omega
      · by_cases g2 : (1048576 : Int) < l2.length
        · go_wp2_with fail
          go_ret
          first | exact ⟨.inl rfl, rfl⟩ | exact ⟨.inr rfl, rfl⟩
        · have g2' : (l2.length : Int) ≤ 1048576 := by omega
          clear g2
          by_cases g3 : 1048576 < z + (l2.length : Int)
          · go_wp2_with fail
            go_ret
            first | exact ⟨.inl rfl, rfl⟩ | exact ⟨.inr rfl, rfl⟩
          · have g3' : z + (l2.length : Int) ≤ 1048576 := by omega
            clear g3
            go_wp2_with fail
            go_loop [5, 7] (fun t i => ∃ k : Nat, ∃ z : Int, k ≤ l2.length ∧ i = .int .i64 k ∧ t = .int .i64 z ∧ 0 ≤ z ∧ z ≤ 1048576) (fun _ i => l2.length - (intOf i).toNat)
            case atStart => exact ⟨0, _, Nat.zero_le _, rfl, rfl, by omega, by omega⟩
            case round =>
              clear hk hlt hz0 hz1 g3'
              obtain ⟨k, z, hk, rfl, rfl, hz0, hz1⟩ := hrel
              by_cases hlt : k < l2.length
              · obtain ⟨bb, off, rfl, hbb, hc⟩ := unhide HB (by omega)
                obtain ⟨c1, c2⟩ := hc k hlt
                obtain ⟨x, hx⟩ : ∃ x, x = (l2.getD k nop).1 := ⟨_, rfl⟩
                obtain ⟨y, hy⟩ : ∃ y, y = (l2.getD k nop).2 := ⟨_, rfl⟩
                rw [← hx] at c1
                rw [← hy] at c2
                clear hc hx hy
                by_cases h1 : (1048576 : Int) < x.size
                · go_wp2_with fail
                  go_ret
                  first | exact ⟨.inl rfl, rfl⟩ | exact ⟨.inr rfl, rfl⟩
                · have h1' : (x.size : Int) ≤ 1048576 := by omega
                  clear h1
                  by_cases h3 : 1048576 < z + (x.size : Int)
                  · go_wp2_with fail
                    go_ret
                    first | exact ⟨.inl rfl, rfl⟩ | exact ⟨.inr rfl, rfl⟩
                  · have h3' : z + (x.size : Int) ≤ 1048576 := by omega
                    clear h3
                    by_cases h2 : (1048576 : Int) < y.size
                    · go_wp2_with fail
                      go_ret
                      first | exact ⟨.inl rfl, rfl⟩ | exact ⟨.inr rfl, rfl⟩
                    · have h2' : (y.size : Int) ≤ 1048576 := by omega
                      clear h2
                      by_cases h4 : 1048576 < z + (x.size : Int) + (y.size : Int)
                      · go_wp2_with fail
                        go_ret
                        first | exact ⟨.inl rfl, rfl⟩ | exact ⟨.inr rfl, rfl⟩
                      · go_wp2_with fail
                        go_round
                        case rel => exact ⟨k + 1, z + (x.size : Int) + (y.size : Int), by omega, by go_num, by go_num, by omega, by omega⟩
                        case measure => simp [intOf]; omega
              · go_wp2_with fail
                go_ret
                first | exact ⟨.inl rfl, rfl⟩ | exact ⟨.inr rfl, rfl⟩

end Go.Proofs.Qxb6601093a
