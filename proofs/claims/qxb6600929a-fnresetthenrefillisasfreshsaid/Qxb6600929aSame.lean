/- 'zzSameChunksB1', 'zzSameInt64sB1' where the two are the same. -/
import Derived.Test.Qxb6600929aResetState
namespace Go.Proofs.Qxb6600929a
open Go.RowKit
set_option linter.unusedSimpArgs false
set_option linter.unusedVariables false

set_option maxHeartbeats 2000000 in
theorem same26_low (va vb : Option Addr) (n vc vd : Nat) (L C : Nat → Nat) (X : Nat → Nat → Int) (w : World) (hn : n ≤ 1000000) (hL : ∀ k, k < n → L k ≤ 65536)
    (ha : 0 < n → ∃ ca, ∃ ba : Nat → Nat, va = some ⟨ca, 0, none⟩ ∧ (∀ k, k < n → w.cell? ⟨ca, k, none⟩ = some (.slice (some ⟨ba k, 0, none⟩) (L k) (C k))) ∧ ∀ k, k < n → ∀ j, j < L k → w.cell? ⟨ba k, j, none⟩ = some (.int .u32 (X k j)))
    (hb : 0 < n → ∃ ca, ∃ ba : Nat → Nat, vb = some ⟨ca, 0, none⟩ ∧ (∀ k, k < n → w.cell? ⟨ca, k, none⟩ = some (.slice (some ⟨ba k, 0, none⟩) (L k) (C k))) ∧ ∀ k, k < n → ∀ j, j < L k → w.cell? ⟨ba k, j, none⟩ = some (.int .u32 (X k j))) :
    Calls Try.prog 26 #[.slice va n vc, .slice vb n vd] w fun e w' => e = .returned (.bool true) ∧ Same w w' := by
  have HA := hide ha
  have HB := hide hb
  have HL := hide hL
  clear ha hb hL
  go_enter Try.func26, Try.ntmps26
  go_wp2_with fail
  go_loopw [5] (fun i wr => ∃ k : Nat, k ≤ n ∧ i = .int .i64 k ∧ Same w wr) (fun i _ => n - (intOf i).toNat)
  case atStart => exact ⟨0, Nat.zero_le _, rfl, Same.refl _⟩
  case round =>
    obtain ⟨k, hk, rfl, hsame⟩ := hrel
    by_cases hlt : k < n
    · obtain ⟨ca, ba, rfl, q1, q2⟩ := unhide HA (by omega)
      obtain ⟨cb, bb, rfl, p1, p2⟩ := unhide HB (by omega)
      have c1 := (hsame.cell _).trans (q1 k hlt)
      have c2 := (hsame.cell _).trans (p1 k hlt)
      have d1 : ∀ wr2, Same w wr2 → ∀ j, j < L k → wr2.cell? ⟨ba k, j, none⟩ = some (.int .u32 (X k j)) := fun wr2 hs j hj => (hs.cell _).trans (q2 k hlt j hj)
      have d2 : ∀ wr2, Same w wr2 → ∀ j, j < L k → wr2.cell? ⟨bb k, j, none⟩ = some (.int .u32 (X k j)) := fun wr2 hs j hj => (hs.cell _).trans (p2 k hlt j hj)
      have e1 : ∀ wr2, Same w wr2 → wr2.cell? ⟨ca, k, none⟩ = some (.slice (some ⟨ba k, 0, none⟩) (L k) (C k)) := fun wr2 hs => (hs.cell _).trans (q1 k hlt)
      have e2 : ∀ wr2, Same w wr2 → wr2.cell? ⟨cb, k, none⟩ = some (.slice (some ⟨bb k, 0, none⟩) (L k) (C k)) := fun wr2 hs => (hs.cell _).trans (p1 k hlt)
      have hLk := unhide HL k hlt
      obtain ⟨l, hl⟩ : ∃ l, l = L k := ⟨_, rfl⟩
      obtain ⟨c, hc⟩ : ∃ c, c = C k := ⟨_, rfl⟩
      obtain ⟨x1, hx1⟩ : ∃ x1, x1 = ba k := ⟨_, rfl⟩
      obtain ⟨x2, hx2⟩ : ∃ x2, x2 = bb k := ⟨_, rfl⟩
      rw [← hl, ← hc, ← hx1] at c1 e1
      rw [← hl, ← hc, ← hx2] at c2 e2
      rw [← hl, ← hx1] at d1
      rw [← hl, ← hx2] at d2
      rw [← hl] at hLk
      have hLk' : (l : Int) ≤ 65536 := by omega
      have D1 := hide d1
      have D2 := hide d2
      have E1 := hide e1
      have E2 := hide e2
      have HS := hide hsame
      clear hl hc hx1 hx2 q1 q2 p1 p2 d1 d2 e1 e2 hLk hsame
      go_wp2_with fail
      go_quiet (fail)
      clear c1 c2
      go_wp2_with fail
      go_loopw [6] (fun i wr2 => ∃ j : Nat, j ≤ l ∧ i = .int .i64 j ∧ Same w wr2) (fun i _ => l - (intOf i).toNat)
      case atStart => exact ⟨0, Nat.zero_le _, rfl, (unhide HS).trans (same_drewN _ _)⟩
      case round =>
        obtain ⟨j, hj, rfl, hsm⟩ := hrel
        have c1 := unhide E1 _ hsm
        have c2 := unhide E2 _ hsm
        have HSM := hide hsm
        by_cases hjl : j < l
        · have f1 := unhide D1 _ hsm j hjl
          have f2 := unhide D2 _ hsm j hjl
          clear hsm
          go_wp2_with fail
          go_quiet (fail)
          go_wp2_with fail
          go_roundw
          case rel => exact ⟨j + 1, by omega, by go_num, (unhide HSM).trans (same_drewN _ _)⟩
          case measure => simp [intOf]; omega
        · clear hsm
          go_wp2_with fail
          go_roundw
          case rel => exact ⟨k + 1, by omega, by go_num, unhide HSM⟩
          case measure => simp [intOf]; omega
    · have HS := hide hsame
      clear hsame
      go_wp2_with fail
      go_ret
      exact ⟨rfl, unhide HS⟩

set_option maxHeartbeats 2000000 in
theorem same27_low (va vb : Option Addr) (n vc vd : Nat) (X : Nat → Int) (w : World) (hn : n ≤ 1000000)
    (ha : 0 < n → ∃ ca, va = some ⟨ca, 0, none⟩ ∧ ∀ k, k < n → w.cell? ⟨ca, k, none⟩ = some (.int .i64 (X k)))
    (hb : 0 < n → ∃ ca, vb = some ⟨ca, 0, none⟩ ∧ ∀ k, k < n → w.cell? ⟨ca, k, none⟩ = some (.int .i64 (X k))) :
    Calls Try.prog 27 #[.slice va n vc, .slice vb n vd] w fun e w' => e = .returned (.bool true) ∧ Same w w' := by
  have HA := hide ha
  have HB := hide hb
  clear ha hb
  go_enter Try.func27, Try.ntmps27
  go_wp2_with fail
  go_loopw [5] (fun i wr => ∃ k : Nat, k ≤ n ∧ i = .int .i64 k ∧ Same w wr) (fun i _ => n - (intOf i).toNat)
  case atStart => exact ⟨0, Nat.zero_le _, rfl, Same.refl _⟩
  case round =>
    obtain ⟨k, hk, rfl, hsame⟩ := hrel
    have HS := hide hsame
    by_cases hlt : k < n
    · obtain ⟨ca, rfl, q1⟩ := unhide HA (by omega)
      obtain ⟨cb, rfl, p1⟩ := unhide HB (by omega)
      have c1 := (hsame.cell _).trans (q1 k hlt)
      have c2 := (hsame.cell _).trans (p1 k hlt)
      clear q1 p1 hsame
      go_wp2_with fail
      go_quiet (fail)
      go_wp2_with fail
      go_roundw
      case rel => exact ⟨k + 1, by omega, by go_num, (unhide HS).trans (same_drewN _ _)⟩
      case measure => simp [intOf]; omega
    · clear hsame
      go_wp2_with fail
      go_ret
      exact ⟨rfl, unhide HS⟩

end Go.Proofs.Qxb6600929a
