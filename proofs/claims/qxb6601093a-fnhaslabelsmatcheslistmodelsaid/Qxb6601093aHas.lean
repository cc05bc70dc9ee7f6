/- hasLabels, walked over the two maps. -/
import Derived.Test.Qxb6601093aMapOf
import Derived.Laws.IdiomRangeMap
namespace Go.Proofs.Qxb6601093a
open Go.RowKit Go.WideMaps
set_option linter.unusedSimpArgs false
set_option linter.unusedVariables false

/-- The range's step, string keys, string elements. -/
theorem next_ss (w : World) {ops : Array Oper} {rest : List Oper} {o : Oper} {a : Act} {Q : Exit → Act → World → Prop}
    (hg : o.guard = none) (it : Operand) (hop : o.op = Op.next it false) (b r n : Nat) (D : DataW Unit) (left : Lit → Bool) (cnt : Nat) (hit : a.eval it = .pointer (some ⟨r, 0, none⟩)) (h : w.ranges Try.prog 9 (plainElem (H := Unit) Try.prog 9) b r n D left cnt)
    (hDone : cnt = 0 → (∀ kl, left kl = false) → wpList Try.prog ops Q rest (a.put o.dst (.tuple #[.bool false])) w)
    (hMore : ∀ (x : ByteArray) (c : ByteArray) (w' : World) (cnt' : Nat), x.size ≤ maxLen → c.size ≤ maxLen → left (keyL x) = true → (∀ zd, D.atKey (keyL x) zd = valD c) → w'.ranges Try.prog 9 (plainElem (H := Unit) Try.prog 9) b r n D (fun z => left z && !z.sameKey (keyL x)) cnt' → cnt' < cnt →
      w.grownBy w' (some r) → w'.heap.size = w.heap.size → (Instr.entry (.pointer (some ⟨r, 0, none⟩))).run Try.prog w' = .ok (.tuple #[.string x, .string c]) w' → wpList Try.prog ops Q rest (a.put o.dst (.tuple #[.bool true, .string x, .string c])) w') :
    wpList Try.prog ops Q (o :: rest) a w :=
  wpList_next_ranges w hg it hop 9 law9 (plainElem Try.prog 9) Value.string Value.string (fun key kl hkey => by obtain ⟨x, rfl, _⟩ := string_of_keyOf Try.underlying9 hkey; exact ⟨x, rfl⟩) (fun v y hv => by obtain ⟨c, rfl, _⟩ := plainElem_string_inv Try.underlying9 hv; exact ⟨c, rfl⟩)
    b r n D left cnt hit h hDone (fun x c kl y w' cnt' hkey hlk hv hat hrg hlt hgr hsz hen => by
      obtain ⟨x', ex, rfl, hwx⟩ := string_of_keyOf Try.underlying9 hkey
      cases ex
      obtain ⟨c', ec, rfl, hwc⟩ := plainElem_string_inv Try.underlying9 hv
      cases ec
      exact hMore x c w' cnt' hwx hwc hlk hat hrg hlt hgr hsz hen)

/-- The map that a list stands for: nil for the nil list. -/
def MapIs (w : World) (mv : Value) (ls : List Pr) : Prop :=
  (mv = .map none ∧ ls = []) ∨ ∃ B, mv = .map (some B) ∧ Owns w B ls.length (mapD ls ls.length)

theorem MapIs.below {w w' : World} {mv : Value} {ls : List Pr} (h : MapIs w mv ls) (hb : Below w.heap.size w w') : MapIs w' mv ls := by
  rcases h with h | ⟨B, e, ho⟩
  · exact .inl h
  · exact .inr ⟨B, e, World.ownsMap.kept (row := none) ho ⟨hb.os, hb.tape, hb.output, hb.size, fun i hi _ => hb.block i hi⟩ (by simp)⟩

theorem zero9 (w : World) : (zeroValue 9).run Try.prog w = .ok (.string ByteArray.empty) w := by kernel_rfl

theorem MapIs.look {w : World} {mv : Value} {ls : List Pr} (h : MapIs w mv ls) (key : ByteArray) (hk : key.size ≤ maxLen) :
    ∃ v : ByteArray, (Instr.lookup 27 mv (.string key) true).run Try.prog w = .ok (.tuple #[.string v, .bool (Maps.has (mapD ls ls.length) (keyL key))]) w ∧ (mapD ls ls.length).atKey (keyL key) (.lit (.string [])) = valD v := by
  have hkey : keyOf Try.prog 9 (.string key) = some (keyL key) := keyOf_string_mk Try.underlying9 hk
  rcases h with ⟨rfl, rfl⟩ | ⟨B, rfl, ho⟩
  · refine ⟨ByteArray.empty, ?_, rfl⟩
    have := Maps.look_nil (w := w) true law9 Try.underlying27 (zero9 w) hkey
    rw [this]
    rfl
  · obtain ⟨v, ps, hrun, hv⟩ := World.ownsMap.look_ok ho law9 Try.underlying27 (zero9 w) (plainElem_string (H := Unit) Try.underlying9 (by simp)) hkey
    obtain ⟨c, rfl, hz, _⟩ := plainElem_string_inv Try.underlying9 hv
    exact ⟨c, hrun, congrArg Prod.fst hz⟩

theorem valD_inj {a b : ByteArray} (h : valD a = valD b) : a = b := by
  unfold valD at h
  exact WideShapes.bytes_inj (by simpa using h)

set_option maxHeartbeats 1000000 in
theorem has_nil (mv : Value) (labels : List Pr) (w : World) :
    Calls Try.prog 25 #[mv, .map none] w fun e w' => e = .returned (.bool (model labels [])) ∧ Below w.heap.size w w' := by
  have hrg := run_range_nilMap (P := Try.prog) w 27 9 9 Try.underlying27
  have hnx : ∀ ty, (Instr.next (.pointer (some ⟨w.heap.size, 0, none⟩)) false ty).run Try.prog (w.alloc (.mapIter none 0 #[] 0)) = _ := fun ty => run_next_nilMap w ty 0 0 #[]
  go_enter Try.func25, Try.ntmps25
  go_wp2
  refine wp_loop_rounds 1 ?_
  rw [rounds_succ]
  go_wp2
  go_ret
  exact ⟨rfl, (Below.refl _ _).alloc (Nat.le_refl _) _⟩

set_option maxHeartbeats 2000000 in
theorem has_some (mv : Value) (b : Nat) (labels want : List Pr) (w : World) (hm : MapIs w mv labels) (hown : Owns w b want.length (mapD want want.length)) :
    Calls Try.prog 25 #[mv, .map (some b)] w fun e w' => e = .returned (.bool (model labels want)) ∧ Below w.heap.size w w' := by
  have HMI := hide hm
  clear hm
  go_enter Try.func25, Try.ntmps25
  go_wp2_with (first
    | (at_range; refine wpList_range_own _ rfl _ 27 rfl 9 9 law9 Try.underlying27 _ b want.length _ rfl hown ?_; intro w0 hrg0 hg0 hs0)
    | go_in)
  go_frame
  go_loopw [5] (fun _ wr => ∃ (left : Lit → Bool) (cnt : Nat), wr.ranges Try.prog 9 (plainElem (H := Unit) Try.prog 9) b w.heap.size want.length (mapD want want.length) left cnt ∧ Below w.heap.size w wr ∧
      (∀ kl, left kl = true → Maps.has (mapD want want.length) kl = true) ∧ ∀ key, Maps.has (mapD want want.length) (keyL key) = true → left (keyL key) = false → okMap labels want key)
    (fun _ wr => wr.rangeLeft b w.heap.size)
  case atStart => exact ⟨_, _, hrg0, (Below.refl _ _).grown hg0 (Nat.le_refl _) (fun j hj => by cases hj), fun _ h => h, fun key h1 h2 => by rw [h1] at h2; cases h2⟩
  case round =>
    obtain ⟨left, cnt, hrg, hbw, hsub, hall⟩ := hrel
    have HALL := hide hall
    have HSUB := hide hsub
    have HBW := hide hbw
    clear hall hsub hbw hrg0 hg0 hs0
    go_wp2_with (first
      | (at_next; refine next_ss _ rfl _ rfl b w.heap.size want.length _ _ _ rfl hrg ?_ ?_)
      | go_in)
    · intro _ hl0
      go_wp2
      go_ret
      exact ⟨ret_bool (model_true labels want fun key h1 => unhide HALL key h1 (hl0 _)).symm, unhide HBW⟩
    · intro x c w1 cnt1 hwx hwc hlx hat hrg1 hlt hg1 hs1 hen
      have hb1 : Below w.heap.size w w1 := (unhide HBW).grown hg1 (unhide HBW).size (fun j hj => by cases hj; exact Nat.le_refl _)
      obtain ⟨v, hlook, hval⟩ := ((unhide HMI).below hb1).look x hwx
      have hhw := unhide HSUB _ hlx
      have hwat := hat (.lit (.string []))
      have HOK : Hid (okMap labels want x ↔ Maps.has (mapD labels labels.length) (keyL x) = true ∧ v = c) := by
        show _ ↔ _
        unfold okMap
        rw [hval, hwat]
        exact ⟨fun h => ⟨h.1, valD_inj h.2⟩, fun h => ⟨h.1, by rw [h.2]⟩⟩
      have HRG1 := hide hrg1
      have HLE : Hid (w1.rangeLeft b w.heap.size < wr.rangeLeft b w.heap.size) := by
        show _ < _
        rw [hrg1.left_eq, hrg.left_eq]; exact hlt
      have HB1 := hide hb1
      have HHW := hide hhw
      obtain ⟨h, hh⟩ : ∃ h, h = Maps.has (mapD labels labels.length) (keyL x) := ⟨_, rfl⟩
      rw [← hh] at hlook HOK
      clear hrg hrg1 hlt hg1 hs1 hb1 hhw hwat hval hat hh hlx
      cases h with
      | false =>
        have HNO : Hid (model labels want = false) := model_false labels want x (unhide HHW) (fun hc => by have := ((unhide HOK).1 hc).1; cases this)
        go_wp2_with fail
        go_ret
        exact ⟨ret_bool (unhide HNO).symm, unhide HB1⟩
      | true =>
        cases hv : (v.toList == c.toList) with
        | true =>
          have hn : (v.toList != c.toList) = false := by simp [bne, hv]
          have HYES : Hid (okMap labels want x) := (unhide HOK).2 ⟨rfl, eq_bytes.1 hv⟩
          go_wp2_with fail
          go_roundw
          case rel =>
            refine ⟨_, cnt1, unhide HRG1, unhide HB1, ?_, ?_⟩
            · intro kl hkl
              exact unhide HSUB kl (by simp at hkl; exact hkl.1)
            · intro key h1 h2
              by_cases e : keyL key = keyL x
              · rw [keyL_inj e]; exact unhide HYES
              · refine unhide HALL key h1 ?_
                simpa [Maps.sameKey_ne e] using h2
          case measure => exact unhide HLE
        | false =>
          have hn : (v.toList != c.toList) = true := by simp [bne, hv]
          have HNO : Hid (model labels want = false) := model_false labels want x (unhide HHW) (fun hc => by have := eq_bytes.2 ((unhide HOK).1 hc).2; rw [hv] at this; cases this)
          go_wp2_with fail
          go_ret
          exact ⟨ret_bool (unhide HNO).symm, unhide HB1⟩

theorem has25 (mv mw : Value) (labels want : List Pr) (w : World) (h1 : MapIs w mv labels) (h2 : MapIs w mw want) :
    Calls Try.prog 25 #[mv, mw] w fun e w' => e = .returned (.bool (model labels want)) ∧ Below w.heap.size w w' := by
  rcases h2 with ⟨rfl, rfl⟩ | ⟨B, rfl, ho⟩
  · exact has_nil mv labels w
  · exact has_some mv B labels want w h1 ho

theorem has13 (mv mw : Value) (labels want : List Pr) (w : World) (h1 : MapIs w mv labels) (h2 : MapIs w mw want) :
    Calls Try.prog 13 #[mv, mw] w fun e w' => e = .returned (.bool (model labels want)) ∧ Below w.heap.size w w' := by
  have H := hide (has25 mv mw labels want w h1 h2)
  clear h1 h2
  go_enter Try.func13, Try.ntmps13
  go_wp2_with fail
  refine (unhide H).mono ?_
  rintro e w1 ⟨rfl, hb⟩
  have HB := hide hb
  clear hb
  go_wp2_with fail
  go_ret
  exact ⟨rfl, unhide HB⟩
end Go.Proofs.Qxb6601093a
