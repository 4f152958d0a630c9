import Derived.Test.Qxb6616784aAre
namespace Go.Proofs.Qxb6616784a
open Go.RowKit

theorem take_false (l : List Bool) (j : Nat) (h : j < l.length) (hb : l.getD j false = false) : l.take j ++ [false] = l.take (j + 1) := by
  rw [List.take_succ_eq_append_getElem h]
  simp [List.getD, h] at hb
  rw [hb]
theorem take_true (l : List Bool) (j : Nat) (h : j < l.length) (hb : l.getD j false = true) : (l.take j ++ [false]).set j true = l.take (j + 1) := by
  rw [List.take_succ_eq_append_getElem h]
  simp [List.getD, h] at hb
  rw [hb, List.set_append_right _ _ (by simp; omega)]
  have : j - (l.take j).length = 0 := by simp; omega
  rw [this]; rfl

set_option maxRecDepth 100000 in
set_option maxHeartbeats 1000000 in
/-- buildFactory. -/
theorem build_any (w : World) (mo : Option Addr) (mc : Nat) (ml : List Bool) (hM : Marks w mo ml) (hl : ml.length ≤ 65536) :
    Calls Try.prog 5 #[.slice mo ml.length mc] w fun e w' => ∃ fb sv ms, e = .returned (ptrTo fb) ∧ Fac w' w.heap.size fb sv ms ml ∧ Below w.heap.size w w' := by
  have HM : Hid (Marks w mo ml) := hM
  clear hM
  go_enter Try.func5, Try.ntmps5
  go_wp2_with fail
  refine (newf_any w w.heap.size (Nat.le_refl _)).mono ?_
  rintro e w0 ⟨fb, rfl, hF0, hb0⟩
  have HF0 := (show Hid _ from hF0)
  clear hF0
  unfold ptrTo
  go_wp2_with fail
  go_loopw [4] (fun jv wr => ∃ (j : Nat) (sv : Value) (ms : List Nat), j ≤ ml.length ∧ jv = .int .i64 j ∧ Hid (Fac wr w.heap.size fb sv ms (ml.take j)) ∧ Below w.heap.size w wr) (fun j _ => ml.length - (intOf j).toNat)
  case atStart => exact ⟨0, _, _, Nat.zero_le _, rfl, HF0, hb0⟩
  case round =>
    obtain ⟨j, sv, ms, hj, rfl, HF, hbel⟩ := hrel
    have hml : ms.length = j := by have := HF.out.len; simp at this; omega
    by_cases hlt : j < ml.length
    · obtain ⟨b, off, rfl, hbl, hc⟩ := HM.out j hlt
      clear hml
      go_wp2_with fail
      refine (add_any wr w.heap.size fb sv ms _ HF.out (by have := HF.out.len; simp at this; omega)).mono ?_
      rintro e w1 ⟨rfl, sv1, m1, hF1, hf1, _⟩
      have s3 := HF.out.sep.2.2.1
      have hfb := HF.out.fbase
      have hb1 : Below w.heap.size w w1 := hbel.trans (hf1.below hbel.size (fun k hk h => h.elim (fun e => by omega) (fun e => by have := s3 k e; omega)))
      have d1 : w1.cell? ⟨b, off + j, Option.none⟩ = some (.bool (ml.getD j false)) := (hb1.cell (by exact hbl)).trans hc
      have HF1 := (show Hid _ from hF1)
      have hml : (ms ++ [m1]).length = j + 1 := by have := HF.out.len; simp at this ⊢; omega
      have HL : Hid ((ms ++ [m1]).length = j + 1) := hml
      clear hF1 hf1 hc s3 hfb hml
      generalize hbb : ml.getD j false = bb at d1
      have HBB : Hid (ml.getD j false = bb) := hbb
      clear hbb
      cases bb with
      | false =>
        rw [take_false ml j hlt HBB.out] at HF1
        go_wp2_with fail
        go_roundw
        case rel => exact ⟨j + 1, _, _, by omega, by go_num, HF1, hb1⟩
        case measure => simp [intOf]; omega
      | true =>
        go_wp2_with fail
        refine (start_any w1 w.heap.size fb sv1 (ms ++ [m1]) _ HF1.out j (by have := HL.out; omega)).mono ?_
        rintro e w2 ⟨rfl, hF2, hf2⟩
        rw [take_true ml j hlt HBB.out] at hF2
        have HF2 := (show Hid _ from hF2)
        have hb2 : Below w.heap.size w w2 := hb1.trans (hf2.below hb1.size (fun k hk h => by have := (HF1.out.mem j k h).1; omega))
        clear hF2 hf2
        go_wp2_with fail
        go_roundw
        case rel => exact ⟨j + 1, _, _, by omega, by go_num, HF2, hb2⟩
        case measure => simp [intOf]; omega
    · have hjl : j = ml.length := by omega
      subst hjl
      rw [List.take_length] at HF
      go_wp2
      go_ret
      exact ⟨fb, _, _, rfl, HF.out, hbel⟩
end Go.Proofs.Qxb6616784a
