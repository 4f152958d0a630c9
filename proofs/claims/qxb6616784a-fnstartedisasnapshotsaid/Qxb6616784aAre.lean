import Derived.Test.Qxb6616784aStarted
import Derived.Deep.QuietTactic
import Derived.BigQuiet
import Derived.LaidEql
import Derived.WalkSmall
namespace Go.Proofs.Qxb6616784a
open Go.RowKit

/-- ZZstarted. -/
theorem zstarted_any (w : World) (base fb : Nat) (sv : Value) (ms : List Nat) (fl : List Bool) (hF : Fac w base fb sv ms fl) (hl : ms.length ≤ 1000000) :
    Calls Try.prog 6 #[ptrTo fb] w fun e w' => ∃ v, e = .returned v ∧ w'.ownsRow w.heap.size 29 1 v (runs ms fl).length ((runs ms fl).map ptrTo) ∧ Below w.heap.size w w' := by
  have HF : Hid (Fac w base fb sv ms fl) := hF
  clear hF
  unfold ptrTo
  go_enter Try.func6, Try.ntmps6
  go_wp2_with fail
  refine (started_any w base fb sv ms fl HF.out hl).mono ?_
  rintro e w' ⟨v, rfl, h1, h2⟩
  obtain ⟨ao', cap', rfl⟩ := owns_slice h1
  have H1 := (show Hid _ from h1)
  clear h1
  go_wp2
  go_ret
  exact ⟨_, rfl, H1.out, h2⟩

/-- A slice of bools that lies in w. -/
def Marks (w : World) (ao : Option Addr) (ml : List Bool) : Prop :=
  ∀ j, j < ml.length → ∃ b off, ao = some ⟨b, off, Option.none⟩ ∧ b < w.heap.size ∧ w.cell? ⟨b, off + j, Option.none⟩ = some (.bool (ml.getD j false))

theorem runs_prefix (ms : List Nat) (fl : List Bool) (hl : ms.length = fl.length) : ∀ (d k : Nat), k + d ≤ ms.length → ∃ t, runs (ms.take (k + d)) fl = runs (ms.take k) fl ++ t
  | 0, k, _ => ⟨[], by simp⟩
  | d + 1, k, h => by
    obtain ⟨t, ht⟩ := runs_prefix ms fl hl d k (by omega)
    have hs := runs_snoc ms fl (k + d) ms[k + d] (List.getElem?_eq_getElem (by omega)) hl
    rw [← Nat.add_assoc, hs, ht]
    exact ⟨_, List.append_assoc _ _ _⟩

theorem runs_at (ms : List Nat) (fl : List Bool) (hl : ms.length = fl.length) (k m : Nat) (hk : ms[k]? = some m) (hf : fl.getD k false = true) : (runs ms fl)[(runs (ms.take k) fl).length]? = some m := by
  have hlt := (List.getElem?_eq_some_iff.1 hk).1
  obtain ⟨t, ht⟩ := runs_prefix ms fl hl (ms.length - (k + 1)) (k + 1) (by omega)
  rw [show k + 1 + (ms.length - (k + 1)) = ms.length by omega, List.take_length, runs_snoc ms fl k m hk hl, hf] at ht
  rw [ht]
  simp

theorem eq_ptr (d : Nat) (w : World) (a : Addr) : (Op.equalIn (d + 1) 29 (.pointer (some a)) (.pointer (some a))).run Try.prog w = .ok true w := by
  simp [Op.equalIn, run_underlying Try.underlying29, run_sameAddr_same]
theorem neq_ptr (w : World) (a : Addr) : (binOp .neq 29 (.pointer (some a)) (.pointer (some a))).run Try.prog w = .ok (.bool false) w := by
  simp only [binOp]
  simp [Op.equal, Op.maxDepth, eq_ptr 9999 w a]

set_option maxRecDepth 100000 in
set_option maxHeartbeats 1000000 in
/-- startedAre, where got is what it should be. -/
theorem are_any (w : World) (base fb : Nat) (sv : Value) (ms : List Nat) (fl : List Bool) (hF : Fac w base fb sv ms fl) (hl : ms.length ≤ 1000000)
    (B : Nat) (v : Value) (mo : Option Addr) (mc : Nat) (ml : List Bool) (hM : Marks w mo ml) (hml : ml.length ≤ ms.length)
    (hv : w.ownsRow B 29 1 v (runs (ms.take ml.length) ml).length ((runs (ms.take ml.length) ml).map ptrTo)) :
    Calls Try.prog 7 #[ptrTo fb, v, .slice mo ml.length mc, .int .i64 (-1)] w fun e w' => e = .returned (.bool true) ∧ Below w.heap.size w w' := by
  have HF : Hid (Fac w base fb sv ms fl) := hF
  have HM : Hid (Marks w mo ml) := hM
  have HV : Hid (w.ownsRow B 29 1 v (runs (ms.take ml.length) ml).length ((runs (ms.take ml.length) ml).map ptrTo)) := hv
  obtain ⟨ao, cap, rfl⟩ := owns_slice hv
  clear hF hM hv
  have hnq := neq_ptr
  unfold ptrTo
  go_enter Try.func7, Try.ntmps7
  go_wp2
  go_loopw [9, 10] (fun kv jv wr => ∃ j : Nat, j ≤ ml.length ∧ jv = .int .i64 j ∧ kv = .int .i64 (runs (ms.take j) ml).length ∧ Below w.heap.size w wr) (fun _ j _ => ml.length - (intOf j).toNat)
  case atStart => exact ⟨0, Nat.zero_le _, rfl, by simp [runs_nil], Below.refl _ _⟩
  case round =>
    obtain ⟨j, hj, rfl, rfl, hbel⟩ := hrel
    by_cases hlt : j < ml.length
    · obtain ⟨b, off, rfl, hbl, hc⟩ := HM.out j hlt
      have d1 : wr.cell? ⟨b, off + j, Option.none⟩ = some (.bool (ml.getD j false)) := (hbel.cell (by exact hbl)).trans hc
      have hne : ((j : Int) == -1) = false := beq_eq_false_iff_ne.2 (by omega)
      have hjm : j < ms.length := by omega
      have htk : (ms.take ml.length)[j]? = some ms[j] := by rw [List.getElem?_take_of_lt hlt]; exact List.getElem?_eq_getElem hjm
      have hss := runs_snoc (ms.take ml.length) ml j ms[j] htk (by simp; omega)
      rw [List.take_take, List.take_take, Nat.min_eq_left (by omega : j + 1 ≤ ml.length), Nat.min_eq_left (by omega : j ≤ ml.length)] at hss
      have hat := runs_at (ms.take ml.length) ml (by simp; omega) j ms[j] htk
      rw [List.take_take, Nat.min_eq_left (by omega : j ≤ ml.length)] at hat
      have hrl : (runs (ms.take j) ml).length ≤ j := by have := runs_le (ms.take j) ml; simp at this; omega
      clear hc
      generalize hbb : ml.getD j false = bb at d1 hss hat
      clear hbb
      have HS : Hid (runs (ms.take (j + 1)) ml = runs (ms.take j) ml ++ if bb = true then [ms[j]] else []) := hss
      have HA : Hid (bb = true → (runs (ms.take ml.length) ml)[(runs (ms.take j) ml).length]? = some ms[j]) := hat
      clear hss hat htk
      cases bb with
      | false =>
        have HN : Hid ((runs (ms.take (j + 1)) ml).length = (runs (ms.take j) ml).length) := by unfold Hid; rw [HS.out]; simp
        clear HS HA
        generalize (runs (ms.take j) ml).length = kk at HN hrl
        go_wp2
        go_roundw
        case rel => exact ⟨j + 1, by omega, by go_num, by rw [HN.out], hbel⟩
        case measure => simp [intOf]; omega
      | true =>
        have HN : Hid ((runs (ms.take (j + 1)) ml).length = (runs (ms.take j) ml).length + 1) := by unfold Hid; rw [HS.out]; simp
        have hA := HA.out rfl
        have hkN := (List.getElem?_eq_some_iff.1 hA).1
        obtain ⟨g, cap', hg⟩ := owns_shape HV.out (by omega)
        obtain ⟨rfl, rfl⟩ : ao = some ⟨g, 0, Option.none⟩ ∧ cap = cap' := by simpa using hg
        have d4 : wr.cell? ⟨g, (runs (ms.take j) ml).length, Option.none⟩ = some (.pointer (some ⟨ms[j], 0, Option.none⟩)) := by
          rw [hbel.cell (by exact (HV.out.lt g rfl).2), HV.out.cellAt _ (by omega)]
          simp [hA, ptrTo]
        obtain ⟨g2, cap2, m, c, hsv, him, c1, c2, c3, c4, hcf, l1, l2, l3⟩ := HF.out.at hjm
        have d5 : wr.cell? ⟨fb, 16, Option.none⟩ = some (.slice (some ⟨g2, 0, Option.none⟩) ms.length cap2) := by rw [hbel.cell (by exact l3), c1, hsv]
        have d6 : wr.cell? ⟨g2, j, Option.none⟩ = some (.pointer (some ⟨ms[j], 0, Option.none⟩)) := by
          rw [hbel.cell (by exact l1), c2]
          rw [List.getElem?_eq_getElem hjm] at him
          simp at him
          rw [← him]; rfl
        clear HS HA hA hg c1 c2 c3 c4 hsv him hcf l1 l2 l3
        generalize (runs (ms.take j) ml).length = kk at HN hrl hkN d4
        generalize hNN : (runs (ms.take ml.length) ml).length = NN at hkN
        generalize ms[j] = mj at d4 d6
        go_wp2
        go_quiet ((go_at_call 10; exact Calls.quiet_of_same (mat_any fb g2 ms.length cap2 j _ _ (by assumption) (by omega) (by assumption))))
        all_goals go_wp2
        go_roundw
        case rel => exact ⟨j + 1, by omega, by go_num, by rw [HN.out]; go_num, below_drewN hbel _⟩
        case measure => simp [intOf]; omega
    · have hjl : j = ml.length := by omega
      subst hjl
      go_wp2
      go_ret
      exact ⟨by simp, hbel⟩
end Go.Proofs.Qxb6616784a
