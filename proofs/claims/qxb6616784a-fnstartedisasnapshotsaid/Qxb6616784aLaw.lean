import Derived.Test.Qxb6616784aMain
namespace Go.Proofs.Qxb6616784a
open Go.RowKit

theorem mat_z (fb g : Nat) (n cap i : Nat) (z : Int) (v : Value) (w : World) (hz : z = (i : Int)) (h : w.cell? ⟨fb, 16, Option.none⟩ = some (.slice (some ⟨g, 0, Option.none⟩) n cap)) (hi : i < n) (hv : w.cell? ⟨g, i, Option.none⟩ = some v) :
    Calls Try.prog 10 #[.pointer (some ⟨fb, 0, Option.none⟩), .int .i64 z] w fun e w' => e = .returned v ∧ w' = w := by
  subst hz
  exact mat_any fb g n cap i v w h hi hv

theorem hid {p : Prop} (h : p) : Hid p := h

set_option maxRecDepth 100000 in
set_option maxHeartbeats 400000 in
theorem law_far (w : World) (mo : Option Addr) (n mc : Nat) (h : 1048576 < n) :
    Calls Try.prog 3 #[.slice mo n mc] w fun e w' => e = .returned (.bool true) ∧ Below w.heap.size w w' := by
  go_enter Try.func3, Try.ntmps3
  go_wp2_with fail
  refine (zz_no _ _ _ _ h).mono ?_
  rintro e w' ⟨rfl, rfl⟩
  go_wp2_with fail
  go_ret
  exact ⟨rfl, Below.refl _ _⟩

set_option maxRecDepth 100000 in
set_option maxHeartbeats 400000 in
theorem law_long (w : World) (mo : Option Addr) (n mc : Nat) (h : n ≤ 1048576) (h2 : 65536 < n) :
    Calls Try.prog 3 #[.slice mo n mc] w fun e w' => e = .returned (.bool true) ∧ Below w.heap.size w w' := by
  go_enter Try.func3, Try.ntmps3
  go_wp2_with fail
  refine (zz_yes _ _ _ _ h).mono ?_
  rintro e w' ⟨rfl, rfl⟩
  go_wp2_with fail
  go_ret
  exact ⟨rfl, Below.refl _ _⟩

set_option maxRecDepth 100000 in
set_option maxHeartbeats 2000000 in
theorem law_main (w : World) (mo : Option Addr) (mc : Nat) (ml : List Bool) (hM : Marks w mo ml) (hl : ml.length ≤ 65536) :
    Calls Try.prog 3 #[.slice mo ml.length mc] w fun e w' => e = .returned (.bool true) ∧ Below w.heap.size w w' := by
  have HM : Hid (Marks w mo ml) := hM
  clear hM
  go_enter Try.func3, Try.ntmps3
  go_wp2_with fail
  refine (zz_yes _ _ _ _ (by omega)).mono ?_
  rintro e w' ⟨rfl, rfl⟩
  go_wp2_with fail
  refine (build_any _ mo mc ml HM.out hl).mono ?_
  rintro e w1 ⟨fb, sv, ms, rfl, hF1, hb1⟩
  have HF1 : Hid (Fac w1 w'.heap.size fb sv ms ml) := hF1
  have HB1 : Hid (Below w'.heap.size w' w1) := hb1
  have hml : ms.length = ml.length := hF1.len
  have HL : Hid (ms.length = ml.length) := hml
  clear hF1 hb1 hml
  unfold ptrTo
  go_wp2_with fail
  -- the first answer
  refine (zstarted_any w1 w'.heap.size fb sv ms ml HF1.out (by have := HL.out; omega)).mono ?_
  rintro e w2 ⟨v1, rfl, ho1, hb2⟩
  obtain ⟨ao1, cap1, rfl⟩ := owns_slice ho1
  have HO1 := hid (ho1)
  have HB2 : Hid (Below w1.heap.size w1 w2) := hb2
  have HB2' : Hid (Below w'.heap.size w' w2) := HB1.out.trans (hb2.mono HB1.out.size)
  have HF2 : Hid (Fac w2 w'.heap.size fb sv ms ml) := HF1.out.below hb2
  clear ho1 hb2
  go_wp2_with fail
  refine (are_any w2 w'.heap.size fb sv ms ml HF2.out (by have := HL.out; omega) w1.heap.size _ mo mc ml (HM.out.below HB2'.out) (by have := HL.out; omega) (by rw [← HL.out, List.take_length]; exact HO1.out)).mono ?_
  rintro e w3 ⟨rfl, hb3⟩
  have HB3 : Hid (Below w1.heap.size w1 w3) := HB2.out.trans (hb3.mono HB2.out.size)
  have HO3 : Hid (w3.ownsRow w1.heap.size 29 1 (Value.slice ao1 (runs ms ml).length cap1) (runs ms ml).length ((runs ms ml).map ptrTo)) := owns_below HO1.out hb3
  clear hb3 HF2 HO1 HB2 HB2'
  have hrl : (runs ms ml).length ≤ 65536 := by have := runs_le ms ml; have := HL.out; omega
  go_wp2_with fail
  go_loopw [5] (fun kv wr => ∃ (k : Nat) (xs : List Value), k ≤ (runs ms ml).length ∧ kv = .int .i64 k ∧ Hid (wr.ownsRow w1.heap.size 29 1 (Value.slice ao1 (runs ms ml).length cap1) (runs ms ml).length xs) ∧ Hid (Below w1.heap.size w1 wr)) (fun k _ => (runs ms ml).length - (intOf k).toNat)
  case atStart => exact ⟨0, _, Nat.zero_le _, rfl, HO3, HB3⟩
  case round =>
    obtain ⟨k, xs, hk, rfl, HO, HB⟩ := hrel
    by_cases hlt : k < (runs ms ml).length
    · obtain ⟨g, cap', hg⟩ := owns_shape HO.out (by omega)
      obtain ⟨rfl, rfl⟩ : ao1 = some ⟨g, 0, Option.none⟩ ∧ cap1 = cap' := by simpa using hg
      have hxl : xs.length = (runs ms ml).length := by have := HO.out.1; omega
      obtain ⟨u, c1⟩ : ∃ u, wr.cell? ⟨g, k, Option.none⟩ = some u := ⟨_, by rw [HO.out.cellAt k (by omega)]; exact List.getElem?_eq_getElem (by omega)⟩
      have c2 : wr.frozen? ⟨g, k, Option.none⟩ = false := HO.out.frozenAt k
      have HO' := HO.out.stored k (.pointer Option.none)
      have R1 : Hid ((wr.setCell ⟨g, k, Option.none⟩ (.pointer Option.none)).ownsRow w1.heap.size 29 1 (Value.slice (some ⟨g, 0, Option.none⟩) (runs ms ml).length cap1) (runs ms ml).length (xs.set k (.pointer Option.none))) := HO'.1
      have R2 : Hid (Below w1.heap.size w1 (wr.setCell ⟨g, k, Option.none⟩ (.pointer Option.none))) := HB.out.setCell (by exact (HO.out.lt g rfl).1) _
      clear HO' hg hxl
      go_wp2
      go_roundw
      case rel => exact ⟨k + 1, _, by omega, by go_num, R1, R2⟩
      case measure => simp [intOf]; omega
    · clear HO HO3 HB3
      have HF4 : Hid (Fac wr w'.heap.size fb sv ms ml) := HF1.out.below HB.out
      have HB4 : Hid (Below w'.heap.size w' wr) := HB1.out.trans (HB.out.mono HB1.out.size)
      have HZ : Hid (w1.heap.size ≤ wr.heap.size) := HB.out.size
      have HS1 := hid (HF1.out.sep)
      clear HB
      -- the second answer
      go_wp2_with fail
      refine (zstarted_any wr w'.heap.size fb sv ms ml HF4.out (by have := HL.out; omega)).mono ?_
      rintro e w5 ⟨v2, rfl, ho2, hb5⟩
      obtain ⟨ao2, cap2, rfl⟩ := owns_slice ho2
      have HO2 := hid (ho2)
      have HB5 : Hid (Below w'.heap.size w' w5) := HB4.out.trans (hb5.mono HB4.out.size)
      have HF5 : Hid (Fac w5 w'.heap.size fb sv ms ml) := HF4.out.below hb5
      clear ho2 hb5
      go_wp2_with fail
      refine (are_any w5 w'.heap.size fb sv ms ml HF5.out (by have := HL.out; omega) wr.heap.size _ mo mc ml (HM.out.below HB5.out) (by have := HL.out; omega) (by rw [← HL.out, List.take_length]; exact HO2.out)).mono ?_
      rintro e w6 ⟨rfl, hb6⟩
      have HB6 : Hid (Below w'.heap.size w' w6) := HB5.out.trans (hb6.mono HB5.out.size)
      have HF6 : Hid (Fac w6 w'.heap.size fb sv ms ml) := HF5.out.below hb6
      have HO6 : Hid (w6.ownsRow wr.heap.size 29 1 (Value.slice ao2 (runs ms ml).length cap2) (runs ms ml).length ((runs ms ml).map ptrTo)) := owns_below HO2.out hb6
      have HQ : Hid (∀ k, (Value.slice ao2 (runs ms ml).length cap2).ownBlock = some k → w1.heap.size ≤ k ∧ k < w6.heap.size) := fun k hk => ⟨Nat.le_trans HZ.out (HO2.out.lt k hk).1, Nat.lt_of_lt_of_le (HO2.out.lt k hk).2 hb6.size⟩
      clear hb6 HO2 HF5 HF4 HB4 HB5
      -- a member added and not run
      go_wp2_with fail
      refine (add_any w6 w'.heap.size fb sv ms ml HF6.out (by have := HL.out; omega)).mono ?_
      rintro e w7 ⟨rfl, sv7, m1, hF7, hf7, hsep7⟩
      have HF7 := hid (hF7)
      have HP7 := hid (hsep7)
      have HO7 : Hid (w7.ownsRow wr.heap.size 29 1 (Value.slice ao2 (runs ms ml).length cap2) (runs ms ml).length ((runs ms ml).map ptrTo)) := owns_fr hf7 HO6.out (fun k hk h => by
        have q1 := HQ.out k hk
        have q2 := HS1.out.2.2.2.2
        rcases h with h | h
        · omega
        · have := HS1.out.2.2.1 k h; omega)
      have HB7 : Hid (Below w'.heap.size w' w7) := HB6.out.trans (hf7.below HB6.out.size (fun k hk h => by
        rcases h with h | h
        · have := HF6.out.fbase; omega
        · have := HF6.out.sep.2.2.1 k h; omega))
      have HZ7 : Hid (w6.heap.size ≤ w7.heap.size) := hf7.size
      clear hF7 hf7 hsep7 HF6 HO6 HB6
      go_wp2_with fail
      refine (zstarted_any w7 w'.heap.size fb sv7 (ms ++ [m1]) (ml ++ [false]) HF7.out (by have := HL.out; simp; omega)).mono ?_
      rintro e w8 ⟨v3, rfl, ho3, hb8⟩
      rw [runs_third ms ml m1 HL.out] at ho3
      obtain ⟨ao3, cap3, rfl⟩ := owns_slice ho3
      have HO3 := hid (ho3)
      have HB8 : Hid (Below w'.heap.size w' w8) := HB7.out.trans (hb8.mono HB7.out.size)
      have HF8 : Hid (Fac w8 w'.heap.size fb sv7 (ms ++ [m1]) (ml ++ [false])) := HF7.out.below hb8
      have HO8 : Hid (w8.ownsRow wr.heap.size 29 1 (Value.slice ao2 (runs ms ml).length cap2) (runs ms ml).length ((runs ms ml).map ptrTo)) := owns_below HO7.out hb8
      clear ho3 hb8 HB7 HF7 HO7
      go_wp2_with fail
      refine (are_any w8 w'.heap.size fb sv7 (ms ++ [m1]) (ml ++ [false]) HF8.out (by have := HL.out; simp; omega) w7.heap.size _ mo mc ml (HM.out.below HB8.out) (by have := HL.out; simp; omega) (by rw [← HL.out, List.take_left]; exact HO3.out)).mono ?_
      rintro e w9 ⟨rfl, hb9⟩
      have HB9 : Hid (Below w'.heap.size w' w9) := HB8.out.trans (hb9.mono HB8.out.size)
      have HF9 : Hid (Fac w9 w'.heap.size fb sv7 (ms ++ [m1]) (ml ++ [false])) := HF8.out.below hb9
      have HO9 : Hid (w9.ownsRow wr.heap.size 29 1 (Value.slice ao2 (runs ms ml).length cap2) (runs ms ml).length ((runs ms ml).map ptrTo)) := owns_below HO8.out hb9
      clear hb9 HB8 HF8 HO8 HO3
      -- a member added and run
      go_wp2_with fail
      refine (add_any w9 w'.heap.size fb sv7 (ms ++ [m1]) (ml ++ [false]) HF9.out (by have := HL.out; simp; omega)).mono ?_
      rintro e w10 ⟨rfl, sv10, m2, hF10, hf10, _⟩
      have HF10 := hid (hF10)
      have HO10 : Hid (w10.ownsRow wr.heap.size 29 1 (Value.slice ao2 (runs ms ml).length cap2) (runs ms ml).length ((runs ms ml).map ptrTo)) := owns_fr hf10 HO9.out (fun k hk h => by
        have q1 := HQ.out k hk
        have q2 := HS1.out.2.2.2.2
        rcases h with h | h
        · omega
        · rcases HP7.out with p | p
          · rw [p] at h; have := HS1.out.2.2.1 k h; omega
          · have := p k h; omega)
      have HB10 : Hid (Below w'.heap.size w' w10) := HB9.out.trans (hf10.below HB9.out.size (fun k hk h => by
        rcases h with h | h
        · have := HF9.out.fbase; omega
        · have := HF9.out.sep.2.2.1 k h; omega))
      clear hF10 hf10 HF9 HO9 HB9 HP7 HQ HS1 HZ7
      go_wp2_with fail
      have hst := start_any w10 w'.heap.size fb sv10 (ms ++ [m1] ++ [m2]) (ml ++ [false] ++ [false]) HF10.out (ml.length + 1) (by have := HL.out; simp; omega)
      rw [Int.natCast_add, Int.natCast_one] at hst
      refine hst.mono ?_
      clear hst
      rintro e w11 ⟨rfl, hF11, hf11⟩
      rw [set_last] at hF11
      have HF11 := hid hF11
      have HO11 : Hid (w11.ownsRow wr.heap.size 29 1 (Value.slice ao2 (runs ms ml).length cap2) (runs ms ml).length ((runs ms ml).map ptrTo)) := owns_fr hf11 HO10.out (fun k hk h => own_not_mem HO10.out hk (HF10.out.mem _ _ h).2)
      have HB11 : Hid (Below w'.heap.size w' w11) := HB10.out.trans (hf11.below HB10.out.size (fun k hk h => by have := (HF10.out.mem _ _ h).1; omega))
      clear hF11 hf11 HF10 HO10 HB10
      go_wp2_with fail
      refine (zstarted_any w11 w'.heap.size fb sv10 (ms ++ [m1] ++ [m2]) (ml ++ [false] ++ [true]) HF11.out (by have := HL.out; simp; omega)).mono ?_
      rintro e w12 ⟨v4, rfl, ho4, hb12⟩
      rw [runs_fourth ms ml m1 m2 HL.out] at ho4
      obtain ⟨g4, cap4, rfl⟩ := owns_shape ho4 (by simp)
      have HO4 := hid ho4
      have HB12 : Hid (Below w'.heap.size w' w12) := HB11.out.trans (hb12.mono HB11.out.size)
      have HF12 : Hid (Fac w12 w'.heap.size fb sv10 (ms ++ [m1] ++ [m2]) (ml ++ [false] ++ [true])) := HF11.out.below hb12
      have HO12 : Hid (w12.ownsRow wr.heap.size 29 1 (Value.slice ao2 (runs ms ml).length cap2) (runs ms ml).length ((runs ms ml).map ptrTo)) := owns_below HO11.out hb12
      clear ho4 hb12 HB11 HF11 HO11
      have hn4 : (runs ms ml ++ [m2]).length = (runs ms ml).length + 1 := by simp
      rw [hn4] at HO4 ⊢
      clear hn4
      have c4 : w12.cell? ⟨g4, (runs ms ml).length, Option.none⟩ = some (.pointer (some ⟨m2, 0, Option.none⟩)) := by
        rw [HO4.out.cellAt _ (by omega)]
        simp [ptrTo]
      obtain ⟨g5, cap5, mm, c, hsv, him, c5, c6, _, _, _, _, _, _⟩ := HF12.out.at (i := ml.length + 1) (by have := HL.out; simp; omega)
      have hmm : mm = m2 := by
        rw [List.getElem?_append_right (by have := HL.out; simp; omega)] at him
        have e0 : ml.length + 1 - (ms ++ [m1]).length = 0 := by have := HL.out; simp; omega
        rw [e0] at him
        simpa using him.symm
      subst hmm
      rw [hsv] at c5
      have hlen : ml.length + 1 < (ms ++ [m1] ++ [mm]).length := by have := HL.out; simp; omega
      have hnq := neq_ptr
      unfold ptrTo at c6
      clear him hsv
      go_wp2_with fail
      go_quiet ((go_at_call 10; exact Calls.quiet_of_same (mat_z fb g5 (ms ++ [m1] ++ [mm]).length cap5 (ml.length + 1) _ _ _ (by omega) c5 hlen c6)))
      all_goals go_wp2_with fail
      go_loopw [10] (fun qv wz => ∃ q : Nat, q ≤ (runs ms ml).length ∧ qv = .int .i64 q ∧ Hid (Below w12.heap.size w12 wz)) (fun q _ => (runs ms ml).length - (intOf q).toNat)
      case atStart => exact ⟨0, Nat.zero_le _, rfl, below_drewN (Below.refl _ _) _⟩
      case round =>
        obtain ⟨q, hq, rfl, HZ⟩ := hrel
        by_cases hlq : q < (runs ms ml).length
        · obtain ⟨g2, cap', hg⟩ := owns_shape HO12.out (by omega)
          obtain ⟨rfl, rfl⟩ : ao2 = some ⟨g2, 0, Option.none⟩ ∧ cap2 = cap' := by simpa using hg
          have e1 : wr.cell? ⟨g4, q, Option.none⟩ = some (.pointer (some ⟨(runs ms ml)[q], 0, Option.none⟩)) := by
            rw [HZ.out.cell (by exact (HO4.out.lt g4 rfl).2), HO4.out.cellAt _ (by omega)]
            simp [ptrTo, hlq, List.getElem?_append_left]
          have e2 : wr.cell? ⟨g2, q, Option.none⟩ = some (.pointer (some ⟨(runs ms ml)[q], 0, Option.none⟩)) := by
            rw [HZ.out.cell (by exact (HO12.out.lt g2 rfl).2), HO12.out.cellAt _ (by omega)]
            simp [ptrTo, hlq]
          clear hg c4 c5 c6 hlen
          generalize (runs ms ml)[q] = mq at e1 e2
          go_wp2_with fail
          go_quiet (fail)
          all_goals go_wp2_with fail
          go_roundw
          case rel => exact ⟨q + 1, by omega, by go_num, below_drewN HZ.out _⟩
          case measure => simp [intOf]; omega
        · have c7 : wr.cell? ⟨fb, 16, Option.none⟩ = some (.slice (some ⟨g5, 0, Option.none⟩) (ms ++ [m1] ++ [mm]).length cap5) := by
            rw [HZ.out.cell (by exact HF12.out.sep.2.2.2.2)]; exact c5
          have HE : Hid ((ms ++ [m1] ++ [mm]).length = ml.length + 2) := by have := HL.out; unfold Hid; simp; omega
          have HB13 : Hid (Below w'.heap.size w' wr) := HB12.out.trans (HZ.out.mono HB12.out.size)
          generalize (ms ++ [m1] ++ [mm]).length = n5 at *
          go_wp2_with fail
          refine (mlen_any fb _ n5 cap5 wr c7).mono ?_
          rintro e w13 ⟨rfl, rfl⟩
          have hfin : ((n5 : Int) == (ml.length : Int) + 2) = true := by have := HE.out; rw [beq_iff_eq]; omega
          go_wp2_with fail
          go_ret
          exact ⟨rfl, HB13.out⟩
end Go.Proofs.Qxb6616784a
