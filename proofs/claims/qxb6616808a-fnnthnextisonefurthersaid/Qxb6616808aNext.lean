import Derived.Test.Qxb6616808aSplit
namespace Go.Proofs.Qxb6616808a
open Go.RowKit

set_option maxRecDepth 100000 in
set_option maxHeartbeats 1000000 in
/-- the ways out ahead of the law proper -/
theorem next_out (ta ka : Option Addr) (tn kn tc kc : Nat) (f e n kind : Int) (w : World) (h1 : tn ≤ maxLen) (h2 : kn ≤ maxLen)
    (h : 65536 < tn ∨ 65536 < kn ∨ tn ≠ kn ∨ (f < e ∧ (f < 0 ∨ (tn : Int) < e)) ∨ n < 1 ∨ n = 9223372036854775807) :
    Calls Try.prog 4 #[.slice ta tn tc, .slice ka kn kc, .int .i64 f, .int .i64 e, .int .i64 n, .int .i64 kind] w fun e w' => e = .returned (.bool true) ∧ Below w.heap.size w w' := by
  have H := hid h
  clear h
  go_enter Try.func4, Try.ntmps4
  go_wp2_with fail
  refine (zz10_any _ _ _ _ _ _ _ _ _ _ _ h1 h2).mono ?_
  rintro e0 w' ⟨b, rfl, rfl⟩
  unfold maxLen at h1 h2
  cases b with
  | false =>
    go_wp2_with fail
    go_ret
    exact ⟨rfl, Below.refl _ _⟩
  | true =>
    by_cases q1 : 65536 < tn
    · go_wp2_with fail
      go_ret
      exact ⟨rfl, Below.refl _ _⟩
    by_cases q2 : 65536 < kn
    · go_wp2_with fail
      go_ret
      exact ⟨rfl, Below.refl _ _⟩
    by_cases q3 : tn = kn
    · subst q3
      by_cases q4 : f < e
      · by_cases q5 : f < 0
        · go_wp2_with fail
          go_ret
          exact ⟨rfl, Below.refl _ _⟩
        by_cases q6 : (tn : Int) < e
        · go_wp2_with fail
          go_ret
          exact ⟨rfl, Below.refl _ _⟩
        by_cases q7 : n < 1
        · go_wp2_with fail
          go_ret
          exact ⟨rfl, Below.refl _ _⟩
        · have q8 : n = 9223372036854775807 := by have := H.out; omega
          subst q8
          go_wp2_with fail
          go_ret
          exact ⟨rfl, Below.refl _ _⟩
      · by_cases q7 : n < 1
        · go_wp2_with fail
          go_ret
          exact ⟨rfl, Below.refl _ _⟩
        · have q8 : n = 9223372036854775807 := by have := H.out; omega
          subst q8
          go_wp2_with fail
          go_ret
          exact ⟨rfl, Below.refl _ _⟩
    · have q3' : ((tn : Int) != (kn : Int)) = true := by rw [bne_iff_ne]; omega
      go_wp2_with fail
      go_ret
      exact ⟨rfl, Below.refl _ _⟩

set_option maxRecDepth 100000 in
set_option maxHeartbeats 2000000 in
/-- no days at all -/
theorem next_none (T K : List Bool) (ta ka : Option Addr) (tc kc : Nat) (f e n kind : Int) (w : World) (hT : Marks w ta T) (hK : Marks w ka K) (hTK : T.length = K.length) (hl : T.length ≤ 65536)
    (hfe : e ≤ f) (hn1 : 1 ≤ n) (hn2 : n < 9223372036854775807) :
    Calls Try.prog 4 #[.slice ta T.length tc, .slice ka K.length kc, .int .i64 f, .int .i64 e, .int .i64 n, .int .i64 kind] w fun e w' => e = .returned (.bool true) ∧ Below w.heap.size w w' := by
  have HT := hid hT
  have HK := hid hK
  have HL := hid hTK
  have hkl : K.length ≤ 65536 := by omega
  have hkl2 : ((T.length : Int) != (K.length : Int)) = false := by rw [hTK]; simp
  have hn9 : (n == 9223372036854775807) = false := by rw [beq_eq_false_iff_ne]; omega
  clear hT hK hTK
  go_enter Try.func4, Try.ntmps4
  go_wp2_with fail
  refine (zz10_any _ _ _ _ _ _ _ _ _ _ _ (by unfold maxLen; omega) (by unfold maxLen; omega)).mono ?_
  rintro e0 w' ⟨b, rfl, rfl⟩
  cases b with
  | false =>
    go_wp2_with fail
    go_ret
    exact ⟨rfl, Below.refl _ _⟩
  | true =>
    go_wp2_with fail
    refine (cal_any T K ta ka tc kc _ HT.out HK.out HL.out hl).mono ?_
    rintro e0 w1 ⟨g, rfl, hD1, hb1⟩
    have HB1 := hid hb1
    clear hD1 hb1
    unfold cal
    go_wp2_with fail
    have hA := calAt_new w1 g T.length
    have hBn : Below w1.heap.size w1 (w1.alloc (.cells #[.int .u64 0, .int .i64 0, .pointer Option.none, .slice (some ⟨g, 0, Option.none⟩) T.length T.length] 30)) := (Below.refl _ _).alloc (Nat.le_refl _) _
    generalize w1.alloc (.cells #[.int .u64 0, .int .i64 0, .pointer Option.none, .slice (some ⟨g, 0, Option.none⟩) T.length T.length] 30) = w2 at *
    have HA2 := hid hA
    have HB2 := hid (HB1.out.trans (hBn.mono HB1.out.size))
    clear hA hBn HB1
    refine (znth_none g T.length T.length f e n kind w2 (by omega)).mono ?_
    rintro e0 w3 ⟨rfl, hb3⟩
    have HA3 := hid (HA2.out.below hb3)
    have HB3 := hid (HB2.out.trans (hb3.mono HB2.out.size))
    obtain ⟨_, c0, c1, c2, c3⟩ := HA3.out
    clear hb3 HA2 HB2
    go_wp2_with fail
    clear c0 c1 c2 c3
    refine (znth_none g T.length T.length f e (n + 1) kind w3 (by omega)).mono ?_
    rintro e0 w4 ⟨rfl, hb4⟩
    have HB4 := hid (HB3.out.trans (hb4.mono HB3.out.size))
    clear hb4 HA3 HB3
    go_wp2_with fail
    go_ret
    exact ⟨by simp, HB4.out⟩

set_option maxRecDepth 100000 in
set_option maxHeartbeats 2000000 in
/-- fewer than n -/
theorem next_miss (T K : List Bool) (ta ka : Option Addr) (tc kc a e c : Nat) (n kind : Int) (w : World) (hT : Marks w ta T) (hK : Marks w ka K) (hTK : T.length = K.length) (hl : T.length ≤ 65536)
    (hae : a < e) (heL : e ≤ T.length) (hn1 : 1 ≤ n) (hn2 : n < 9223372036854775807) (hc : (c : Int) < n) (hct : cnt (dayF kind T K) (e - a) a = c)
    (hq : nthF (dayF kind T K) n (e - a) a 0 = (-1, (c : Int))) (hq1 : nthF (dayF kind T K) (n + 1) (e - a) a 0 = (-1, (c : Int))) :
    Calls Try.prog 4 #[.slice ta T.length tc, .slice ka K.length kc, .int .i64 a, .int .i64 e, .int .i64 n, .int .i64 kind] w fun e w' => e = .returned (.bool true) ∧ Below w.heap.size w w' := by
  have HT := hid hT
  have HK := hid hK
  have HL := hid hTK
  have HQ := hid hq
  have HQ1 := hid hq1
  have HC := hid hct
  have hkl : K.length ≤ 65536 := by omega
  have hkl2 : ((T.length : Int) != (K.length : Int)) = false := by rw [hTK]; simp
  have hn9 : (n == 9223372036854775807) = false := by rw [beq_eq_false_iff_ne]; omega
  clear hT hK hTK hq hq1 hct
  go_enter Try.func4, Try.ntmps4
  go_wp2_with fail
  refine (zz10_any _ _ _ _ _ _ _ _ _ _ _ (by unfold maxLen; omega) (by unfold maxLen; omega)).mono ?_
  rintro e0 w' ⟨b, rfl, rfl⟩
  cases b with
  | false =>
    go_wp2_with fail
    go_ret
    exact ⟨rfl, Below.refl _ _⟩
  | true =>
    go_wp2_with fail
    refine (cal_any T K ta ka tc kc _ HT.out HK.out HL.out hl).mono ?_
    rintro e0 w1 ⟨g, rfl, hD1, hb1⟩
    have HD1 := hid hD1
    have HB1 := hid hb1
    clear hD1 hb1
    unfold cal
    go_wp2_with fail
    have hA := calAt_new w1 g T.length
    have hBn : Below w1.heap.size w1 (w1.alloc (.cells #[.int .u64 0, .int .i64 0, .pointer Option.none, .slice (some ⟨g, 0, Option.none⟩) T.length T.length] 30)) := (Below.refl _ _).alloc (Nat.le_refl _) _
    generalize w1.alloc (.cells #[.int .u64 0, .int .i64 0, .pointer Option.none, .slice (some ⟨g, 0, Option.none⟩) T.length T.length] 30) = w2 at *
    have HA2 := hid hA
    have HD2 := hid (HD1.out.below hBn)
    have HB2 := hid (HB1.out.trans (hBn.mono HB1.out.size))
    clear hA hBn HD1 HB1
    refine (znth_some kind T K g T.length a e _ _ n w2 rfl rfl HD2.out (by omega) heL hl _ _ HQ.out).mono ?_
    rintro e0 w3 ⟨rfl, hb3⟩
    have HA3 := hid (HA2.out.below hb3)
    have HD3 := hid (HD2.out.below hb3)
    have HB3 := hid (HB2.out.trans (hb3.mono HB2.out.size))
    obtain ⟨_, c0, c1, c2, c3⟩ := HA3.out
    clear hb3 HA2 HD2 HB2
    go_wp2_with fail
    clear c0 c1 c2 c3
    refine (znth_some kind T K g T.length a e _ _ (n + 1) w3 rfl rfl HD3.out (by omega) heL hl _ _ HQ1.out).mono ?_
    rintro e0 w4 ⟨rfl, hb4⟩
    have HB4 := hid (HB3.out.trans (hb4.mono HB3.out.size))
    clear hb4 HA3 HD3 HB3
    go_wp2_with fail
    refine (count_any kind T K ta ka tc kc a e _ _ w4 rfl rfl (HT.out.below HB4.out) (HK.out.below HB4.out) (by omega) heL (by have := HL.out; omega) hl).mono ?_
    rintro e0 w5 ⟨rfl, rfl⟩
    rw [HC.out]
    go_wp2_with fail
    go_ret
    exact ⟨by simp, HB4.out⟩

set_option maxRecDepth 100000 in
set_option maxHeartbeats 2000000 in
/-- the n-th is there -/
theorem next_hit (T K : List Bool) (ta ka : Option Addr) (tc kc a e j : Nat) (n kind h ee : Int) (w : World) (hT : Marks w ta T) (hK : Marks w ka K) (hTK : T.length = K.length) (hl : T.length ≤ 65536)
    (hae : a < e) (heL : e ≤ T.length) (hn1 : 1 ≤ n) (hn2 : n < 9223372036854775807) (haj : a ≤ j) (hje : j < e) (hj : dayF kind T K j = true) (hn : (cnt (dayF kind T K) (j + 1 - a) a : Int) = n) (hee : 0 ≤ ee ∧ ee ≤ 1)
    (hq : nthF (dayF kind T K) n (e - a) a 0 = ((j : Int), n)) (hq1 : nthF (dayF kind T K) (n + 1) (e - a) a 0 = (h, n + ee)) (hq2 : nthF (dayF kind T K) 1 (e - (j + 1)) (j + 1) 0 = (h, ee)) :
    Calls Try.prog 4 #[.slice ta T.length tc, .slice ka K.length kc, .int .i64 a, .int .i64 e, .int .i64 n, .int .i64 kind] w fun e w' => e = .returned (.bool true) ∧ Below w.heap.size w w' := by
  have HT := hid hT
  have HK := hid hK
  have HL := hid hTK
  have HQ := hid hq
  have HQ1 := hid hq1
  have HQ2 := hid hq2
  have HJ := hid hj
  have HN := hid hn
  obtain ⟨he0, he1⟩ := hee
  have hkl : K.length ≤ 65536 := by omega
  have hkl2 : ((T.length : Int) != (K.length : Int)) = false := by rw [hTK]; simp
  have hn9 : (n == 9223372036854775807) = false := by rw [beq_eq_false_iff_ne]; omega
  have hnb : n ≤ 65537 := by have := cnt_le (dayF kind T K) (j + 1 - a) a; omega
  clear hT hK hTK hq hq1 hq2 hj hn
  go_enter Try.func4, Try.ntmps4
  go_wp2_with fail
  refine (zz10_any _ _ _ _ _ _ _ _ _ _ _ (by unfold maxLen; omega) (by unfold maxLen; omega)).mono ?_
  rintro e0 w' ⟨b, rfl, rfl⟩
  cases b with
  | false =>
    go_wp2_with fail
    go_ret
    exact ⟨rfl, Below.refl _ _⟩
  | true =>
    go_wp2_with fail
    refine (cal_any T K ta ka tc kc _ HT.out HK.out HL.out hl).mono ?_
    rintro e0 w1 ⟨g, rfl, hD1, hb1⟩
    have HD1 := hid hD1
    have HB1 := hid hb1
    clear hD1 hb1
    unfold cal
    go_wp2_with fail
    have hA := calAt_new w1 g T.length
    have hBn : Below w1.heap.size w1 (w1.alloc (.cells #[.int .u64 0, .int .i64 0, .pointer Option.none, .slice (some ⟨g, 0, Option.none⟩) T.length T.length] 30)) := (Below.refl _ _).alloc (Nat.le_refl _) _
    generalize w1.alloc (.cells #[.int .u64 0, .int .i64 0, .pointer Option.none, .slice (some ⟨g, 0, Option.none⟩) T.length T.length] 30) = w2 at *
    have HA2 := hid hA
    have HD2 := hid (HD1.out.below hBn)
    have HB2 := hid (HB1.out.trans (hBn.mono HB1.out.size))
    clear hA hBn HD1 HB1
    refine (znth_some kind T K g T.length a e _ _ n w2 rfl rfl HD2.out (by omega) heL hl _ _ HQ.out).mono ?_
    rintro e0 w3 ⟨rfl, hb3⟩
    have HA3 := hid (HA2.out.below hb3)
    have HD3 := hid (HD2.out.below hb3)
    have HB3 := hid (HB2.out.trans (hb3.mono HB2.out.size))
    obtain ⟨_, c0, c1, c2, c3⟩ := HA3.out
    clear hb3 HA2 HD2 HB2
    go_wp2_with fail
    clear c0 c1 c2 c3
    refine (znth_some kind T K g T.length a e _ _ (n + 1) w3 rfl rfl HD3.out (by omega) heL hl _ _ HQ1.out).mono ?_
    rintro e0 w4 ⟨rfl, hb4⟩
    have HA4 := hid (HA3.out.below hb4)
    have HD4 := hid (HD3.out.below hb4)
    have HB4 := hid (HB3.out.trans (hb4.mono HB3.out.size))
    clear hb4 HA3 HD3 HB3
    go_wp2_with fail
    refine (count_any kind T K ta ka tc kc a e _ _ w4 rfl rfl (HT.out.below HB4.out) (HK.out.below HB4.out) (by omega) heL (by have := HL.out; omega) hl).mono ?_
    rintro e0 w5 ⟨rfl, rfl⟩
    generalize hct : cnt (dayF kind T K) (e - a) a = tot at *
    clear hct
    obtain ⟨_, c0, c1, c2, c3⟩ := HA4.out
    go_wp2_with fail
    clear c0 c1 c2 c3
    refine (znth_some kind T K g T.length (j + 1) e _ _ 1 _ (by omega) rfl HD4.out (by omega) heL hl _ _ HQ2.out).mono ?_
    rintro e0 w6 ⟨rfl, hb6⟩
    have HB6 := hid (HB4.out.trans (hb6.mono HB4.out.size))
    clear hb6 HA4 HD4 HB4
    go_wp2_with fail
    refine (isKind_any kind T K ta ka tc kc j _ _ rfl (HT.out.below HB6.out) (HK.out.below HB6.out) (by omega) (by have := HL.out; omega)).mono ?_
    rintro e0 w7 ⟨rfl, rfl⟩
    rw [HJ.out]
    go_wp2_with fail
    refine (count_any kind T K ta ka tc kc a (j + 1) _ _ _ rfl (by omega) (HT.out.below HB6.out) (HK.out.below HB6.out) (by omega) (by omega) (by have := HL.out; omega) hl).mono ?_
    rintro e0 w8 ⟨rfl, rfl⟩
    rw [HN.out]
    go_wp2_with fail
    go_ret
    exact ⟨by simp, HB6.out⟩
end Go.Proofs.Qxb6616808a
