import Derived.Test.Qxb6616808aSplit
namespace Go.Proofs.Qxb6616808a
open Go.RowKit

set_option maxRecDepth 100000 in
set_option maxHeartbeats 2000000 in
/-- the n-th lies before the cut -/
theorem split_A (T K : List Bool) (ta ka : Option Addr) (tc kc a m e j : Nat) (n kind : Int) (w : World) (hT : Marks w ta T) (hK : Marks w ka K) (hTK : T.length = K.length) (hl : T.length ≤ 65536)
    (ham : a ≤ m) (hme : m ≤ e) (heL : e ≤ T.length) (haj : a ≤ j) (hjm : j < m) (hj : dayF kind T K j = true) (hn : (cnt (dayF kind T K) (j - a) a : Int) + 1 = n)
    (hq1 : nthF (dayF kind T K) n (m - a) a 0 = ((j : Int), n)) (hq : nthF (dayF kind T K) n (e - a) a 0 = ((j : Int), n)) (htot : n ≤ (cnt (dayF kind T K) (e - a) a : Int)) :
    Calls Try.prog 3 #[.slice ta T.length tc, .slice ka K.length kc, .int .i64 a, .int .i64 m, .int .i64 e, .int .i64 n, .int .i64 kind] w fun e w' => e = .returned (.bool true) ∧ Below w.heap.size w w' := by
  have HT := hid hT
  have HK := hid hK
  have HL := hid hTK
  have HJ := hid hj
  have HN := hid hn
  have HQ := hid hq
  have HQ1 := hid hq1
  have hkl : K.length ≤ 65536 := by omega
  have hkl2 : ((T.length : Int) != (K.length : Int)) = false := by rw [hTK]; simp
  have hn1 : 1 ≤ n := by omega
  have hnb : n ≤ 65537 := by have := cnt_le (dayF kind T K) (j - a) a; omega
  clear hT hK hj hn hq hq1 hTK
  go_enter Try.func3, Try.ntmps3
  go_wp2_with fail
  refine (zz5_any _ _ _ _ _ _ _ _ _ _ _ _ (by unfold maxLen; omega) (by unfold maxLen; omega)).mono ?_
  rintro e0 w' ⟨b, rfl, rfl⟩
  cases b with
  | false =>
    go_wp2_with fail
    go_ret
    exact ⟨rfl, Below.refl _ _⟩
  | true =>
    go_wp2_with fail
    refine (cal_any T K ta ka tc kc _ HT.out HK.out HL.out hl).mono ?_
    rintro e0 w1 ⟨g, rfl, hD1, hb1⟩
    have HD1 := hid hD1
    have HB1 := hid hb1
    clear hD1 hb1
    unfold cal
    go_wp2_with fail
    have hA := calAt_new w1 g T.length
    have hBn : Below w1.heap.size w1 (w1.alloc (.cells #[.int .u64 0, .int .i64 0, .pointer Option.none, .slice (some ⟨g, 0, Option.none⟩) T.length T.length] 30)) := (Below.refl _ _).alloc (Nat.le_refl _) _
    generalize w1.alloc (.cells #[.int .u64 0, .int .i64 0, .pointer Option.none, .slice (some ⟨g, 0, Option.none⟩) T.length T.length] 30) = w2 at *
    have HA2 := hid hA
    have HD2 := hid (HD1.out.below hBn)
    have HB2 := hid (HB1.out.trans (hBn.mono HB1.out.size))
    clear hA hBn HD1 HB1
    refine (znth_some kind T K g T.length a e _ _ n w2 rfl rfl HD2.out (by omega) heL hl _ _ HQ.out).mono ?_
    rintro e0 w3 ⟨rfl, hb3⟩
    have HA3 := hid (HA2.out.below hb3)
    have HD3 := hid (HD2.out.below hb3)
    have HB3 := hid (HB2.out.trans (hb3.mono HB2.out.size))
    obtain ⟨_, c0, c1, c2, c3⟩ := HA3.out
    clear hb3 HA2 HD2 HB2
    go_wp2_with fail
    clear c0 c1 c2 c3
    refine (znth_some kind T K g T.length a m _ _ n w3 rfl rfl HD3.out (by omega) (by omega) hl _ _ HQ1.out).mono ?_
    rintro e0 w4 ⟨rfl, hb4⟩
    have HB4 := hid (HB3.out.trans (hb4.mono HB3.out.size))
    clear hb4 HA3 HD3 HB3
    go_wp2_with fail
    refine (count_any kind T K ta ka tc kc a e _ _ w4 rfl rfl (HT.out.below HB4.out) (HK.out.below HB4.out) (by omega) heL (by have := HL.out; omega) hl).mono ?_
    rintro e0 w5 ⟨rfl, rfl⟩
    generalize hct : cnt (dayF kind T K) (e - a) a = tot at *
    clear hct
    go_wp2_with fail
    refine (isKind_any kind T K ta ka tc kc j _ _ rfl (HT.out.below HB4.out) (HK.out.below HB4.out) (by omega) (by have := HL.out; omega)).mono ?_
    rintro e0 w6 ⟨rfl, rfl⟩
    rw [HJ.out]
    go_wp2_with fail
    refine (count_any kind T K ta ka tc kc a j _ _ _ rfl rfl (HT.out.below HB4.out) (HK.out.below HB4.out) haj (by omega) (by have := HL.out; omega) hl).mono ?_
    rintro e0 w7 ⟨rfl, rfl⟩
    have hcn : (((cnt (dayF kind T K) (j - a) a : Nat) : Int) == n - 1) = true := by have := HN.out; rw [beq_iff_eq]; omega
    generalize cnt (dayF kind T K) (j - a) a = cj at *
    go_wp2_with fail
    go_ret
    exact ⟨by simp, HB4.out⟩
end Go.Proofs.Qxb6616808a
