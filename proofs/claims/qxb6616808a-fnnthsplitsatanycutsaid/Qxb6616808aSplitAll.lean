import Derived.Test.Qxb6616808aSplitA
import Derived.Test.Qxb6616808aSplitB
namespace Go.Proofs.Qxb6616808a
open Go.RowKit

theorem split_any (T K : List Bool) (ta ka : Option Addr) (tc kc : Nat) (f m e n kind : Int) (w : World) (hT : Marks w ta T) (hK : Marks w ka K) (h1 : T.length ≤ maxLen) (h2 : K.length ≤ maxLen) (hn9 : n ≤ 9223372036854775807) :
    Calls Try.prog 3 #[.slice ta T.length tc, .slice ka K.length kc, .int .i64 f, .int .i64 m, .int .i64 e, .int .i64 n, .int .i64 kind] w fun e w' => e = .returned (.bool true) ∧ Below w.heap.size w w' := by
  by_cases h : 65536 < T.length ∨ 65536 < K.length ∨ T.length ≠ K.length ∨ f < 0 ∨ m < f ∨ e < m ∨ (T.length : Int) < e
  · exact split_out ta ka _ _ tc kc f m e n kind w h1 h2 h
  · obtain ⟨a, rfl⟩ := Int.eq_ofNat_of_zero_le (show 0 ≤ f by omega)
    obtain ⟨m, rfl⟩ := Int.eq_ofNat_of_zero_le (show 0 ≤ m by omega)
    obtain ⟨e, rfl⟩ := Int.eq_ofNat_of_zero_le (show 0 ≤ e by omega)
    have hTK : T.length = K.length := by omega
    have hl : T.length ≤ 65536 := by omega
    have ham : a ≤ m := by omega
    have hme : m ≤ e := by omega
    have heL : e ≤ T.length := by omega
    clear h h1 h2
    have key := cnt_add (dayF kind T K) (m - a) (e - m) a
    rw [show m - a + (e - m) = e - a by omega, show a + (m - a) = m by omega] at key
    have top : ∀ j, a ≤ j → j < e → dayF kind T K j = true → (cnt (dayF kind T K) (j - a) a) + 1 ≤ cnt (dayF kind T K) (e - a) a := by
      intro j hj1 hj2 hj3
      have := cnt_add (dayF kind T K) (j - a + 1) (e - j - 1) a
      rw [show j - a + 1 + (e - j - 1) = e - a by omega, cnt_succ, show a + (j - a) = j by omega, if_pos hj3] at this
      omega
    have hb1 := cnt_le (dayF kind T K) (m - a) a
    have hb2 := cnt_le (dayF kind T K) (e - m) m
    rcases nthF_spec (dayF kind T K) n (m - a) a 0 with ⟨j, q1, q2, q3, q4, q5⟩ | ⟨q1, q2⟩
    · have q4' : (cnt (dayF kind T K) (j - a) a : Int) + 1 = n := by simpa using q4
      exact split_A T K ta ka tc kc a m e j n kind w hT hK hTK hl ham hme heL q1 (by omega) q3 q4' q5 (nthF_hit _ n (e - a) a j q1 (by omega) q3 q4') (by have := top j q1 (by omega) q3; omega)
    · simp only [Int.natCast_zero, Int.zero_add] at q1 q2
      by_cases hn1 : 1 ≤ n
      · have hc1 : (cnt (dayF kind T K) (m - a) a : Int) < n := by omega
        rcases nthF_spec (dayF kind T K) (n - (cnt (dayF kind T K) (m - a) a : Int)) (e - m) m 0 with ⟨j, p1, p2, p3, p4, p5⟩ | ⟨p1, p2⟩
        · have ej := cnt_add (dayF kind T K) (m - a) (j - m) a
          rw [show m - a + (j - m) = j - a by omega, show a + (m - a) = m by omega] at ej
          have p4' : (cnt (dayF kind T K) (j - a) a : Int) + 1 = n := by simp at p4; omega
          exact split_B1 T K ta ka tc kc a m e j _ n kind w hT hK hTK hl ham hme heL p1 (by omega) p3 p4' hc1 q1 p5 (nthF_hit _ n (e - a) a j (by omega) (by omega) p3 p4') (by have := top j (by omega) (by omega) p3; omega)
        · simp only [Int.natCast_zero, Int.zero_add] at p1 p2
          have hlt : (cnt (dayF kind T K) (m - a) a : Int) + (cnt (dayF kind T K) (e - m) m : Int) < n := by omega
          have hq := nthF_miss (dayF kind T K) n (e - a) a (Or.inr (by rw [key]; omega))
          rw [key, Int.natCast_add] at hq
          exact split_B2 T K ta ka tc kc a m e _ _ n kind w hT hK hTK hl ham hme heL (by omega) (by omega) key ⟨hlt, hn9⟩ q1 p1 hq
      · have hq := nthF_miss (dayF kind T K) n (e - a) a (Or.inl (by omega))
        rw [key, Int.natCast_add] at hq
        exact split_C T K ta ka tc kc a m e _ _ n kind w hT hK hTK hl ham hme heL (by omega) (by omega) key (by omega) q1 (nthF_miss _ n (e - m) m (Or.inl (by omega))) hq
end Go.Proofs.Qxb6616808a
