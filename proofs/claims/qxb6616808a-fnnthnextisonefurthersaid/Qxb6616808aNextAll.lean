import Derived.Test.Qxb6616808aNext
namespace Go.Proofs.Qxb6616808a
open Go.RowKit

theorem next_any (T K : List Bool) (ta ka : Option Addr) (tc kc : Nat) (f e n kind : Int) (w : World) (hT : Marks w ta T) (hK : Marks w ka K) (h1 : T.length ≤ maxLen) (h2 : K.length ≤ maxLen) (hn9 : n ≤ 9223372036854775807) :
    Calls Try.prog 4 #[.slice ta T.length tc, .slice ka K.length kc, .int .i64 f, .int .i64 e, .int .i64 n, .int .i64 kind] w fun e w' => e = .returned (.bool true) ∧ Below w.heap.size w w' := by
  by_cases h : 65536 < T.length ∨ 65536 < K.length ∨ T.length ≠ K.length ∨ (f < e ∧ (f < 0 ∨ (T.length : Int) < e)) ∨ n < 1 ∨ n = 9223372036854775807
  · exact next_out ta ka _ _ tc kc f e n kind w h1 h2 h
  · have hTK : T.length = K.length := by omega
    have hl : T.length ≤ 65536 := by omega
    have hn1 : 1 ≤ n := by omega
    have hn2 : n < 9223372036854775807 := by omega
    by_cases hfe : f < e
    · obtain ⟨a, rfl⟩ := Int.eq_ofNat_of_zero_le (show 0 ≤ f by omega)
      obtain ⟨e, rfl⟩ := Int.eq_ofNat_of_zero_le (show 0 ≤ e by omega)
      have hae : a < e := by omega
      have heL : e ≤ T.length := by omega
      clear h h1 h2 hfe
      rcases nthF_spec (dayF kind T K) n (e - a) a 0 with ⟨j, q1, q2, q3, q4, q5⟩ | ⟨q1, q2⟩
      · have hcj : (cnt (dayF kind T K) (j + 1 - a) a : Int) = n := by
          rw [show j + 1 - a = (j - a) + 1 by omega, cnt_succ, show a + (j - a) = j by omega, if_pos q3]
          simp at q4
          omega
        rcases nthF_spec (dayF kind T K) 1 (e - (j + 1)) (j + 1) 0 with ⟨k, p1, p2, p3, p4, p5⟩ | ⟨p1, p2⟩
        · have hck : (cnt (dayF kind T K) (k - a) a : Int) + 1 = n + 1 := by
            have := cnt_add (dayF kind T K) (j + 1 - a) (k - (j + 1)) a
            rw [show j + 1 - a + (k - (j + 1)) = k - a by omega, show a + (j + 1 - a) = j + 1 by omega] at this
            simp at p4
            omega
          exact next_hit T K ta ka tc kc a e j n kind k 1 w hT hK hTK hl hae heL hn1 hn2 q1 (by omega) q3 hcj (by omega) q5 (nthF_hit _ (n + 1) (e - a) a k (by omega) (by omega) p3 hck) p5
        · simp only [Int.natCast_zero, Int.zero_add] at p1 p2
          have hc0 : cnt (dayF kind T K) (e - (j + 1)) (j + 1) = 0 := by omega
          have hce : cnt (dayF kind T K) (e - a) a = cnt (dayF kind T K) (j + 1 - a) a := by
            have := cnt_add (dayF kind T K) (j + 1 - a) (e - (j + 1)) a
            rw [show j + 1 - a + (e - (j + 1)) = e - a by omega, show a + (j + 1 - a) = j + 1 by omega, hc0] at this
            omega
          rw [hc0] at p1
          have hm := nthF_miss (dayF kind T K) (n + 1) (e - a) a (Or.inr (by rw [hce]; omega))
          rw [hce, hcj] at hm
          exact next_hit T K ta ka tc kc a e j n kind (-1) 0 w hT hK hTK hl hae heL hn1 hn2 q1 (by omega) q3 hcj (by omega) q5 (by rw [hm]; simp) p1
      · simp only [Int.natCast_zero, Int.zero_add] at q1 q2
        exact next_miss T K ta ka tc kc a e _ n kind w hT hK hTK hl hae heL hn1 hn2 (by omega) rfl q1 (nthF_miss _ (n + 1) (e - a) a (Or.inr (by omega)))
    · exact next_none T K ta ka tc kc f e n kind w hT hK hTK hl (by omega) hn1 hn2
end Go.Proofs.Qxb6616808a
