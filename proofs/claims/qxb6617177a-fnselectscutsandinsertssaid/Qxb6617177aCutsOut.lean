import Derived.Test.Qxb6617177aPlain
namespace Go.Proofs.Qxb6617177a
open Go.RowKit

set_option maxRecDepth 1000000 in
set_option maxHeartbeats 4000000 in
/-- beyond the bounds -/
theorem cuts_out (w : World) (ao no : Option Addr) (cap ncap : Nat) (sl ns : List ByteArray) (c d p : Int) (hS : Strs w ao sl) (hN : Strs w no ns) (hl : sl.length ≤ maxLen) (hnl : ns.length ≤ maxLen)
    (hc : -9223372036854775808 ≤ c ∧ c ≤ 9223372036854775807) (hd : -9223372036854775808 ≤ d ∧ d ≤ 9223372036854775807) (hp : -9223372036854775808 ≤ p ∧ p ≤ 9223372036854775807)
    (hout : ¬ (sl.length ≤ 4096 ∧ ns.length ≤ 4096 ∧ 0 ≤ c ∧ c ≤ sl.length ∧ 0 ≤ d ∧ d ≤ ns.length ∧ 0 ≤ p ∧ p ≤ sl.length)) :
    Calls Try.prog 3 #[.slice ao sl.length cap, .slice no ns.length ncap, .int .i64 c, .int .i64 d, .int .i64 p] w fun e w' => e = .returned (.bool true) ∧ Below w.heap.size w w' := by
  have HS := hid hS
  have HN := hid hN
  have HO := hid hout
  obtain ⟨hc0, hc9⟩ := hc
  obtain ⟨hd0, hd9⟩ := hd
  obtain ⟨hp0, hp9⟩ := hp
  clear hS hN hout
  go_enter Try.func3, Try.ntmps3
  go_wp2_with fail
  refine (zz5_any w ao no cap ncap sl ns _ _ _ HS.out hl HN.out hnl).mono ?_
  rintro e w' ⟨⟨b, rfl⟩, rfl⟩
  cases b with
  | false =>
    go_wp2_with fail
    go_ret
    exact ⟨rfl, Below.refl _ _⟩
  | true =>
    by_cases hA : 4096 < sl.length
    · go_wp2_with fail
      go_ret
      exact ⟨rfl, Below.refl _ _⟩
    by_cases hB : 4096 < ns.length
    · go_wp2_with fail
      go_ret
      exact ⟨rfl, Below.refl _ _⟩
    go_wp2_with fail
    refine (within_any w' ao no cap ncap sl ns _ HS.out (by omega) HN.out (by omega)).mono ?_
    rintro e w1 ⟨⟨b, rfl⟩, rfl⟩
    cases b with
    | false =>
      go_wp2_with fail
      go_ret
      exact ⟨rfl, Below.refl _ _⟩
    | true =>
      by_cases hc1 : c < 0
      · have q : decide (c < 0) = true := decide_eq_true hc1
        go_wp2_with fail
        go_ret
        exact ⟨rfl, Below.refl _ _⟩
      by_cases hc2 : (sl.length : Int) < c
      · have q : decide ((sl.length : Int) < c) = true := decide_eq_true hc2
        go_wp2_with fail
        go_ret
        exact ⟨rfl, Below.refl _ _⟩
      by_cases hd1 : d < 0
      · have q : decide (d < 0) = true := decide_eq_true hd1
        go_wp2_with fail
        go_ret
        exact ⟨rfl, Below.refl _ _⟩
      by_cases hd2 : (ns.length : Int) < d
      · have q : decide ((ns.length : Int) < d) = true := decide_eq_true hd2
        go_wp2_with fail
        go_ret
        exact ⟨rfl, Below.refl _ _⟩
      by_cases hp1 : p < 0
      · have q : decide (p < 0) = true := decide_eq_true hp1
        go_wp2_with fail
        go_ret
        exact ⟨rfl, Below.refl _ _⟩
      by_cases hp2 : (sl.length : Int) < p
      · have q : decide ((sl.length : Int) < p) = true := decide_eq_true hp2
        go_wp2_with fail
        go_ret
        exact ⟨rfl, Below.refl _ _⟩
      exact absurd ⟨by omega, by omega, by omega, by omega, by omega, by omega, by omega, by omega⟩ HO.out

end Go.Proofs.Qxb6617177a
