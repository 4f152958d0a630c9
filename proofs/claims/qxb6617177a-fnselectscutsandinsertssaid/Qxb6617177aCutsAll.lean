import Derived.Test.Qxb6617177aCuts
import Derived.Test.Qxb6617177aCutsOut
namespace Go.Proofs.Qxb6617177a
open Go.RowKit

/-- FnSelectsCutsAndInserts answers true -/
theorem cuts_any (w : World) (ao no : Option Addr) (cap ncap : Nat) (sl ns : List ByteArray) (c d p : Int) (hS : Strs w ao sl) (hN : Strs w no ns) (hl : sl.length ≤ maxLen) (hnl : ns.length ≤ maxLen) (hcap : sl.length ≤ cap) (hncap : ns.length ≤ ncap)
    (hc : -9223372036854775808 ≤ c ∧ c ≤ 9223372036854775807) (hd : -9223372036854775808 ≤ d ∧ d ≤ 9223372036854775807) (hp : -9223372036854775808 ≤ p ∧ p ≤ 9223372036854775807) :
    Calls Try.prog 3 #[.slice ao sl.length cap, .slice no ns.length ncap, .int .i64 c, .int .i64 d, .int .i64 p] w fun e w' => e = .returned (.bool true) ∧ Below w.heap.size w w' := by
  by_cases h : sl.length ≤ 4096 ∧ ns.length ≤ 4096 ∧ 0 ≤ c ∧ c ≤ sl.length ∧ 0 ≤ d ∧ d ≤ ns.length ∧ 0 ≤ p ∧ p ≤ sl.length
  · obtain ⟨h1, h2, h3, h4, h5, h6, h7, h8⟩ := h
    obtain ⟨c, rfl⟩ := Int.eq_ofNat_of_zero_le h3
    obtain ⟨d, rfl⟩ := Int.eq_ofNat_of_zero_le h5
    obtain ⟨p, rfl⟩ := Int.eq_ofNat_of_zero_le h7
    exact cuts_main w ao no cap ncap sl ns c d p hS hN h1 h2 hcap hncap (by omega) (by omega) (by omega)
  · exact cuts_out w ao no cap ncap sl ns c d p hS hN hl hnl hc hd hp h
end Go.Proofs.Qxb6617177a
