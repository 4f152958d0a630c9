import Derived.Test.Qxb6616847aFmtCol
namespace Go.Proofs.Qxb6616847aFmt
open Go.RowKit
theorem col_any (w : World) (ao : Option Addr) (cap : Nat) (sl : List ByteArray) (c x : ByteArray) (p : Int) (hS : Strs w ao sl) (h1 : sl.length ≤ maxLen) (h2 : c.size ≤ maxLen) (h3 : x.size ≤ maxLen) :
    Calls Tryf.prog 3 #[.slice ao sl.length cap, .string c, .int .i64 p, .string x] w fun e w' => e = .returned (.bool true) ∧ Below w.heap.size w w' := by
  by_cases h : 1048576 < c.size ∨ 1048576 < x.size ∨ p < 0 ∨ (sl.length : Int) < p
  · exact col_out w ao cap sl c x p hS h1 h2 h3 h
  · obtain ⟨q, rfl⟩ := Int.eq_ofNat_of_zero_le (show 0 ≤ p by omega)
    exact col_main w ao cap sl c x q hS h1 (by omega) (by omega) (by omega)
end Go.Proofs.Qxb6616847aFmt
