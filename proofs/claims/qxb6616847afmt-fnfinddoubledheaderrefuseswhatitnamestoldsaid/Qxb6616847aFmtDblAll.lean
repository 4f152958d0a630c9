import Derived.Test.Qxb6616847aFmtDbl
namespace Go.Proofs.Qxb6616847aFmt
open Go.RowKit
theorem dbl_any (w : World) (ao : Option Addr) (cap : Nat) (sl : List ByteArray) (c x : ByteArray) (hS : Strs w ao sl) (h1 : sl.length ≤ maxLen) (h2 : c.size ≤ maxLen) (h3 : x.size ≤ maxLen) :
    Calls Tryf.prog 4 #[.slice ao sl.length cap, .string c, .string x] w fun e w' => e = .returned (.bool true) ∧ Below w.heap.size w w' := by
  by_cases h : 1048576 < c.size ∨ 1048576 < x.size
  · exact dbl_out w ao cap sl c x hS h1 h2 h3 h
  · exact dbl_main w ao cap sl c x hS h1 (by omega) (by omega)
end Go.Proofs.Qxb6616847aFmt
