import Derived.Test.Qxb6616847aFmtLine
namespace Go.Proofs.Qxb6616847aFmt
open Go.RowKit
theorem ls_any (w : World) (nm : ByteArray) (ao co : Option Addr) (cap ccap : Nat) (sl cl : List ByteArray) (line : Int) (hS : Strs w ao sl) (hC : Strs w co cl) (h1 : sl.length ≤ maxLen) (h2 : cl.length ≤ maxLen) (h3 : nm.size ≤ maxLen) :
    Calls Tryf.prog 5 #[.string nm, .slice ao sl.length cap, .int .i64 line, .slice co cl.length ccap] w fun e w' => e = .returned (.bool true) ∧ Below w.heap.size w w' := by
  by_cases h : 1048576 < nm.size ∨ 4096 < cl.length
  · exact ls_out w nm ao co cap ccap sl cl line hS hC h1 h2 h3 h
  · exact ls_main w nm ao co cap ccap sl cl line hS hC h1 (by omega) (by omega)
end Go.Proofs.Qxb6616847aFmt
