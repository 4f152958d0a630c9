/-
  DERIVED. GIVEN WITH THE SEED: THE CARDS: each row of Qxb6616847aFmtRows.lean that lists a variable, with what it lists TIED to the program's text (the seventh form; the later family's looks); each row that meets fmt, with fmt's text TOLD by the authors' own Lean function (tested against real Go, not proved from fmt's source: count such statements apart). THE CARD IS WHAT COUNTS. Prove the row's statement (the work); the ties are given (Qxb6616847aFmtTie.lean); close each card by the builder's one call (the guide's Derived/Test/ToyasCard.lean, 'card_holds'). Laid BY PROGRAM, IN A SANDBOX (cutbox-door.mjs). By AI agents, Wed Nov 11 2026. No macro, syntax, notation, axiom, sorry.
-/
import Derived.Test.Qxb6616847aFmtRows
import GoSem.ClaimSeven
namespace Go.Proofs.Qxb6616847aFmt
namespace Rows

/-- THE TOLD CARD OF 'zzlaws_internal_csvfile_b1.FnFindColumnPutInAnywhere'. -/
def fnFindColumnPutInAnywhereCard : Claim7 := { stood := { row := fnFindColumnPutInAnywhereRow, standIns := [], harness := (true, "cd3c39e5833fad51ce84b793d0688162c0bd70fced13ed2b587f7b8fc0fa3339"), looks := false }, told := true, goes := false }
def FnFindColumnPutInAnywhereToldSaid : Prop := Claim7.holds Tryf.pinned (.plain (OpenSpec.ofChange fnFindColumnPutInAnywhereSpec)) fnFindColumnPutInAnywhereCard
/-- ITS FALSE NEIGHBOUR. Refute it at one input. -/
def FnFindColumnPutInAnywhereToldWrongFalsely : Prop := Claim7.holds Tryf.pinned (.plain (OpenSpec.ofChange fnFindColumnPutInAnywhereWrong)) fnFindColumnPutInAnywhereCard

/-- THE TOLD CARD OF 'zzlaws_internal_csvfile_b1.FnFindDoubledHeaderRefusesWhatItNames'. -/
def fnFindDoubledHeaderRefusesWhatItNamesCard : Claim7 := { stood := { row := fnFindDoubledHeaderRefusesWhatItNamesRow, standIns := [], harness := (true, "cd3c39e5833fad51ce84b793d0688162c0bd70fced13ed2b587f7b8fc0fa3339"), looks := false }, told := true, goes := false }
def FnFindDoubledHeaderRefusesWhatItNamesToldSaid : Prop := Claim7.holds Tryf.pinned (.plain (OpenSpec.ofChange fnFindDoubledHeaderRefusesWhatItNamesSpec)) fnFindDoubledHeaderRefusesWhatItNamesCard
/-- ITS FALSE NEIGHBOUR. Refute it at one input. -/
def FnFindDoubledHeaderRefusesWhatItNamesToldWrongFalsely : Prop := Claim7.holds Tryf.pinned (.plain (OpenSpec.ofChange fnFindDoubledHeaderRefusesWhatItNamesWrong)) fnFindDoubledHeaderRefusesWhatItNamesCard

/-- THE TOLD CARD OF 'zzlaws_internal_csvfile_b1.FnLineStaysThroughFinds'. -/
def fnLineStaysThroughFindsCard : Claim7 := { stood := { row := fnLineStaysThroughFindsRow, standIns := [], harness := (true, "cd3c39e5833fad51ce84b793d0688162c0bd70fced13ed2b587f7b8fc0fa3339"), looks := false }, told := true, goes := false }
def FnLineStaysThroughFindsToldSaid : Prop := Claim7.holds Tryf.pinned (.plain (OpenSpec.ofChange fnLineStaysThroughFindsSpec)) fnLineStaysThroughFindsCard
/-- ITS FALSE NEIGHBOUR. Refute it at one input. -/
def FnLineStaysThroughFindsToldWrongFalsely : Prop := Claim7.holds Tryf.pinned (.plain (OpenSpec.ofChange fnLineStaysThroughFindsWrong)) fnLineStaysThroughFindsCard
end Rows
end Go.Proofs.Qxb6616847aFmt
