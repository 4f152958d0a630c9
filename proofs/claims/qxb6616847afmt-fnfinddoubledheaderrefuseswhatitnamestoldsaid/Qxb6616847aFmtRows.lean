/-
  No cell of these rows narrows 'for every input' (looked for: loops, veiled, ifaces, maps, wideKeys, modest, calm, conditions, laid).
  DERIVED. THE GIVEN ROWS OF THIS SEAT. 3 by the template 'for every input the law returns true; each argument reads behind the call as it read before'; 0 by the template 'total and deterministic' (their statements: Qxb6616847aFmtTotals.lean).
  GIVEN WITH THE SEED: the statements are not yours to turn. If you find one false, say at which input.
  Laid BY PROGRAM, IN A SANDBOX (cutbox-rows.mjs): the forced cells as the released guide's own fill.sh prints them over the translation fd7e0650b4cde6fc… (all of the seat's roots in one cut). By AI agents, Wed Nov 11 2026. No macro, syntax, notation, axiom, sorry.
-/
import Derived.Test.Qxb6616847aFmtChecked
import GoSem.Claim
import GoSem.ClaimJoined
import GoSem.ClaimMapViews
import Derived.JoinedTies
import Derived.KernelRfl
namespace Go.Proofs.Qxb6616847aFmt
/- THE CELL 'sum', in the pinned program and in every row, IS THE sha256 OF THE DUMP (.gsa) THAT Qxb6616847aFmtProg.lean LOADS. Nothing in Lean hashes anything: it is a label: what it is worth is what the hold of that sum in a sandbox is worth. -/
noncomputable def Tryf.pinned : Pinned := { name := "qxb6616847afmt", sum := "fd7e0650b4cde6fc7164ab3483d8beeecd6d5107caabdd87c24b5d902d764dd2", checked := Tryf.checked }
namespace Rows
def none {H : Type} : Left H := { results := [], args := [] }

/-- 'zzlaws_internal_csvfile_b1.FnFindColumnPutInAnywhere': WHATEVER THE INPUT: true; the input reads as it did. -/
def fnFindColumnPutInAnywhereSpec : ChangeSpec := { name := "fnFindColumnPutInAnywhere", fn := fun _ => fun
  | [d1, d2, d3, d4] => { results := [.lit (.bool true)], args := [d1, d2, d3, d4] }
  | _ => none }
def fnFindColumnPutInAnywhereRow : OpenClaim := { program := "qxb6616847afmt", sum := "fd7e0650b4cde6fc7164ab3483d8beeecd6d5107caabdd87c24b5d902d764dd2", func := "example.com/tuoguan/tuoguan/zzlaws_internal_csvfile_b1.FnFindColumnPutInAnywhere", spec := "fnFindColumnPutInAnywhere", stops := ["fmt.errorf"], inPlace := ["fmt.errorf"], apart := false }
/-- NO THEOREM (fmt's text is open here; it may be false): for the released tool's asking of the row's closed facts alone. THE STATEMENT IS 'FnFindColumnPutInAnywhereToldSaid' (Qxb6616847aFmtCards.lean). -/
def FnFindColumnPutInAnywhereFormAsk : Prop := fnFindColumnPutInAnywhereRow.holds Tryf.pinned (OpenSpec.ofChange fnFindColumnPutInAnywhereSpec)

/-- ITS FALSE NEIGHBOUR: 'it returns false'. Refute it at one input. -/
def fnFindColumnPutInAnywhereWrong : ChangeSpec := { name := "fnFindColumnPutInAnywhere", fn := fun _ => fun
  | [d1, d2, d3, d4] => { results := [.lit (.bool false)], args := [d1, d2, d3, d4] }
  | _ => none }
def FnFindColumnPutInAnywhereWrongFormAsk : Prop := fnFindColumnPutInAnywhereRow.holds Tryf.pinned (OpenSpec.ofChange fnFindColumnPutInAnywhereWrong)

/-- 'zzlaws_internal_csvfile_b1.FnFindDoubledHeaderRefusesWhatItNames': WHATEVER THE INPUT: true; the input reads as it did. -/
def fnFindDoubledHeaderRefusesWhatItNamesSpec : ChangeSpec := { name := "fnFindDoubledHeaderRefusesWhatItNames", fn := fun _ => fun
  | [d1, d2, d3] => { results := [.lit (.bool true)], args := [d1, d2, d3] }
  | _ => none }
def fnFindDoubledHeaderRefusesWhatItNamesRow : OpenClaim := { program := "qxb6616847afmt", sum := "fd7e0650b4cde6fc7164ab3483d8beeecd6d5107caabdd87c24b5d902d764dd2", func := "example.com/tuoguan/tuoguan/zzlaws_internal_csvfile_b1.FnFindDoubledHeaderRefusesWhatItNames", spec := "fnFindDoubledHeaderRefusesWhatItNames", stops := ["fmt.errorf"], inPlace := ["fmt.errorf"], apart := false }
/-- NO THEOREM (fmt's text is open here; it may be false): for the released tool's asking of the row's closed facts alone. THE STATEMENT IS 'FnFindDoubledHeaderRefusesWhatItNamesToldSaid' (Qxb6616847aFmtCards.lean). -/
def FnFindDoubledHeaderRefusesWhatItNamesFormAsk : Prop := fnFindDoubledHeaderRefusesWhatItNamesRow.holds Tryf.pinned (OpenSpec.ofChange fnFindDoubledHeaderRefusesWhatItNamesSpec)

/-- ITS FALSE NEIGHBOUR: 'it returns false'. Refute it at one input. -/
def fnFindDoubledHeaderRefusesWhatItNamesWrong : ChangeSpec := { name := "fnFindDoubledHeaderRefusesWhatItNames", fn := fun _ => fun
  | [d1, d2, d3] => { results := [.lit (.bool false)], args := [d1, d2, d3] }
  | _ => none }
def FnFindDoubledHeaderRefusesWhatItNamesWrongFormAsk : Prop := fnFindDoubledHeaderRefusesWhatItNamesRow.holds Tryf.pinned (OpenSpec.ofChange fnFindDoubledHeaderRefusesWhatItNamesWrong)

/-- 'zzlaws_internal_csvfile_b1.FnLineStaysThroughFinds': WHATEVER THE INPUT: true; the input reads as it did. -/
def fnLineStaysThroughFindsSpec : ChangeSpec := { name := "fnLineStaysThroughFinds", fn := fun _ => fun
  | [d1, d2, d3, d4] => { results := [.lit (.bool true)], args := [d1, d2, d3, d4] }
  | _ => none }
def fnLineStaysThroughFindsRow : OpenClaim := { program := "qxb6616847afmt", sum := "fd7e0650b4cde6fc7164ab3483d8beeecd6d5107caabdd87c24b5d902d764dd2", func := "example.com/tuoguan/tuoguan/zzlaws_internal_csvfile_b1.FnLineStaysThroughFinds", spec := "fnLineStaysThroughFinds", stops := ["fmt.errorf"], inPlace := ["fmt.errorf"], apart := false }
/-- NO THEOREM (fmt's text is open here; it may be false): for the released tool's asking of the row's closed facts alone. THE STATEMENT IS 'FnLineStaysThroughFindsToldSaid' (Qxb6616847aFmtCards.lean). -/
def FnLineStaysThroughFindsFormAsk : Prop := fnLineStaysThroughFindsRow.holds Tryf.pinned (OpenSpec.ofChange fnLineStaysThroughFindsSpec)

/-- ITS FALSE NEIGHBOUR: 'it returns false'. Refute it at one input. -/
def fnLineStaysThroughFindsWrong : ChangeSpec := { name := "fnLineStaysThroughFinds", fn := fun _ => fun
  | [d1, d2, d3, d4] => { results := [.lit (.bool false)], args := [d1, d2, d3, d4] }
  | _ => none }
def FnLineStaysThroughFindsWrongFormAsk : Prop := fnLineStaysThroughFindsRow.holds Tryf.pinned (OpenSpec.ofChange fnLineStaysThroughFindsWrong)

end Rows
end Go.Proofs.Qxb6616847aFmt
