/-
  No cell of these rows narrows 'for every input' (looked for: loops, veiled, ifaces, maps, wideKeys, modest, calm, conditions, laid).
  DERIVED. THE GIVEN ROWS OF THIS SEAT. 2 by the template 'for every input the law returns true; each argument reads behind the call as it read before'; 0 by the template 'total and deterministic' (their statements: Qxb6616808aTotals.lean).
  GIVEN WITH THE SEED: the statements are not yours to turn. If you find one false, say at which input.
  Laid BY PROGRAM, IN A SANDBOX (cutbox-rows.mjs): the forced cells as the released guide's own fill.sh prints them over the translation 65c174621f550e0d… (all of the seat's roots in one cut). By AI agents, Wed Nov 11 2026. No macro, syntax, notation, axiom, sorry.
-/
import Derived.Test.Qxb6616808aChecked
import GoSem.Claim
import GoSem.ClaimJoined
import GoSem.ClaimMapViews
import Derived.JoinedTies
import Derived.KernelRfl
namespace Go.Proofs.Qxb6616808a
/- THE CELL 'sum', in the pinned program and in every row, IS THE sha256 OF THE DUMP (.gsa) THAT Qxb6616808aProg.lean LOADS. Nothing in Lean hashes anything: it is a label: what it is worth is what the hold of that sum in a sandbox is worth. -/
noncomputable def Try.pinned : Pinned := { name := "qxb6616808a", sum := "65c174621f550e0de47c1d9ef2a3eae708408778192f49d6b283af8a78ac107f", checked := Try.checked }
namespace Rows
def none {H : Type} : Left H := { results := [], args := [] }

/-- 'zzlaws_valuation_b1.FnNthSplitsAtAnyCut': WHATEVER THE INPUT: true; the input reads as it did. -/
def fnNthSplitsAtAnyCutSpec : ChangeSpec := { name := "fnNthSplitsAtAnyCut", fn := fun _ => fun
  | [d1, d2, d3, d4, d5, d6, d7] => { results := [.lit (.bool true)], args := [d1, d2, d3, d4, d5, d6, d7] }
  | _ => none }
def fnNthSplitsAtAnyCutRow : OpenClaim := { program := "qxb6616808a", sum := "65c174621f550e0de47c1d9ef2a3eae708408778192f49d6b283af8a78ac107f", func := "example.com/tuoguan/tuoguan/zzlaws_valuation_b1.FnNthSplitsAtAnyCut", spec := "fnNthSplitsAtAnyCut", apart := false }
def FnNthSplitsAtAnyCutSaid : Prop := fnNthSplitsAtAnyCutRow.holds Try.pinned (OpenSpec.ofChange fnNthSplitsAtAnyCutSpec)

/-- ITS FALSE NEIGHBOUR: 'it returns false'. Refute it at one input. -/
def fnNthSplitsAtAnyCutWrong : ChangeSpec := { name := "fnNthSplitsAtAnyCut", fn := fun _ => fun
  | [d1, d2, d3, d4, d5, d6, d7] => { results := [.lit (.bool false)], args := [d1, d2, d3, d4, d5, d6, d7] }
  | _ => none }
def FnNthSplitsAtAnyCutWrongFalsely : Prop := fnNthSplitsAtAnyCutRow.holds Try.pinned (OpenSpec.ofChange fnNthSplitsAtAnyCutWrong)

/-- 'zzlaws_valuation_b1.FnNthNextIsOneFurther': WHATEVER THE INPUT: true; the input reads as it did. -/
def fnNthNextIsOneFurtherSpec : ChangeSpec := { name := "fnNthNextIsOneFurther", fn := fun _ => fun
  | [d1, d2, d3, d4, d5, d6] => { results := [.lit (.bool true)], args := [d1, d2, d3, d4, d5, d6] }
  | _ => none }
def fnNthNextIsOneFurtherRow : OpenClaim := { program := "qxb6616808a", sum := "65c174621f550e0de47c1d9ef2a3eae708408778192f49d6b283af8a78ac107f", func := "example.com/tuoguan/tuoguan/zzlaws_valuation_b1.FnNthNextIsOneFurther", spec := "fnNthNextIsOneFurther", apart := false }
def FnNthNextIsOneFurtherSaid : Prop := fnNthNextIsOneFurtherRow.holds Try.pinned (OpenSpec.ofChange fnNthNextIsOneFurtherSpec)

/-- ITS FALSE NEIGHBOUR: 'it returns false'. Refute it at one input. -/
def fnNthNextIsOneFurtherWrong : ChangeSpec := { name := "fnNthNextIsOneFurther", fn := fun _ => fun
  | [d1, d2, d3, d4, d5, d6] => { results := [.lit (.bool false)], args := [d1, d2, d3, d4, d5, d6] }
  | _ => none }
def FnNthNextIsOneFurtherWrongFalsely : Prop := fnNthNextIsOneFurtherRow.holds Try.pinned (OpenSpec.ofChange fnNthNextIsOneFurtherWrong)

end Rows
end Go.Proofs.Qxb6616808a
