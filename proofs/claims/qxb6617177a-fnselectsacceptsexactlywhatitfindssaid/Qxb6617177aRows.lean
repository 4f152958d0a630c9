/-
  No cell of these rows narrows 'for every input' (looked for: loops, veiled, ifaces, maps, wideKeys, modest, calm, conditions, laid).
  DERIVED. THE GIVEN ROWS OF THIS SEAT. 2 by the template 'for every input the law returns true; each argument reads behind the call as it read before'; 0 by the template 'total and deterministic' (their statements: Qxb6617177aTotals.lean).
  GIVEN WITH THE SEED: the statements are not yours to turn. If you find one false, say at which input.
  Laid BY PROGRAM, IN A SANDBOX (cutbox-rows.mjs): the forced cells as the released guide's own fill.sh prints them over the translation 4c3a03a25d0aa1c2… (all of the seat's roots in one cut). By AI agents, Wed Nov 11 2026. No macro, syntax, notation, axiom, sorry.
-/
import Derived.Test.Qxb6617177aChecked
import GoSem.Claim
import GoSem.ClaimJoined
import GoSem.ClaimMapViews
import Derived.JoinedTies
import Derived.KernelRfl
namespace Go.Proofs.Qxb6617177a
/- THE CELL 'sum', in the pinned program and in every row, IS THE sha256 OF THE DUMP (.gsa) THAT Qxb6617177aProg.lean LOADS. Nothing in Lean hashes anything: it is a label: what it is worth is what the hold of that sum in a sandbox is worth. -/
noncomputable def Try.pinned : Pinned := { name := "qxb6617177a", sum := "4c3a03a25d0aa1c264d1dfe5d857460001d8c0eebb7fdfe6b09de4cc2423ba35", checked := Try.checked }
namespace Rows
def none {H : Type} : Left H := { results := [], args := [] }

/-- 'zzlaws_internal_limits_b1.FnSelectsCutsAndInserts': WHATEVER THE INPUT: true; the input reads as it did. -/
def fnSelectsCutsAndInsertsSpec : ChangeSpec := { name := "fnSelectsCutsAndInserts", fn := fun _ => fun
  | [d1, d2, d3, d4, d5] => { results := [.lit (.bool true)], args := [d1, d2, d3, d4, d5] }
  | _ => none }
def fnSelectsCutsAndInsertsRow : OpenClaim := { program := "qxb6617177a", sum := "4c3a03a25d0aa1c264d1dfe5d857460001d8c0eebb7fdfe6b09de4cc2423ba35", func := "example.com/tuoguan/tuoguan/zzlaws_internal_limits_b1.FnSelectsCutsAndInserts", spec := "fnSelectsCutsAndInserts", unfollowed := true, recurses := true, apart := false }
def FnSelectsCutsAndInsertsSaid : Prop := fnSelectsCutsAndInsertsRow.holds Try.pinned (OpenSpec.ofChange fnSelectsCutsAndInsertsSpec)

/-- ITS FALSE NEIGHBOUR: 'it returns false'. Refute it at one input. -/
def fnSelectsCutsAndInsertsWrong : ChangeSpec := { name := "fnSelectsCutsAndInserts", fn := fun _ => fun
  | [d1, d2, d3, d4, d5] => { results := [.lit (.bool false)], args := [d1, d2, d3, d4, d5] }
  | _ => none }
def FnSelectsCutsAndInsertsWrongFalsely : Prop := fnSelectsCutsAndInsertsRow.holds Try.pinned (OpenSpec.ofChange fnSelectsCutsAndInsertsWrong)

/-- 'zzlaws_internal_limits_b1.FnSelectsAcceptsExactlyWhatItFinds': WHATEVER THE INPUT: true; the input reads as it did. -/
def fnSelectsAcceptsExactlyWhatItFindsSpec : ChangeSpec := { name := "fnSelectsAcceptsExactlyWhatItFinds", fn := fun _ => fun
  | [d1, d2] => { results := [.lit (.bool true)], args := [d1, d2] }
  | _ => none }
def fnSelectsAcceptsExactlyWhatItFindsRow : OpenClaim := { program := "qxb6617177a", sum := "4c3a03a25d0aa1c264d1dfe5d857460001d8c0eebb7fdfe6b09de4cc2423ba35", func := "example.com/tuoguan/tuoguan/zzlaws_internal_limits_b1.FnSelectsAcceptsExactlyWhatItFinds", spec := "fnSelectsAcceptsExactlyWhatItFinds", unfollowed := true, recurses := true, apart := false }
def FnSelectsAcceptsExactlyWhatItFindsSaid : Prop := fnSelectsAcceptsExactlyWhatItFindsRow.holds Try.pinned (OpenSpec.ofChange fnSelectsAcceptsExactlyWhatItFindsSpec)

/-- ITS FALSE NEIGHBOUR: 'it returns false'. Refute it at one input. -/
def fnSelectsAcceptsExactlyWhatItFindsWrong : ChangeSpec := { name := "fnSelectsAcceptsExactlyWhatItFinds", fn := fun _ => fun
  | [d1, d2] => { results := [.lit (.bool false)], args := [d1, d2] }
  | _ => none }
def FnSelectsAcceptsExactlyWhatItFindsWrongFalsely : Prop := fnSelectsAcceptsExactlyWhatItFindsRow.holds Try.pinned (OpenSpec.ofChange fnSelectsAcceptsExactlyWhatItFindsWrong)

end Rows
end Go.Proofs.Qxb6617177a
