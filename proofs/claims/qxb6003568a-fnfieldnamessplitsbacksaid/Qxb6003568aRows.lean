/-
  No cell of these rows narrows 'for every input' (looked for: loops, veiled, ifaces, maps, wideKeys, modest, calm, conditions, laid).
  DERIVED. THE GIVEN ROWS OF THIS SEAT. 3 by the template 'for every input the law returns true; each argument reads behind the call as it read before'; 0 by the template 'total and deterministic' (their statements: Qxb6003568aTotals.lean).
  GIVEN WITH THE SEED: the statements are not yours to turn. If you find one false, say at which input.
  Laid BY PROGRAM, IN A SANDBOX (cutbox-rows.mjs): the forced cells as the released guide's own fill.sh prints them over the translation 0ae13c57c29c8324… (all of the seat's roots in one cut). By AI agents, Wed Nov 11 2026. No macro, syntax, notation, axiom, sorry.
-/
import Derived.Test.Qxb6003568aChecked
import GoSem.Claim
import GoSem.ClaimJoined
import GoSem.ClaimMapViews
import Derived.JoinedTies
import Derived.KernelRfl
namespace Go.Proofs.Qxb6003568a
/- THE CELL 'sum', in the pinned program and in every row, IS THE sha256 OF THE DUMP (.gsa) THAT Qxb6003568aProg.lean LOADS. Nothing in Lean hashes anything: it is a label: what it is worth is what the hold of that sum in a sandbox is worth. -/
noncomputable def Try.pinned : Pinned := { name := "qxb6003568a", sum := "0ae13c57c29c8324c48a4ad4b9060be563124606a5f93d60b07493448229fd30", checked := Try.checked }
namespace Rows
def none {H : Type} : Left H := { results := [], args := [] }

/-- 'zzlaws_root_b2.FnFieldNamesSplitsBack': WHATEVER THE INPUT: true; the input reads as it did. -/
def fnFieldNamesSplitsBackSpec : ChangeSpec := { name := "fnFieldNamesSplitsBack", fn := fun _ => fun
  | [d] => { results := [.lit (.bool true)], args := [d] }
  | _ => none }
def fnFieldNamesSplitsBackRow : OpenClaim := { program := "qxb6003568a", sum := "0ae13c57c29c8324c48a4ad4b9060be563124606a5f93d60b07493448229fd30", func := "example.com/turnloop/turnloop/zzlaws_root_b2.FnFieldNamesSplitsBack", spec := "fnFieldNamesSplitsBack", inPlace := ["internal/abi.NoEscape", "internal/bytealg.MakeNoZero"], apart := false }
def FnFieldNamesSplitsBackSaid : Prop := fnFieldNamesSplitsBackRow.holds Try.pinned (OpenSpec.ofChange fnFieldNamesSplitsBackSpec)

/-- ITS FALSE NEIGHBOUR: 'it returns false'. Refute it at one input. -/
def fnFieldNamesSplitsBackWrong : ChangeSpec := { name := "fnFieldNamesSplitsBack", fn := fun _ => fun
  | [d] => { results := [.lit (.bool false)], args := [d] }
  | _ => none }
def FnFieldNamesSplitsBackWrongFalsely : Prop := fnFieldNamesSplitsBackRow.holds Try.pinned (OpenSpec.ofChange fnFieldNamesSplitsBackWrong)

/-- 'zzlaws_root_b2.FnFieldNamesNoneOnlyWhenEmpty': WHATEVER THE INPUT: true; the input reads as it did. -/
def fnFieldNamesNoneOnlyWhenEmptySpec : ChangeSpec := { name := "fnFieldNamesNoneOnlyWhenEmpty", fn := fun _ => fun
  | [d] => { results := [.lit (.bool true)], args := [d] }
  | _ => none }
def fnFieldNamesNoneOnlyWhenEmptyRow : OpenClaim := { program := "qxb6003568a", sum := "0ae13c57c29c8324c48a4ad4b9060be563124606a5f93d60b07493448229fd30", func := "example.com/turnloop/turnloop/zzlaws_root_b2.FnFieldNamesNoneOnlyWhenEmpty", spec := "fnFieldNamesNoneOnlyWhenEmpty", inPlace := ["internal/abi.NoEscape", "internal/bytealg.MakeNoZero"], apart := false }
def FnFieldNamesNoneOnlyWhenEmptySaid : Prop := fnFieldNamesNoneOnlyWhenEmptyRow.holds Try.pinned (OpenSpec.ofChange fnFieldNamesNoneOnlyWhenEmptySpec)

/-- ITS FALSE NEIGHBOUR: 'it returns false'. Refute it at one input. -/
def fnFieldNamesNoneOnlyWhenEmptyWrong : ChangeSpec := { name := "fnFieldNamesNoneOnlyWhenEmpty", fn := fun _ => fun
  | [d] => { results := [.lit (.bool false)], args := [d] }
  | _ => none }
def FnFieldNamesNoneOnlyWhenEmptyWrongFalsely : Prop := fnFieldNamesNoneOnlyWhenEmptyRow.holds Try.pinned (OpenSpec.ofChange fnFieldNamesNoneOnlyWhenEmptyWrong)

/-- 'zzlaws_root_b2.FnFieldNamesAppendOne': WHATEVER THE INPUT: true; the input reads as it did. -/
def fnFieldNamesAppendOneSpec : ChangeSpec := { name := "fnFieldNamesAppendOne", fn := fun _ => fun
  | [d1, d2] => { results := [.lit (.bool true)], args := [d1, d2] }
  | _ => none }
def fnFieldNamesAppendOneRow : OpenClaim := { program := "qxb6003568a", sum := "0ae13c57c29c8324c48a4ad4b9060be563124606a5f93d60b07493448229fd30", func := "example.com/turnloop/turnloop/zzlaws_root_b2.FnFieldNamesAppendOne", spec := "fnFieldNamesAppendOne", inPlace := ["internal/abi.NoEscape", "internal/bytealg.MakeNoZero"], apart := false }
def FnFieldNamesAppendOneSaid : Prop := fnFieldNamesAppendOneRow.holds Try.pinned (OpenSpec.ofChange fnFieldNamesAppendOneSpec)

/-- ITS FALSE NEIGHBOUR: 'it returns false'. Refute it at one input. -/
def fnFieldNamesAppendOneWrong : ChangeSpec := { name := "fnFieldNamesAppendOne", fn := fun _ => fun
  | [d1, d2] => { results := [.lit (.bool false)], args := [d1, d2] }
  | _ => none }
def FnFieldNamesAppendOneWrongFalsely : Prop := fnFieldNamesAppendOneRow.holds Try.pinned (OpenSpec.ofChange fnFieldNamesAppendOneWrong)

end Rows
end Go.Proofs.Qxb6003568a
