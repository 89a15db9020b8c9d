/-
  NARROWER THAN 'FOR EVERY INPUT', by the rows' own cells (each row's printed sentence says how): FnSubstituteRenameRoundTrip: loops · FnSubstituteSharesCopiesAndReplaces: loops.
  DERIVED. THE GIVEN ROWS OF THIS SEAT. 2 by the template 'for every input the law returns true; each argument reads behind the call as it read before'; 0 by the template 'total and deterministic' (their statements: Qxb6603778aTotals.lean).
  GIVEN WITH THE SEED: the statements are not yours to turn. If you find one false, say at which input.
  Laid BY PROGRAM, IN A SANDBOX (cutbox-rows.mjs): the forced cells as the released guide's own fill.sh prints them over the translation 6e47088b9860790a… (all of the seat's roots in one cut). By AI agents, Wed Nov 11 2026. No macro, syntax, notation, axiom, sorry.
-/
import Derived.Test.Qxb6603778aChecked
import GoSem.Claim
import GoSem.ClaimJoined
import GoSem.ClaimMapViews
import Derived.JoinedTies
import Derived.KernelRfl
namespace Go.Proofs.Qxb6603778a
/- THE CELL 'sum', in the pinned program and in every row, IS THE sha256 OF THE DUMP (.gsa) THAT Qxb6603778aProg.lean LOADS. Nothing in Lean hashes anything: it is a label: what it is worth is what the hold of that sum in a sandbox is worth. -/
noncomputable def Try.pinned : Pinned := { name := "qxb6603778a", sum := "6e47088b9860790af0886c03c6faf9c1b72cc26b8a4e7d143314b761896ac17c", checked := Try.checked }
namespace Rows
def none {H : Type} : Left H := { results := [], args := [] }

/-- 'zzlaws_desc_b1.FnSubstituteRenameRoundTrip': WHATEVER THE INPUT: true; the input reads as it did. -/
def fnSubstituteRenameRoundTripSpec : ChangeSpec := { name := "fnSubstituteRenameRoundTrip", fn := fun _ => fun
  | [d1, d2, d3] => { results := [.lit (.bool true)], args := [d1, d2, d3] }
  | _ => none }
def fnSubstituteRenameRoundTripRow : OpenClaim := { program := "qxb6603778a", sum := "6e47088b9860790af0886c03c6faf9c1b72cc26b8a4e7d143314b761896ac17c", func := "example.com/sysloom/sysloom/zzlaws_desc_b1.FnSubstituteRenameRoundTrip", spec := "fnSubstituteRenameRoundTrip", recurses := true, loops := true, apart := false }
def FnSubstituteRenameRoundTripSaid : Prop := fnSubstituteRenameRoundTripRow.holds Try.pinned (OpenSpec.ofChange fnSubstituteRenameRoundTripSpec)

/-- ITS FALSE NEIGHBOUR: 'it returns false'. Refute it at one input. -/
def fnSubstituteRenameRoundTripWrong : ChangeSpec := { name := "fnSubstituteRenameRoundTrip", fn := fun _ => fun
  | [d1, d2, d3] => { results := [.lit (.bool false)], args := [d1, d2, d3] }
  | _ => none }
def FnSubstituteRenameRoundTripWrongFalsely : Prop := fnSubstituteRenameRoundTripRow.holds Try.pinned (OpenSpec.ofChange fnSubstituteRenameRoundTripWrong)

/-- 'zzlaws_desc_b1.FnSubstituteSharesCopiesAndReplaces': WHATEVER THE INPUT: true; the input reads as it did. -/
def fnSubstituteSharesCopiesAndReplacesSpec : ChangeSpec := { name := "fnSubstituteSharesCopiesAndReplaces", fn := fun _ => fun
  | [d1, d2, d3] => { results := [.lit (.bool true)], args := [d1, d2, d3] }
  | _ => none }
def fnSubstituteSharesCopiesAndReplacesRow : OpenClaim := { program := "qxb6603778a", sum := "6e47088b9860790af0886c03c6faf9c1b72cc26b8a4e7d143314b761896ac17c", func := "example.com/sysloom/sysloom/zzlaws_desc_b1.FnSubstituteSharesCopiesAndReplaces", spec := "fnSubstituteSharesCopiesAndReplaces", recurses := true, loops := true, apart := false }
def FnSubstituteSharesCopiesAndReplacesSaid : Prop := fnSubstituteSharesCopiesAndReplacesRow.holds Try.pinned (OpenSpec.ofChange fnSubstituteSharesCopiesAndReplacesSpec)

/-- ITS FALSE NEIGHBOUR: 'it returns false'. Refute it at one input. -/
def fnSubstituteSharesCopiesAndReplacesWrong : ChangeSpec := { name := "fnSubstituteSharesCopiesAndReplaces", fn := fun _ => fun
  | [d1, d2, d3] => { results := [.lit (.bool false)], args := [d1, d2, d3] }
  | _ => none }
def FnSubstituteSharesCopiesAndReplacesWrongFalsely : Prop := fnSubstituteSharesCopiesAndReplacesRow.holds Try.pinned (OpenSpec.ofChange fnSubstituteSharesCopiesAndReplacesWrong)

end Rows
end Go.Proofs.Qxb6603778a
