/-
  No cell of these rows narrows 'for every input' (looked for: loops, veiled, ifaces, maps, wideKeys, modest, calm, conditions, laid).
  DERIVED. THE GIVEN ROWS OF THIS SEAT. 1 by the template 'for every input the law returns true; each argument reads behind the call as it read before'; 0 by the template 'total and deterministic' (their statements: Qxb6603693aTotals.lean).
  GIVEN WITH THE SEED: the statements are not yours to turn. If you find one false, say at which input.
  Laid BY PROGRAM, IN A SANDBOX (cutbox-rows.mjs): the forced cells as the released guide's own fill.sh prints them over the translation f7b42cd291403178… (all of the seat's roots in one cut). By AI agents, Wed Nov 11 2026. No macro, syntax, notation, axiom, sorry.
-/
import Derived.Test.Qxb6603693aChecked
import GoSem.Claim
import GoSem.ClaimJoined
import GoSem.ClaimMapViews
import Derived.JoinedTies
import Derived.KernelRfl
namespace Go.Proofs.Qxb6603693a
/- THE CELL 'sum', in the pinned program and in every row, IS THE sha256 OF THE DUMP (.gsa) THAT Qxb6603693aProg.lean LOADS. Nothing in Lean hashes anything: it is a label: what it is worth is what the hold of that sum in a sandbox is worth. -/
noncomputable def Try.pinned : Pinned := { name := "qxb6603693a", sum := "f7b42cd29140317837c692fd22135787b463b119b13e202ef6085d229e76da66", checked := Try.checked }
namespace Rows
def none {H : Type} : Left H := { results := [], args := [] }

/-- 'zzlaws_internal_syscalls_b1.FnBitsMaskMatchesKernelCast': WHATEVER THE INPUT: true; the input reads as it did. -/
def fnBitsMaskMatchesKernelCastSpec : ChangeSpec := { name := "fnBitsMaskMatchesKernelCast", fn := fun _ => fun
  | [d1, d2] => { results := [.lit (.bool true)], args := [d1, d2] }
  | _ => none }
def fnBitsMaskMatchesKernelCastRow : OpenClaim := { program := "qxb6603693a", sum := "f7b42cd29140317837c692fd22135787b463b119b13e202ef6085d229e76da66", func := "example.com/portcullis/portcullis/zzlaws_internal_syscalls_b1.FnBitsMaskMatchesKernelCast", spec := "fnBitsMaskMatchesKernelCast", apart := false }
def FnBitsMaskMatchesKernelCastSaid : Prop := fnBitsMaskMatchesKernelCastRow.holds Try.pinned (OpenSpec.ofChange fnBitsMaskMatchesKernelCastSpec)

/-- ITS FALSE NEIGHBOUR: 'it returns false'. Refute it at one input. -/
def fnBitsMaskMatchesKernelCastWrong : ChangeSpec := { name := "fnBitsMaskMatchesKernelCast", fn := fun _ => fun
  | [d1, d2] => { results := [.lit (.bool false)], args := [d1, d2] }
  | _ => none }
def FnBitsMaskMatchesKernelCastWrongFalsely : Prop := fnBitsMaskMatchesKernelCastRow.holds Try.pinned (OpenSpec.ofChange fnBitsMaskMatchesKernelCastWrong)

end Rows
end Go.Proofs.Qxb6603693a
