/-
  No cell of these rows narrows 'for every input' (looked for: loops, veiled, ifaces, maps, wideKeys, modest, calm, conditions, laid).
  DERIVED. THE GIVEN ROWS OF THIS SEAT. 3 by the template 'for every input the law returns true; each argument reads behind the call as it read before'; 0 by the template 'total and deterministic' (their statements: Qxb6604611aTotals.lean).
  GIVEN WITH THE SEED: the statements are not yours to turn. If you find one false, say at which input.
  Laid BY PROGRAM, IN A SANDBOX (cutbox-rows.mjs): the forced cells as the released guide's own fill.sh prints them over the translation c0a4e6d25d8e32d7… (all of the seat's roots in one cut). By AI agents, Wed Nov 11 2026. No macro, syntax, notation, axiom, sorry.
-/
import Derived.Test.Qxb6604611aChecked
import GoSem.Claim
import GoSem.ClaimJoined
import GoSem.ClaimMapViews
import Derived.JoinedTies
import Derived.KernelRfl
namespace Go.Proofs.Qxb6604611a
/- THE CELL 'sum', in the pinned program and in every row, IS THE sha256 OF THE DUMP (.gsa) THAT Qxb6604611aProg.lean LOADS. Nothing in Lean hashes anything: it is a label: what it is worth is what the hold of that sum in a sandbox is worth. -/
noncomputable def Try.pinned : Pinned := { name := "qxb6604611a", sum := "c0a4e6d25d8e32d7dc5d4aa96543c24eb9d01a0fd5146a0f35edf4b10262574e", checked := Try.checked }
namespace Rows
def none {H : Type} : Left H := { results := [], args := [] }

/-- 'zzlaws_root_b1.FnSetHolderIDLastWins': WHATEVER THE INPUT: true; the input reads as it did. -/
def fnSetHolderIDLastWinsSpec : ChangeSpec := { name := "fnSetHolderIDLastWins", fn := fun _ => fun
  | [d1, d2, d3] => { results := [.lit (.bool true)], args := [d1, d2, d3] }
  | _ => none }
def fnSetHolderIDLastWinsRow : OpenClaim := { program := "qxb6604611a", sum := "c0a4e6d25d8e32d7dc5d4aa96543c24eb9d01a0fd5146a0f35edf4b10262574e", func := "example.com/quorumveil/quorumveil/zzlaws_root_b1.FnSetHolderIDLastWins", spec := "fnSetHolderIDLastWins", apart := false }
def FnSetHolderIDLastWinsSaid : Prop := fnSetHolderIDLastWinsRow.holds Try.pinned (OpenSpec.ofChange fnSetHolderIDLastWinsSpec)

/-- ITS FALSE NEIGHBOUR: 'it returns false'. Refute it at one input. -/
def fnSetHolderIDLastWinsWrong : ChangeSpec := { name := "fnSetHolderIDLastWins", fn := fun _ => fun
  | [d1, d2, d3] => { results := [.lit (.bool false)], args := [d1, d2, d3] }
  | _ => none }
def FnSetHolderIDLastWinsWrongFalsely : Prop := fnSetHolderIDLastWinsRow.holds Try.pinned (OpenSpec.ofChange fnSetHolderIDLastWinsWrong)

/-- 'zzlaws_root_b1.FnCountingWriteAppendsAndCounts': WHATEVER THE INPUT: true; the input reads as it did. -/
def fnCountingWriteAppendsAndCountsSpec : ChangeSpec := { name := "fnCountingWriteAppendsAndCounts", fn := fun _ => fun
  | [d1, d2, d3] => { results := [.lit (.bool true)], args := [d1, d2, d3] }
  | _ => none }
def fnCountingWriteAppendsAndCountsRow : OpenClaim := { program := "qxb6604611a", sum := "c0a4e6d25d8e32d7dc5d4aa96543c24eb9d01a0fd5146a0f35edf4b10262574e", func := "example.com/quorumveil/quorumveil/zzlaws_root_b1.FnCountingWriteAppendsAndCounts", spec := "fnCountingWriteAppendsAndCounts", unfollowed := true, recurses := true, apart := false }
def FnCountingWriteAppendsAndCountsSaid : Prop := fnCountingWriteAppendsAndCountsRow.holds Try.pinned (OpenSpec.ofChange fnCountingWriteAppendsAndCountsSpec)

/-- ITS FALSE NEIGHBOUR: 'it returns false'. Refute it at one input. -/
def fnCountingWriteAppendsAndCountsWrong : ChangeSpec := { name := "fnCountingWriteAppendsAndCounts", fn := fun _ => fun
  | [d1, d2, d3] => { results := [.lit (.bool false)], args := [d1, d2, d3] }
  | _ => none }
def FnCountingWriteAppendsAndCountsWrongFalsely : Prop := fnCountingWriteAppendsAndCountsRow.holds Try.pinned (OpenSpec.ofChange fnCountingWriteAppendsAndCountsWrong)

/-- 'zzlaws_root_b1.FnCountingWriteScriptKeepsCount': WHATEVER THE INPUT: true; the input reads as it did. -/
def fnCountingWriteScriptKeepsCountSpec : ChangeSpec := { name := "fnCountingWriteScriptKeepsCount", fn := fun _ => fun
  | [d1, d2, d3] => { results := [.lit (.bool true)], args := [d1, d2, d3] }
  | _ => none }
def fnCountingWriteScriptKeepsCountRow : OpenClaim := { program := "qxb6604611a", sum := "c0a4e6d25d8e32d7dc5d4aa96543c24eb9d01a0fd5146a0f35edf4b10262574e", func := "example.com/quorumveil/quorumveil/zzlaws_root_b1.FnCountingWriteScriptKeepsCount", spec := "fnCountingWriteScriptKeepsCount", unfollowed := true, recurses := true, apart := false }
def FnCountingWriteScriptKeepsCountSaid : Prop := fnCountingWriteScriptKeepsCountRow.holds Try.pinned (OpenSpec.ofChange fnCountingWriteScriptKeepsCountSpec)

/-- ITS FALSE NEIGHBOUR: 'it returns false'. Refute it at one input. -/
def fnCountingWriteScriptKeepsCountWrong : ChangeSpec := { name := "fnCountingWriteScriptKeepsCount", fn := fun _ => fun
  | [d1, d2, d3] => { results := [.lit (.bool false)], args := [d1, d2, d3] }
  | _ => none }
def FnCountingWriteScriptKeepsCountWrongFalsely : Prop := fnCountingWriteScriptKeepsCountRow.holds Try.pinned (OpenSpec.ofChange fnCountingWriteScriptKeepsCountWrong)

end Rows
end Go.Proofs.Qxb6604611a
