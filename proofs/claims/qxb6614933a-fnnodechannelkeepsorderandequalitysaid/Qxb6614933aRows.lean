/-
  No cell of these rows narrows 'for every input' (looked for: loops, veiled, ifaces, maps, wideKeys, modest, calm, conditions, laid).
  DERIVED. THE GIVEN ROWS OF THIS SEAT. 2 by the template 'for every input the law returns true; each argument reads behind the call as it read before'; 0 by the template 'total and deterministic' (their statements: Qxb6614933aTotals.lean).
  GIVEN WITH THE SEED: the statements are not yours to turn. If you find one false, say at which input.
  Laid BY PROGRAM, IN A SANDBOX (cutbox-rows.mjs): the forced cells as the released guide's own fill.sh prints them over the translation 0e2c3e2092b6a2ae… (all of the seat's roots in one cut). By AI agents, Wed Nov 11 2026. No macro, syntax, notation, axiom, sorry.
-/
import Derived.Test.Qxb6614933aChecked
import GoSem.Claim
import GoSem.ClaimJoined
import GoSem.ClaimMapViews
import Derived.JoinedTies
import Derived.KernelRfl
namespace Go.Proofs.Qxb6614933a
/- THE CELL 'sum', in the pinned program and in every row, IS THE sha256 OF THE DUMP (.gsa) THAT Qxb6614933aProg.lean LOADS. Nothing in Lean hashes anything: it is a label: what it is worth is what the hold of that sum in a sandbox is worth. -/
noncomputable def Try.pinned : Pinned := { name := "qxb6614933a", sum := "0e2c3e2092b6a2ae4810176fb2b38d943776b5f130788ba2f6570cfe3aef5145", checked := Try.checked }
namespace Rows
def none {H : Type} : Left H := { results := [], args := [] }

/-- 'zzlaws_internal_cluster_b1.FnNodeChannelJoinsAtAnyCut': WHATEVER THE INPUT: true; the input reads as it did. -/
def fnNodeChannelJoinsAtAnyCutSpec : ChangeSpec := { name := "fnNodeChannelJoinsAtAnyCut", fn := fun _ => fun
  | [d1, d2] => { results := [.lit (.bool true)], args := [d1, d2] }
  | _ => none }
def fnNodeChannelJoinsAtAnyCutRow : OpenClaim := { program := "qxb6614933a", sum := "0e2c3e2092b6a2ae4810176fb2b38d943776b5f130788ba2f6570cfe3aef5145", func := "example.com/gatelatch/gatelatch/zzlaws_internal_cluster_b1.FnNodeChannelJoinsAtAnyCut", spec := "fnNodeChannelJoinsAtAnyCut", apart := false }
def FnNodeChannelJoinsAtAnyCutSaid : Prop := fnNodeChannelJoinsAtAnyCutRow.holds Try.pinned (OpenSpec.ofChange fnNodeChannelJoinsAtAnyCutSpec)

/-- ITS FALSE NEIGHBOUR: 'it returns false'. Refute it at one input. -/
def fnNodeChannelJoinsAtAnyCutWrong : ChangeSpec := { name := "fnNodeChannelJoinsAtAnyCut", fn := fun _ => fun
  | [d1, d2] => { results := [.lit (.bool false)], args := [d1, d2] }
  | _ => none }
def FnNodeChannelJoinsAtAnyCutWrongFalsely : Prop := fnNodeChannelJoinsAtAnyCutRow.holds Try.pinned (OpenSpec.ofChange fnNodeChannelJoinsAtAnyCutWrong)

/-- 'zzlaws_internal_cluster_b1.FnNodeChannelKeepsOrderAndEquality': WHATEVER THE INPUT: true; the input reads as it did. -/
def fnNodeChannelKeepsOrderAndEqualitySpec : ChangeSpec := { name := "fnNodeChannelKeepsOrderAndEquality", fn := fun _ => fun
  | [d1, d2] => { results := [.lit (.bool true)], args := [d1, d2] }
  | _ => none }
def fnNodeChannelKeepsOrderAndEqualityRow : OpenClaim := { program := "qxb6614933a", sum := "0e2c3e2092b6a2ae4810176fb2b38d943776b5f130788ba2f6570cfe3aef5145", func := "example.com/gatelatch/gatelatch/zzlaws_internal_cluster_b1.FnNodeChannelKeepsOrderAndEquality", spec := "fnNodeChannelKeepsOrderAndEquality", apart := false }
def FnNodeChannelKeepsOrderAndEqualitySaid : Prop := fnNodeChannelKeepsOrderAndEqualityRow.holds Try.pinned (OpenSpec.ofChange fnNodeChannelKeepsOrderAndEqualitySpec)

/-- ITS FALSE NEIGHBOUR: 'it returns false'. Refute it at one input. -/
def fnNodeChannelKeepsOrderAndEqualityWrong : ChangeSpec := { name := "fnNodeChannelKeepsOrderAndEquality", fn := fun _ => fun
  | [d1, d2] => { results := [.lit (.bool false)], args := [d1, d2] }
  | _ => none }
def FnNodeChannelKeepsOrderAndEqualityWrongFalsely : Prop := fnNodeChannelKeepsOrderAndEqualityRow.holds Try.pinned (OpenSpec.ofChange fnNodeChannelKeepsOrderAndEqualityWrong)

end Rows
end Go.Proofs.Qxb6614933a
