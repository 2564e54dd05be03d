/-
  No cell of these rows narrows 'for every input' (looked for: loops, veiled, ifaces, maps, wideKeys, modest, calm, conditions, laid).
  DERIVED. THE GIVEN ROWS OF THIS SEAT. 1 by the template 'for every input the law returns true; each argument reads behind the call as it read before'; 0 by the template 'total and deterministic' (their statements: Qxb6614872aTotals.lean).
  GIVEN WITH THE SEED: the statements are not yours to turn. If you find one false, say at which input.
  Laid BY PROGRAM, IN A SANDBOX (cutbox-rows.mjs): the forced cells as the released guide's own fill.sh prints them over the translation 0375875ac3523440… (all of the seat's roots in one cut). By AI agents, Wed Nov 11 2026. No macro, syntax, notation, axiom, sorry.
-/
import Derived.Test.Qxb6614872aChecked
import GoSem.Claim
import GoSem.ClaimJoined
import GoSem.ClaimMapViews
import Derived.JoinedTies
import Derived.KernelRfl
namespace Go.Proofs.Qxb6614872a
/- THE CELL 'sum', in the pinned program and in every row, IS THE sha256 OF THE DUMP (.gsa) THAT Qxb6614872aProg.lean LOADS. Nothing in Lean hashes anything: it is a label: what it is worth is what the hold of that sum in a sandbox is worth. -/
noncomputable def Try.pinned : Pinned := { name := "qxb6614872a", sum := "0375875ac3523440530ed3dc02151c89c5830de95359683fd2a38fcc66289742", checked := Try.checked }
namespace Rows
def none {H : Type} : Left H := { results := [], args := [] }

/-- 'zzlaws_internal_xcap_b1.FnLockOneByteAnyPlace': WHATEVER THE INPUT: true; the input reads as it did. -/
def fnLockOneByteAnyPlaceSpec : ChangeSpec := { name := "fnLockOneByteAnyPlace", fn := fun _ => fun
  | [d1, d2, d3, d4] => { results := [.lit (.bool true)], args := [d1, d2, d3, d4] }
  | _ => none }
def fnLockOneByteAnyPlaceRow : OpenClaim := { program := "qxb6614872a", sum := "0375875ac3523440530ed3dc02151c89c5830de95359683fd2a38fcc66289742", func := "example.com/wulfgar/wulfgar/zzlaws_internal_xcap_b1.FnLockOneByteAnyPlace", spec := "fnLockOneByteAnyPlace", unfollowed := true, recurses := true, apart := false }
def FnLockOneByteAnyPlaceSaid : Prop := fnLockOneByteAnyPlaceRow.holds Try.pinned (OpenSpec.ofChange fnLockOneByteAnyPlaceSpec)

/-- ITS FALSE NEIGHBOUR: 'it returns false'. Refute it at one input. -/
def fnLockOneByteAnyPlaceWrong : ChangeSpec := { name := "fnLockOneByteAnyPlace", fn := fun _ => fun
  | [d1, d2, d3, d4] => { results := [.lit (.bool false)], args := [d1, d2, d3, d4] }
  | _ => none }
def FnLockOneByteAnyPlaceWrongFalsely : Prop := fnLockOneByteAnyPlaceRow.holds Try.pinned (OpenSpec.ofChange fnLockOneByteAnyPlaceWrong)

end Rows
end Go.Proofs.Qxb6614872a
