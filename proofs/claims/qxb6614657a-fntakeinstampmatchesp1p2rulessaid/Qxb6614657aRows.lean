/-
  No cell of these rows narrows 'for every input' (looked for: loops, veiled, ifaces, maps, wideKeys, modest, calm, conditions, laid).
  DERIVED. THE GIVEN ROWS OF THIS SEAT. 2 by the template 'for every input the law returns true; each argument reads behind the call as it read before'; 0 by the template 'total and deterministic' (their statements: Qxb6614657aTotals.lean).
  GIVEN WITH THE SEED: the statements are not yours to turn. If you find one false, say at which input.
  Laid BY PROGRAM, IN A SANDBOX (cutbox-rows.mjs): the forced cells as the released guide's own fill.sh prints them over the translation 2e01daca9e3297b9… (all of the seat's roots in one cut). By AI agents, Wed Nov 11 2026. No macro, syntax, notation, axiom, sorry.
-/
import Derived.Test.Qxb6614657aChecked
import GoSem.Claim
import GoSem.ClaimJoined
import GoSem.ClaimMapViews
import Derived.JoinedTies
import Derived.KernelRfl
namespace Go.Proofs.Qxb6614657a
/- THE CELL 'sum', in the pinned program and in every row, IS THE sha256 OF THE DUMP (.gsa) THAT Qxb6614657aProg.lean LOADS. Nothing in Lean hashes anything: it is a label: what it is worth is what the hold of that sum in a sandbox is worth. -/
noncomputable def Try.pinned : Pinned := { name := "qxb6614657a", sum := "2e01daca9e3297b92d59d7a3af03bc3f7e03be31f09f071aad143fa21467708c", checked := Try.checked }
namespace Rows
def none {H : Type} : Left H := { results := [], args := [] }

/-- 'zzlaws_root_b1.FnTakeInStampMatchesP1P2Rules': WHATEVER THE INPUT: true; the input reads as it did. -/
def fnTakeInStampMatchesP1P2RulesSpec : ChangeSpec := { name := "fnTakeInStampMatchesP1P2Rules", fn := fun _ => fun
  | [d1, d2, d3, d4, d5, d6, d7, d8, d9, d10, d11, d12] => { results := [.lit (.bool true)], args := [d1, d2, d3, d4, d5, d6, d7, d8, d9, d10, d11, d12] }
  | _ => none }
def fnTakeInStampMatchesP1P2RulesRow : OpenClaim := { program := "qxb6614657a", sum := "2e01daca9e3297b92d59d7a3af03bc3f7e03be31f09f071aad143fa21467708c", func := "example.com/antecede/antecede/zzlaws_root_b1.FnTakeInStampMatchesP1P2Rules", spec := "fnTakeInStampMatchesP1P2Rules", inPlace := ["slices.overlaps[example.com/antecede/antecede.stampEntry]"], unfollowed := true, recurses := true, apart := false }
def FnTakeInStampMatchesP1P2RulesSaid : Prop := fnTakeInStampMatchesP1P2RulesRow.holds Try.pinned (OpenSpec.ofChange fnTakeInStampMatchesP1P2RulesSpec)

/-- ITS FALSE NEIGHBOUR: 'it returns false'. Refute it at one input. -/
def fnTakeInStampMatchesP1P2RulesWrong : ChangeSpec := { name := "fnTakeInStampMatchesP1P2Rules", fn := fun _ => fun
  | [d1, d2, d3, d4, d5, d6, d7, d8, d9, d10, d11, d12] => { results := [.lit (.bool false)], args := [d1, d2, d3, d4, d5, d6, d7, d8, d9, d10, d11, d12] }
  | _ => none }
def FnTakeInStampMatchesP1P2RulesWrongFalsely : Prop := fnTakeInStampMatchesP1P2RulesRow.holds Try.pinned (OpenSpec.ofChange fnTakeInStampMatchesP1P2RulesWrong)

/-- 'zzlaws_root_b1.FnTakeInStampIdempotent': WHATEVER THE INPUT: true; the input reads as it did. -/
def fnTakeInStampIdempotentSpec : ChangeSpec := { name := "fnTakeInStampIdempotent", fn := fun _ => fun
  | [d1, d2, d3, d4, d5, d6, d7, d8, d9, d10, d11, d12] => { results := [.lit (.bool true)], args := [d1, d2, d3, d4, d5, d6, d7, d8, d9, d10, d11, d12] }
  | _ => none }
def fnTakeInStampIdempotentRow : OpenClaim := { program := "qxb6614657a", sum := "2e01daca9e3297b92d59d7a3af03bc3f7e03be31f09f071aad143fa21467708c", func := "example.com/antecede/antecede/zzlaws_root_b1.FnTakeInStampIdempotent", spec := "fnTakeInStampIdempotent", inPlace := ["slices.overlaps[example.com/antecede/antecede.stampEntry]"], unfollowed := true, recurses := true, apart := false }
def FnTakeInStampIdempotentSaid : Prop := fnTakeInStampIdempotentRow.holds Try.pinned (OpenSpec.ofChange fnTakeInStampIdempotentSpec)

/-- ITS FALSE NEIGHBOUR: 'it returns false'. Refute it at one input. -/
def fnTakeInStampIdempotentWrong : ChangeSpec := { name := "fnTakeInStampIdempotent", fn := fun _ => fun
  | [d1, d2, d3, d4, d5, d6, d7, d8, d9, d10, d11, d12] => { results := [.lit (.bool false)], args := [d1, d2, d3, d4, d5, d6, d7, d8, d9, d10, d11, d12] }
  | _ => none }
def FnTakeInStampIdempotentWrongFalsely : Prop := fnTakeInStampIdempotentRow.holds Try.pinned (OpenSpec.ofChange fnTakeInStampIdempotentWrong)

end Rows
end Go.Proofs.Qxb6614657a
