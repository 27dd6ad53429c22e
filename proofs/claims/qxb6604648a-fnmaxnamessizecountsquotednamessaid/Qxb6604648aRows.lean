/-
  No cell of these rows narrows 'for every input' (looked for: loops, veiled, ifaces, maps, wideKeys, modest, calm, conditions, laid).
  DERIVED. THE GIVEN ROWS OF THIS SEAT. 2 by the template 'for every input the law returns true; each argument reads behind the call as it read before'; 0 by the template 'total and deterministic' (their statements: Qxb6604648aTotals.lean).
  GIVEN WITH THE SEED: the statements are not yours to turn. If you find one false, say at which input.
  Laid BY PROGRAM, IN A SANDBOX (cutbox-rows.mjs): the forced cells as the released guide's own fill.sh prints them over the translation 98285a9b94ef7bb3… (all of the seat's roots in one cut). By AI agents, Wed Nov 11 2026. No macro, syntax, notation, axiom, sorry.
-/
import Derived.Test.Qxb6604648aChecked
import GoSem.Claim
import GoSem.ClaimJoined
import GoSem.ClaimMapViews
import Derived.JoinedTies
import Derived.KernelRfl
namespace Go.Proofs.Qxb6604648a
/- THE CELL 'sum', in the pinned program and in every row, IS THE sha256 OF THE DUMP (.gsa) THAT Qxb6604648aProg.lean LOADS. Nothing in Lean hashes anything: it is a label: what it is worth is what the hold of that sum in a sandbox is worth. -/
noncomputable def Try.pinned : Pinned := { name := "qxb6604648a", sum := "98285a9b94ef7bb3d9e6c775317b9d39bc8ed3bb840e15597087f8f69a03d111", checked := Try.checked }
namespace Rows
def none {H : Type} : Left H := { results := [], args := [] }

/-- 'zzlaws_internal_protocol_b1.FnMaxNamesSizeCountsQuotedNames': WHATEVER THE INPUT: true; the input reads as it did. -/
def fnMaxNamesSizeCountsQuotedNamesSpec : ChangeSpec := { name := "fnMaxNamesSizeCountsQuotedNames", fn := fun _ => fun
  | [d] => { results := [.lit (.bool true)], args := [d] }
  | _ => none }
def fnMaxNamesSizeCountsQuotedNamesRow : OpenClaim := { program := "qxb6604648a", sum := "98285a9b94ef7bb3d9e6c775317b9d39bc8ed3bb840e15597087f8f69a03d111", func := "example.com/cairnsync/cairnsync/zzlaws_internal_protocol_b1.FnMaxNamesSizeCountsQuotedNames", spec := "fnMaxNamesSizeCountsQuotedNames", apart := false }
def FnMaxNamesSizeCountsQuotedNamesSaid : Prop := fnMaxNamesSizeCountsQuotedNamesRow.holds Try.pinned (OpenSpec.ofChange fnMaxNamesSizeCountsQuotedNamesSpec)

/-- ITS FALSE NEIGHBOUR: 'it returns false'. Refute it at one input. -/
def fnMaxNamesSizeCountsQuotedNamesWrong : ChangeSpec := { name := "fnMaxNamesSizeCountsQuotedNames", fn := fun _ => fun
  | [d] => { results := [.lit (.bool false)], args := [d] }
  | _ => none }
def FnMaxNamesSizeCountsQuotedNamesWrongFalsely : Prop := fnMaxNamesSizeCountsQuotedNamesRow.holds Try.pinned (OpenSpec.ofChange fnMaxNamesSizeCountsQuotedNamesWrong)

/-- 'zzlaws_internal_protocol_b1.FnMaxNamesSizeAddsUp': WHATEVER THE INPUT: true; the input reads as it did. -/
def fnMaxNamesSizeAddsUpSpec : ChangeSpec := { name := "fnMaxNamesSizeAddsUp", fn := fun _ => fun
  | [d1, d2] => { results := [.lit (.bool true)], args := [d1, d2] }
  | _ => none }
def fnMaxNamesSizeAddsUpRow : OpenClaim := { program := "qxb6604648a", sum := "98285a9b94ef7bb3d9e6c775317b9d39bc8ed3bb840e15597087f8f69a03d111", func := "example.com/cairnsync/cairnsync/zzlaws_internal_protocol_b1.FnMaxNamesSizeAddsUp", spec := "fnMaxNamesSizeAddsUp", apart := false }
def FnMaxNamesSizeAddsUpSaid : Prop := fnMaxNamesSizeAddsUpRow.holds Try.pinned (OpenSpec.ofChange fnMaxNamesSizeAddsUpSpec)

/-- ITS FALSE NEIGHBOUR: 'it returns false'. Refute it at one input. -/
def fnMaxNamesSizeAddsUpWrong : ChangeSpec := { name := "fnMaxNamesSizeAddsUp", fn := fun _ => fun
  | [d1, d2] => { results := [.lit (.bool false)], args := [d1, d2] }
  | _ => none }
def FnMaxNamesSizeAddsUpWrongFalsely : Prop := fnMaxNamesSizeAddsUpRow.holds Try.pinned (OpenSpec.ofChange fnMaxNamesSizeAddsUpWrong)

end Rows
end Go.Proofs.Qxb6604648a
