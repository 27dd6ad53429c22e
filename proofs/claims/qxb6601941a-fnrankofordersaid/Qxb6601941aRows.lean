/-
  No cell of these rows narrows 'for every input' (looked for: loops, veiled, ifaces, maps, wideKeys, modest, calm, conditions, laid).
  DERIVED. THE GIVEN ROWS OF THIS SEAT. 4 by the template 'for every input the law returns true; each argument reads behind the call as it read before'; 0 by the template 'total and deterministic' (their statements: Qxb6601941aTotals.lean).
  GIVEN WITH THE SEED: the statements are not yours to turn. If you find one false, say at which input.
  Laid BY PROGRAM, IN A SANDBOX (cutbox-rows.mjs): the forced cells as the released guide's own fill.sh prints them over the translation 4c965a2f63c744fb… (all of the seat's roots in one cut). By AI agents, Wed Nov 11 2026. No macro, syntax, notation, axiom, sorry.
-/
import Derived.Test.Qxb6601941aChecked
import GoSem.Claim
import GoSem.ClaimJoined
import GoSem.ClaimMapViews
import Derived.JoinedTies
import Derived.KernelRfl
namespace Go.Proofs.Qxb6601941a
/- THE CELL 'sum', in the pinned program and in every row, IS THE sha256 OF THE DUMP (.gsa) THAT Qxb6601941aProg.lean LOADS. Nothing in Lean hashes anything: it is a label: what it is worth is what the hold of that sum in a sandbox is worth. -/
noncomputable def Try.pinned : Pinned := { name := "qxb6601941a", sum := "4c965a2f63c744fb8a2b15b6b9f9cf6ccc27547843e6381270eb1d2226ec626f", checked := Try.checked }
namespace Rows
def none {H : Type} : Left H := { results := [], args := [] }

/-- 'zzlaws_store_b1.FnAdmitsConvex': WHATEVER THE INPUT: true; the input reads as it did. -/
def fnAdmitsConvexSpec : ChangeSpec := { name := "fnAdmitsConvex", fn := fun _ => fun
  | [d1, d2, d3, d4, d5, d6, d7, d8, d9, d10] => { results := [.lit (.bool true)], args := [d1, d2, d3, d4, d5, d6, d7, d8, d9, d10] }
  | _ => none }
def fnAdmitsConvexRow : OpenClaim := { program := "qxb6601941a", sum := "4c965a2f63c744fb8a2b15b6b9f9cf6ccc27547843e6381270eb1d2226ec626f", func := "example.com/commitward/commitward/zzlaws_store_b1.FnAdmitsConvex", spec := "fnAdmitsConvex", apart := false }
def FnAdmitsConvexSaid : Prop := fnAdmitsConvexRow.holds Try.pinned (OpenSpec.ofChange fnAdmitsConvexSpec)

/-- ITS FALSE NEIGHBOUR: 'it returns false'. Refute it at one input. -/
def fnAdmitsConvexWrong : ChangeSpec := { name := "fnAdmitsConvex", fn := fun _ => fun
  | [d1, d2, d3, d4, d5, d6, d7, d8, d9, d10] => { results := [.lit (.bool false)], args := [d1, d2, d3, d4, d5, d6, d7, d8, d9, d10] }
  | _ => none }
def FnAdmitsConvexWrongFalsely : Prop := fnAdmitsConvexRow.holds Try.pinned (OpenSpec.ofChange fnAdmitsConvexWrong)

/-- 'zzlaws_store_b1.FnAdmitsLooserVote': WHATEVER THE INPUT: true; the input reads as it did. -/
def fnAdmitsLooserVoteSpec : ChangeSpec := { name := "fnAdmitsLooserVote", fn := fun _ => fun
  | [d1, d2, d3, d4, d5, d6, d7, d8, d9, d10, d11, d12] => { results := [.lit (.bool true)], args := [d1, d2, d3, d4, d5, d6, d7, d8, d9, d10, d11, d12] }
  | _ => none }
def fnAdmitsLooserVoteRow : OpenClaim := { program := "qxb6601941a", sum := "4c965a2f63c744fb8a2b15b6b9f9cf6ccc27547843e6381270eb1d2226ec626f", func := "example.com/commitward/commitward/zzlaws_store_b1.FnAdmitsLooserVote", spec := "fnAdmitsLooserVote", apart := false }
def FnAdmitsLooserVoteSaid : Prop := fnAdmitsLooserVoteRow.holds Try.pinned (OpenSpec.ofChange fnAdmitsLooserVoteSpec)

/-- ITS FALSE NEIGHBOUR: 'it returns false'. Refute it at one input. -/
def fnAdmitsLooserVoteWrong : ChangeSpec := { name := "fnAdmitsLooserVote", fn := fun _ => fun
  | [d1, d2, d3, d4, d5, d6, d7, d8, d9, d10, d11, d12] => { results := [.lit (.bool false)], args := [d1, d2, d3, d4, d5, d6, d7, d8, d9, d10, d11, d12] }
  | _ => none }
def FnAdmitsLooserVoteWrongFalsely : Prop := fnAdmitsLooserVoteRow.holds Try.pinned (OpenSpec.ofChange fnAdmitsLooserVoteWrong)

/-- 'zzlaws_store_b1.FnRankOfIgnoresAllButAddsOnlyAndSnapshot': WHATEVER THE INPUT: true; the input reads as it did. -/
def fnRankOfIgnoresAllButAddsOnlyAndSnapshotSpec : ChangeSpec := { name := "fnRankOfIgnoresAllButAddsOnlyAndSnapshot", fn := fun _ => fun
  | [d1, d2, d3, d4, d5, d6, d7, d8, d9, d10, d11, d12] => { results := [.lit (.bool true)], args := [d1, d2, d3, d4, d5, d6, d7, d8, d9, d10, d11, d12] }
  | _ => none }
def fnRankOfIgnoresAllButAddsOnlyAndSnapshotRow : OpenClaim := { program := "qxb6601941a", sum := "4c965a2f63c744fb8a2b15b6b9f9cf6ccc27547843e6381270eb1d2226ec626f", func := "example.com/commitward/commitward/zzlaws_store_b1.FnRankOfIgnoresAllButAddsOnlyAndSnapshot", spec := "fnRankOfIgnoresAllButAddsOnlyAndSnapshot", apart := false }
def FnRankOfIgnoresAllButAddsOnlyAndSnapshotSaid : Prop := fnRankOfIgnoresAllButAddsOnlyAndSnapshotRow.holds Try.pinned (OpenSpec.ofChange fnRankOfIgnoresAllButAddsOnlyAndSnapshotSpec)

/-- ITS FALSE NEIGHBOUR: 'it returns false'. Refute it at one input. -/
def fnRankOfIgnoresAllButAddsOnlyAndSnapshotWrong : ChangeSpec := { name := "fnRankOfIgnoresAllButAddsOnlyAndSnapshot", fn := fun _ => fun
  | [d1, d2, d3, d4, d5, d6, d7, d8, d9, d10, d11, d12] => { results := [.lit (.bool false)], args := [d1, d2, d3, d4, d5, d6, d7, d8, d9, d10, d11, d12] }
  | _ => none }
def FnRankOfIgnoresAllButAddsOnlyAndSnapshotWrongFalsely : Prop := fnRankOfIgnoresAllButAddsOnlyAndSnapshotRow.holds Try.pinned (OpenSpec.ofChange fnRankOfIgnoresAllButAddsOnlyAndSnapshotWrong)

/-- 'zzlaws_store_b1.FnRankOfOrder': WHATEVER THE INPUT: true; the input reads as it did. -/
def fnRankOfOrderSpec : ChangeSpec := { name := "fnRankOfOrder", fn := fun _ => fun
  | [d1, d2, d3, d4] => { results := [.lit (.bool true)], args := [d1, d2, d3, d4] }
  | _ => none }
def fnRankOfOrderRow : OpenClaim := { program := "qxb6601941a", sum := "4c965a2f63c744fb8a2b15b6b9f9cf6ccc27547843e6381270eb1d2226ec626f", func := "example.com/commitward/commitward/zzlaws_store_b1.FnRankOfOrder", spec := "fnRankOfOrder", apart := false }
def FnRankOfOrderSaid : Prop := fnRankOfOrderRow.holds Try.pinned (OpenSpec.ofChange fnRankOfOrderSpec)

/-- ITS FALSE NEIGHBOUR: 'it returns false'. Refute it at one input. -/
def fnRankOfOrderWrong : ChangeSpec := { name := "fnRankOfOrder", fn := fun _ => fun
  | [d1, d2, d3, d4] => { results := [.lit (.bool false)], args := [d1, d2, d3, d4] }
  | _ => none }
def FnRankOfOrderWrongFalsely : Prop := fnRankOfOrderRow.holds Try.pinned (OpenSpec.ofChange fnRankOfOrderWrong)

end Rows
end Go.Proofs.Qxb6601941a
