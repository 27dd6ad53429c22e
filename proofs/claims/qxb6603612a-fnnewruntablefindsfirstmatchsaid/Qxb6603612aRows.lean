/-
  No cell of these rows narrows 'for every input' (looked for: loops, veiled, ifaces, maps, wideKeys, modest, calm, conditions, laid).
  DERIVED. THE GIVEN ROWS OF THIS SEAT. 2 by the template 'for every input the law returns true; each argument reads behind the call as it read before'; 0 by the template 'total and deterministic' (their statements: Qxb6603612aTotals.lean).
  GIVEN WITH THE SEED: the statements are not yours to turn. If you find one false, say at which input.
  Laid BY PROGRAM, IN A SANDBOX (cutbox-rows.mjs): the forced cells as the released guide's own fill.sh prints them over the translation 58ac0fc243e31bc3… (all of the seat's roots in one cut). By AI agents, Wed Nov 11 2026. No macro, syntax, notation, axiom, sorry.
-/
import Derived.Test.Qxb6603612aChecked
import GoSem.Claim
import GoSem.ClaimJoined
import GoSem.ClaimMapViews
import Derived.JoinedTies
import Derived.KernelRfl
namespace Go.Proofs.Qxb6603612a
/- THE CELL 'sum', in the pinned program and in every row, IS THE sha256 OF THE DUMP (.gsa) THAT Qxb6603612aProg.lean LOADS. Nothing in Lean hashes anything: it is a label: what it is worth is what the hold of that sum in a sandbox is worth. -/
noncomputable def Try.pinned : Pinned := { name := "qxb6603612a", sum := "58ac0fc243e31bc3704c2ef019864361ac4481e4ecb5080edbc8b76af48da402", checked := Try.checked }
namespace Rows
def none {H : Type} : Left H := { results := [], args := [] }

/-- 'zzlaws_root_b1.FnNewRunBordersExact': WHATEVER THE INPUT: true; the input reads as it did. -/
def fnNewRunBordersExactSpec : ChangeSpec := { name := "fnNewRunBordersExact", fn := fun _ => fun
  | [d] => { results := [.lit (.bool true)], args := [d] }
  | _ => none }
def fnNewRunBordersExactRow : OpenClaim := { program := "qxb6603612a", sum := "58ac0fc243e31bc3704c2ef019864361ac4481e4ecb5080edbc8b76af48da402", func := "example.com/writ/writ/zzlaws_root_b1.FnNewRunBordersExact", spec := "fnNewRunBordersExact", apart := false }
def FnNewRunBordersExactSaid : Prop := fnNewRunBordersExactRow.holds Try.pinned (OpenSpec.ofChange fnNewRunBordersExactSpec)

/-- ITS FALSE NEIGHBOUR: 'it returns false'. Refute it at one input. -/
def fnNewRunBordersExactWrong : ChangeSpec := { name := "fnNewRunBordersExact", fn := fun _ => fun
  | [d] => { results := [.lit (.bool false)], args := [d] }
  | _ => none }
def FnNewRunBordersExactWrongFalsely : Prop := fnNewRunBordersExactRow.holds Try.pinned (OpenSpec.ofChange fnNewRunBordersExactWrong)

/-- 'zzlaws_root_b1.FnNewRunTableFindsFirstMatch': WHATEVER THE INPUT: true; the input reads as it did. -/
def fnNewRunTableFindsFirstMatchSpec : ChangeSpec := { name := "fnNewRunTableFindsFirstMatch", fn := fun _ => fun
  | [d1, d2] => { results := [.lit (.bool true)], args := [d1, d2] }
  | _ => none }
def fnNewRunTableFindsFirstMatchRow : OpenClaim := { program := "qxb6603612a", sum := "58ac0fc243e31bc3704c2ef019864361ac4481e4ecb5080edbc8b76af48da402", func := "example.com/writ/writ/zzlaws_root_b1.FnNewRunTableFindsFirstMatch", spec := "fnNewRunTableFindsFirstMatch", apart := false }
def FnNewRunTableFindsFirstMatchSaid : Prop := fnNewRunTableFindsFirstMatchRow.holds Try.pinned (OpenSpec.ofChange fnNewRunTableFindsFirstMatchSpec)

/-- ITS FALSE NEIGHBOUR: 'it returns false'. Refute it at one input. -/
def fnNewRunTableFindsFirstMatchWrong : ChangeSpec := { name := "fnNewRunTableFindsFirstMatch", fn := fun _ => fun
  | [d1, d2] => { results := [.lit (.bool false)], args := [d1, d2] }
  | _ => none }
def FnNewRunTableFindsFirstMatchWrongFalsely : Prop := fnNewRunTableFindsFirstMatchRow.holds Try.pinned (OpenSpec.ofChange fnNewRunTableFindsFirstMatchWrong)

end Rows
end Go.Proofs.Qxb6603612a
