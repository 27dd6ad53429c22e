/-
  NARROWER THAN 'FOR EVERY INPUT', by the rows' own cells (each row's printed sentence says how): FnNamedRenamesPathUnderTemp: laid · FnNamedReachesWrappedErrorAndRenamesBack: laid · FnRenameDirRefusesNameWithNUL: laid.
  DERIVED. THE GIVEN ROWS OF THIS SEAT. 3 by the template 'for every input the law returns true; each argument reads behind the call as it read before'; 0 by the template 'total and deterministic' (their statements: Qxb6604726aDoorTotals.lean).
  GIVEN WITH THE SEED: the statements are not yours to turn. If you find one false, say at which input.
  Laid BY PROGRAM, IN A SANDBOX (cutbox-rows.mjs): the forced cells as the released guide's own fill.sh prints them over the translation 33ee68417950944c… (all of the seat's roots in one cut). By AI agents, Wed Nov 11 2026. No macro, syntax, notation, axiom, sorry.
-/
import Derived.Test.Qxb6604726aDoorChecked
import GoSem.Claim
import GoSem.ClaimJoined
import GoSem.ClaimMapViews
import Derived.JoinedTies
import Derived.KernelRfl
namespace Go.Proofs.Qxb6604726aDoor
/- THE CELL 'sum', in the pinned program and in every row, IS THE sha256 OF THE DUMP (.gsa) THAT Qxb6604726aDoorProg.lean LOADS. Nothing in Lean hashes anything: it is a label: what it is worth is what the hold of that sum in a sandbox is worth. -/
noncomputable def Tryd.pinned : Pinned := { name := "qxb6604726adoor", sum := "33ee68417950944cd157fa0039fbb331597206a181a534341337f8103b8cda3e", checked := Tryd.checked }
namespace Rows
def none {H : Type} : Left H := { results := [], args := [] }

/- WHAT THE LISTED PACKAGE-LEVEL VARIABLES READ AS WHEN THE CALL BEGINS. Each datum BY PROGRAM (the guide's laid-datum.mjs) off the statement by which the dump's own 'gosem.cut.vars' lays the variable. In a bare row this is a premise. The card (Qxb6604726aDoorCards.lean) ties it to the program's text. -/
def laid_errors_errorType {H : Type} : DataW H := .iface "internal/reflectlite.rtype" (.agg [.ptr (.lit (.string [101, 114, 114, 111, 114]))])
def laid_syscall_errEAGAIN {H : Type} : DataW H := .iface "syscall.Errno" (.lit (.int .u64 11))
def laid_syscall_errEINVAL {H : Type} : DataW H := .iface "syscall.Errno" (.lit (.int .u64 22))
def laid_syscall_errENOENT {H : Type} : DataW H := .iface "syscall.Errno" (.lit (.int .u64 2))

/-- 'zzlaws_internal_wholefile_b1.FnNamedRenamesPathUnderTemp': WHATEVER THE INPUT: true; the input reads as it did. -/
def fnNamedRenamesPathUnderTempSpec : ChangeSpec := { name := "fnNamedRenamesPathUnderTemp", fn := fun _ => fun
  | [d1, d2, d3, d4, d5] => { results := [.lit (.bool true)], args := [d1, d2, d3, d4, d5] }
  | _ => none }
def fnNamedRenamesPathUnderTempRow : OpenClaim := { program := "qxb6604726adoor", sum := "33ee68417950944cd157fa0039fbb331597206a181a534341337f8103b8cda3e", func := "example.com/tumulus/tumulus/zzlaws_internal_wholefile_b1.FnNamedRenamesPathUnderTemp", spec := "fnNamedRenamesPathUnderTemp", inPlace := ["internal/reflectlite.ValueOf", "(internal/reflectlite.Value).Type", "(internal/reflectlite.Value).IsNil", "internal/reflectlite.TypeOf", "(internal/reflectlite.Value).Elem", "(internal/reflectlite.Value).Set"], unfollowed := true, recurses := true, named := ["errors.errorType"], apart := false, laid := [("errors.errorType", laid_errors_errorType)] }
def FnNamedRenamesPathUnderTempSaid : Prop := fnNamedRenamesPathUnderTempRow.holds Tryd.pinned (OpenSpec.ofChange fnNamedRenamesPathUnderTempSpec)

/-- ITS FALSE NEIGHBOUR: 'it returns false'. Refute it at one input. -/
def fnNamedRenamesPathUnderTempWrong : ChangeSpec := { name := "fnNamedRenamesPathUnderTemp", fn := fun _ => fun
  | [d1, d2, d3, d4, d5] => { results := [.lit (.bool false)], args := [d1, d2, d3, d4, d5] }
  | _ => none }
def FnNamedRenamesPathUnderTempWrongFalsely : Prop := fnNamedRenamesPathUnderTempRow.holds Tryd.pinned (OpenSpec.ofChange fnNamedRenamesPathUnderTempWrong)

/-- 'zzlaws_internal_wholefile_b1.FnNamedReachesWrappedErrorAndRenamesBack': WHATEVER THE INPUT: true; the input reads as it did. -/
def fnNamedReachesWrappedErrorAndRenamesBackSpec : ChangeSpec := { name := "fnNamedReachesWrappedErrorAndRenamesBack", fn := fun _ => fun
  | [d1, d2, d3] => { results := [.lit (.bool true)], args := [d1, d2, d3] }
  | _ => none }
def fnNamedReachesWrappedErrorAndRenamesBackRow : OpenClaim := { program := "qxb6604726adoor", sum := "33ee68417950944cd157fa0039fbb331597206a181a534341337f8103b8cda3e", func := "example.com/tumulus/tumulus/zzlaws_internal_wholefile_b1.FnNamedReachesWrappedErrorAndRenamesBack", spec := "fnNamedReachesWrappedErrorAndRenamesBack", inPlace := ["internal/reflectlite.ValueOf", "(internal/reflectlite.Value).Type", "(internal/reflectlite.Value).IsNil", "internal/reflectlite.TypeOf", "(internal/reflectlite.Value).Elem", "(internal/reflectlite.Value).Set"], unfollowed := true, recurses := true, named := ["errors.errorType"], apart := false, laid := [("errors.errorType", laid_errors_errorType)] }
def FnNamedReachesWrappedErrorAndRenamesBackSaid : Prop := fnNamedReachesWrappedErrorAndRenamesBackRow.holds Tryd.pinned (OpenSpec.ofChange fnNamedReachesWrappedErrorAndRenamesBackSpec)

/-- ITS FALSE NEIGHBOUR: 'it returns false'. Refute it at one input. -/
def fnNamedReachesWrappedErrorAndRenamesBackWrong : ChangeSpec := { name := "fnNamedReachesWrappedErrorAndRenamesBack", fn := fun _ => fun
  | [d1, d2, d3] => { results := [.lit (.bool false)], args := [d1, d2, d3] }
  | _ => none }
def FnNamedReachesWrappedErrorAndRenamesBackWrongFalsely : Prop := fnNamedReachesWrappedErrorAndRenamesBackRow.holds Tryd.pinned (OpenSpec.ofChange fnNamedReachesWrappedErrorAndRenamesBackWrong)

/-- 'zzlaws_internal_wholefile_b1.FnRenameDirRefusesNameWithNUL': WHATEVER THE INPUT: true; the input reads as it did. -/
def fnRenameDirRefusesNameWithNULSpec : ChangeSpec := { name := "fnRenameDirRefusesNameWithNUL", fn := fun _ => fun
  | [d1, d2] => { results := [.lit (.bool true)], args := [d1, d2] }
  | _ => none }
def fnRenameDirRefusesNameWithNULRow : OpenClaim := { program := "qxb6604726adoor", sum := "33ee68417950944cd157fa0039fbb331597206a181a534341337f8103b8cda3e", func := "example.com/tumulus/tumulus/zzlaws_internal_wholefile_b1.FnRenameDirRefusesNameWithNUL", spec := "fnRenameDirRefusesNameWithNUL", inPlace := ["internal/bytealg.IndexByteString", "syscall.runtime_entersyscall", "internal/runtime/syscall/linux.Syscall6", "syscall.runtime_exitsyscall"], unfollowed := true, recurses := true, named := ["syscall.errEAGAIN", "syscall.errEINVAL", "syscall.errENOENT"], apart := false, laid := [("syscall.errEAGAIN", laid_syscall_errEAGAIN), ("syscall.errEINVAL", laid_syscall_errEINVAL), ("syscall.errENOENT", laid_syscall_errENOENT)] }
def FnRenameDirRefusesNameWithNULSaid : Prop := fnRenameDirRefusesNameWithNULRow.holds Tryd.pinned (OpenSpec.ofChange fnRenameDirRefusesNameWithNULSpec)

/-- ITS FALSE NEIGHBOUR: 'it returns false'. Refute it at one input. -/
def fnRenameDirRefusesNameWithNULWrong : ChangeSpec := { name := "fnRenameDirRefusesNameWithNUL", fn := fun _ => fun
  | [d1, d2] => { results := [.lit (.bool false)], args := [d1, d2] }
  | _ => none }
def FnRenameDirRefusesNameWithNULWrongFalsely : Prop := fnRenameDirRefusesNameWithNULRow.holds Tryd.pinned (OpenSpec.ofChange fnRenameDirRefusesNameWithNULWrong)

end Rows
end Go.Proofs.Qxb6604726aDoor
