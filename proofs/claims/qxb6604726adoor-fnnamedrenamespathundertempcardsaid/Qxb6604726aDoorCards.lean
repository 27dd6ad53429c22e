/-
  DERIVED. GIVEN WITH THE SEED: THE CARDS: each row of Qxb6604726aDoorRows.lean that lists a variable, with what it lists TIED to the program's text (the seventh form; the later family's looks); each row that meets fmt, with fmt's text TOLD by the authors' own Lean function (tested against real Go, not proved from fmt's source: count such statements apart). THE CARD IS WHAT COUNTS. Prove the row's statement (the work); the ties are given (Qxb6604726aDoorTie.lean); close each card by the builder's one call (the guide's Derived/Test/ToyasCard.lean, 'card_holds'). Laid BY PROGRAM, IN A SANDBOX (cutbox-door.mjs). By AI agents, Wed Nov 11 2026. No macro, syntax, notation, axiom, sorry.
-/
import Derived.Test.Qxb6604726aDoorRows
import GoSem.ClaimSeven
namespace Go.Proofs.Qxb6604726aDoor
namespace Rows

/-- THE TIED CARD OF 'zzlaws_internal_wholefile_b1.FnNamedRenamesPathUnderTemp'. -/
def fnNamedRenamesPathUnderTempCard : Claim7 := { stood := { row := fnNamedRenamesPathUnderTempRow, standIns := [], harness := (true, "cdc06e50b7ddb0716c3e26b8730deaedfa73103788415ee71c9a1a832d179904"), looks := true }, kinds := [], alts := [], laidByText := true, laidKinds := [.handle], laidTests := true, laidLooks := .later }
def FnNamedRenamesPathUnderTempCardSaid : Prop := Claim7.holds Tryd.pinned (.plain (OpenSpec.ofChange fnNamedRenamesPathUnderTempSpec)) fnNamedRenamesPathUnderTempCard

/-- THE TIED CARD OF 'zzlaws_internal_wholefile_b1.FnNamedReachesWrappedErrorAndRenamesBack'. -/
def fnNamedReachesWrappedErrorAndRenamesBackCard : Claim7 := { stood := { row := fnNamedReachesWrappedErrorAndRenamesBackRow, standIns := [], harness := (true, "cdc06e50b7ddb0716c3e26b8730deaedfa73103788415ee71c9a1a832d179904"), looks := true }, kinds := [], alts := [], laidByText := true, laidKinds := [.handle], laidTests := true, laidLooks := .later }
def FnNamedReachesWrappedErrorAndRenamesBackCardSaid : Prop := Claim7.holds Tryd.pinned (.plain (OpenSpec.ofChange fnNamedReachesWrappedErrorAndRenamesBackSpec)) fnNamedReachesWrappedErrorAndRenamesBackCard

/-- THE TIED CARD OF 'zzlaws_internal_wholefile_b1.FnRenameDirRefusesNameWithNUL'. -/
def fnRenameDirRefusesNameWithNULCard : Claim7 := { stood := { row := fnRenameDirRefusesNameWithNULRow, standIns := [], harness := (true, "cdc06e50b7ddb0716c3e26b8730deaedfa73103788415ee71c9a1a832d179904"), looks := true }, kinds := [], alts := [], laidByText := true, laidKinds := [.wider, .wider, .wider], laidTests := true, laidLooks := .later }
def FnRenameDirRefusesNameWithNULCardSaid : Prop := Claim7.holds Tryd.pinned (.plain (OpenSpec.ofChange fnRenameDirRefusesNameWithNULSpec)) fnRenameDirRefusesNameWithNULCard
end Rows
end Go.Proofs.Qxb6604726aDoor
