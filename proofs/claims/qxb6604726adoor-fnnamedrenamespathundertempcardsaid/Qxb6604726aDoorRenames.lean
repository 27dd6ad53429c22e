/-
  Seat b6604726aD: 'Rows.FnNamedRenamesPathUnderTempSaid' (the row) and 'Rows.FnNamedRenamesPathUnderTempCardSaid' (the tied card) proved. After the guide's worked text Toyas (Derived/Test/ToyasProofs.lean, ToyasCard.lean), turned to this program.
-/
import Derived.Test.Qxb6604726aDoorRows
import Derived.Test.Qxb6604726aDoorTie
import Derived.Test.Qxb6604726aDoorCards
import Derived.Test.Qxb6604726aDoorLaw
import Derived.WalkKit
import Derived.ProofKit
import Derived.OpenShut
import Derived.ShutString
import Derived.ChangeSame
import Derived.ChangeVars
import Derived.JoinedOf
import Derived.RowKit
import Derived.RowKitTokens
import Derived.LaidLaws
import Derived.LaidHandle
import Derived.Stop.Joined
import Derived.SevenTiedAt
namespace Go.Proofs.Qxb6604726aDoor.fnNamedRenamesPathUnderTemp
open Go.ChangeShapes Go.WideShapes Go.ChangeAt Go.RowKit
open Go.ChangeMaps (open_string shut_string)

theorem own : ownKnob Tryd.prog.godebug = none := by kernel_rfl
theorem et : Tryd.prog.globalNamed "errors.errorType" = some 0 := by kernel_rfl

/-- The name of the type whose handle the listed variable holds, off the given row. -/
def ifaceName {H : Type} : DataW H → String
  | .iface s _ => s
  | _ => "none"
def rtName : String := ifaceName (H := Unit) Rows.laid_errors_errorType
def laid : List (String × DataW Unit) := [("errors.errorType", Rows.laid_errors_errorType)]

theorem rt : (Tryd.prog.cutTypes.find? (·.1 == rtName)).map (·.2) = some 107 := by kernel_rfl
theorem oneRow : ((List.range 205).filter fun t => Tryd.prog.rowNamed t [101, 114, 114, 111, 114]) = [37] := by kernel_rfl
theorem size : Tryd.prog.types.size = 205 := by kernel_rfl

/-- WHAT THE CONDITION GIVES A WALK: the variable's one cell. -/
theorem handle_of_laid {W : World} (h : laidMetH Tryd.prog laid W) : W.cell? ⟨0, 0, none⟩ = some (.iface 107 (.agg #[.pointer (some ⟨5, 37, none⟩)])) := by
  have h' : laidMet Tryd.prog [] W ∧ handlesMet Tryd.prog laid W := h
  obtain ⟨name, u, ty, e1, e2, e3, e4, e5⟩ := h'.2 _ (List.mem_singleton.2 rfl)
  have en : name = [101, 114, 114, 111, 114] := (Option.some.inj e1).symm
  subst en
  obtain rfl := Option.some.inj (rt.symm.trans e2)
  have hm : ty ∈ (List.range 205).filter fun t => Tryd.prog.rowNamed t [101, 114, 114, 111, 114] := List.mem_filter.2 ⟨List.mem_range.2 (by rw [← size]; exact e3), e4⟩
  rw [oneRow] at hm
  obtain rfl := List.mem_singleton.1 hm
  have hh : typeHandle Tryd.prog 37 = .pointer (some ⟨5, 37, none⟩) := by kernel_rfl
  rw [hh] at e5
  simpa using World.var?_cell et e5 0

/-- A block of the settled heap with the variable's cell laid. -/
def layCell : Obj → Obj
  | .cells _ t frozen => .cells #[.iface 107 (.agg #[.pointer (some ⟨5, 37, none⟩)])] t frozen
  | o => o
/-- A world that meets the condition: the given one, the variable's cell laid. -/
def layWorld (w0 : World) : World := { w0 with heap := w0.heap.modify 0 layCell }
theorem laidWorld_met (os : Os) (args : Array Value) : laidMetH Tryd.prog laid ((layWorld (World.holding Tryd.prog os ⟨#[], #[], []⟩)).forCall (fun _ _ => 0) ⟨#[], args, []⟩).memory :=
  laidMetH_of_parts (laidMet_nil _ _) (by kernel_rfl)

set_option maxRecDepth 100000 in
theorem lifted (os : Os) (started : os.Started) (H : Type) (enc : TypeId × Value → H) :
    ReturnsInHanded {} Tryd.checked os 3 .any (fun w args => (Rows.fnNamedRenamesPathUnderTempSpec.pre enc Tryd.prog Tryd.f3 [] false w args ∧ laidMetH Tryd.prog laid w) ∧ sizedMet enc Tryd.prog Tryd.f3 (OpenSpec.ofChange Rows.fnNamedRenamesPathUnderTempSpec) false w args)
      (Rows.fnNamedRenamesPathUnderTempSpec.post enc Tryd.prog Tryd.f3 false true false false) := by
  refine returnsInHanded_of_change_and (C := Tryd.checked) (X := fun w _ => laidMetH Tryd.prog laid w) (fun _ _ _ hh h => h.of_heap hh) own started (by kernel_rfl) Tryd.func3
    (ChangeSpec.witness_at (enc := enc) (C := Tryd.checked) (os := os) (X := fun w _ => laidMetH Tryd.prog laid w) false (layWorld (World.holding Tryd.prog os ⟨#[], #[], []⟩)) #[.string ⟨#[]⟩, .string ⟨#[]⟩, .string ⟨#[]⟩, .string ⟨#[]⟩, .int .u8 0] 8 rfl (by kernel_rfl) (by kernel_rfl) (by kernel_rfl) (by kernel_rfl) (by kernel_rfl) (laidWorld_met os _)) ?_
  intro W base args ds gs before hval0 hW _ _ hL _
  have hval : ∀ (j : Nat) t v, Tryd.f3.params[j]? = some t → args[j]? = some v → Value.okWide Tryd.prog W .any base t v := hval0
  have hW' := hW
  obtain ⟨p, q, hA0, hV, rfl, hfz, hnd⟩ := hW
  have hA : DataW.TrodAll enc Tryd.prog W 0 (fun _ => true) true Tryd.f3.params.toList args.toList ds p := hA0
  rw [Tryd.params3] at hA hval
  obtain ⟨v0, vs0, d0, ds0, p0, q0, hargs, rfl, rfl, h0, r0⟩ := trodAll_cons hA
  obtain ⟨v1, vs1, d1, ds1, p1, q1, rfl, rfl, rfl, h1, r1⟩ := trodAll_cons r0
  obtain ⟨v2, vs2, d2, ds2, p2, q2, rfl, rfl, rfl, h2, r2⟩ := trodAll_cons r1
  obtain ⟨v3, vs3, d3, ds3, p3, q3, rfl, rfl, rfl, h3, r3⟩ := trodAll_cons r2
  obtain ⟨v4, vs4, d4, ds4, p4, q4, rfl, rfl, rfl, h4, r4⟩ := trodAll_cons r3
  obtain ⟨rfl, rfl, rfl⟩ := trodAll_nil r4
  obtain rfl : args = #[v0, v1, v2, v3, v4] := by cases args; simp_all
  obtain ⟨rfl, rfl⟩ := trodVars_none hV
  obtain ⟨s0, rfl, rfl, rfl, z0⟩ := open_string Tryd.underlying9 (hval 0 9 v0 rfl rfl) h0
  obtain ⟨s1, rfl, rfl, rfl, z1⟩ := open_string Tryd.underlying9 (hval 1 9 v1 rfl rfl) h1
  obtain ⟨s2, rfl, rfl, rfl, z2⟩ := open_string Tryd.underlying9 (hval 2 9 v2 rfl rfl) h2
  obtain ⟨s3, rfl, rfl, rfl, z3⟩ := open_string Tryd.underlying9 (hval 3 9 v3 rfl rfl) h3
  obtain ⟨c, rfl, rfl, rfl, wc⟩ := open_int Tryd.underlying5 (hval 4 5 v4 rfl rfl) h4
  have hg := handle_of_laid hL
  clear hA0 hval0
  have hc := bounds_u8 wc
  refine (law_any s0 s1 s2 s3 c W hc.1 hc.2 hg).mono fun e W' ⟨he, bel⟩ => ?_
  subst he
  exact ⟨_, rfl, _, _, _, [], [], [], hW', trodAll_mk1 (shut_bool Tryd.underlying4 true), (trodAll_cons_mk (shut_string Tryd.underlying9 z0) (trodAll_cons_mk (shut_string Tryd.underlying9 z1) (trodAll_cons_mk (shut_string Tryd.underlying9 z2) (trodAll_cons_mk (shut_string Tryd.underlying9 z3) (trodAll_cons_mk (shut_int Tryd.underlying5 wc) trodAll_mk0))))), rfl, bel.frame _, fun h => by cases h⟩

theorem row_proved : Rows.FnNamedRenamesPathUnderTempSaid :=
  OpenClaim.holds_of_wide 3 Tryd.f3 rfl rfl rfl rfl rfl rfl rfl ⟨rfl, rfl, rfl, rfl, rfl⟩ rfl rfl rfl rfl rfl (by kernel_rfl) Tryd.func3 (by kernel_rfl)
    (of_decide_eq_true (by kernel_rfl)) (by unfold Func.isWrapper; rw [if_neg (of_decide_eq_false (by kernel_rfl))]; exact ⟨rfl, rfl⟩)
    (fun os started H enc _ => lifted os started H enc)

/-- THE STATEMENT: the tied card: the row, its one listed variable tied to the program's text by the given tie. -/
theorem proved : Rows.FnNamedRenamesPathUnderTempCardSaid :=
  Claim7.holds_tied_plain_at .later [] [.handle] true (true, "cdc06e50b7ddb0716c3e26b8730deaedfa73103788415ee71c9a1a832d179904") true
    row_proved (fun _ h => by cases h) (by kernel_rfl) (fun _ h => by cases h) fnNamedRenamesPathUnderTemp_row_tie rfl ⟨rfl, rfl⟩ (by kernel_rfl) rfl
    (fun f fn hf hfn => by
      obtain rfl : f = 3 := Option.some.inj ((show Tryd.prog.funcNamed Rows.fnNamedRenamesPathUnderTempRow.func = some 3 by kernel_rfl).symm.trans hf) |>.symm
      obtain rfl : fn = Tryd.f3 := (Option.some.inj (Tryd.func3.symm.trans hfn)).symm
      exact ⟨by kernel_rfl, fun j t ht => by
        rw [Tryd.params3] at ht
        have h3 : t = 9 ∨ t = 5 := by
          match j, ht with
          | 0, ht => exact .inl (by simpa using ht.symm)
          | 1, ht => exact .inl (by simpa using ht.symm)
          | 2, ht => exact .inl (by simpa using ht.symm)
          | 3, ht => exact .inl (by simpa using ht.symm)
          | 4, ht => exact .inr (by simpa using ht.symm)
          | j + 5, ht => simp at ht
        rcases h3 with rfl | rfl
        · exact (show Tryd.prog.wantsStandIn 9 = false by kernel_rfl)
        · exact (show Tryd.prog.wantsStandIn 5 = false by kernel_rfl)⟩)
    (by kernel_rfl)
end Go.Proofs.Qxb6604726aDoor.fnNamedRenamesPathUnderTemp
