/-
  Seat b6601941a: 'Rows.FnRankOfOrderSaid' proved. The frame: the guide's template (proof-skeleton.mjs) at this function's number and types; the walk is ours.
-/
import Derived.Test.Qxb6601941aRows
import Derived.Test.Qxb6601941aRank
import Derived.WalkKit
import Derived.ProofKit
import Derived.OpenShut
import Derived.ShutString
namespace Go.Proofs.Qxb6601941a.fnRankOfOrder
open Go.ChangeShapes Go.WideShapes Go.ChangeAt Go.RowKit
open Go.ChangeMaps (open_string shut_string)
set_option linter.unusedVariables false      -- a walk need not use every 'w<i>' (that an integer argument fits its kind)

theorem own : ownKnob Try.prog.godebug = none := by kernel_rfl

theorem grown_trans {a b c : World} (h : Grown a b) (k : Grown b c) : Grown a c :=
  ⟨World.keptBut_trans h.1 k.1, fun x => (k.2.1 x).trans (h.2.1 x), Nat.le_trans h.2.2 k.2.2⟩
theorem rk_adds (s : Int) : rk true s = 0 := rfl
theorem rk_blind {s : Int} (h : (s == 0) = true) : rk false s = 1 := by simp [rk, h]
theorem rk_reads {s : Int} (h : (s == 0) = false) : rk false s = 2 := by simp [rk, h]

/-! ### THE WALK, one a way: which of the two only adds, which snapshot is zero -/
set_option maxHeartbeats 1000000 in
theorem walk_tttt (a1 a3 : Int) (h1 : (a1 == 0) = true) (h3 : (a3 == 0) = true) (w : World) :
    Calls Try.prog 6 #[.bool true, .int .u64 a1, .bool true, .int .u64 a3] w fun e w' => e = .returned (.bool true) ∧ Grown w w' := by
  have n1 : (a1 != 0) = false := by simp [bne, h1]
  have n3 : (a3 != 0) = false := by simp [bne, h3]
  have R1 : Hid (rk true a1 = 0) := rk_adds _
  have R3 : Hid (rk true a3 = 0) := rk_adds _
  go_enter Try.func6, Try.ntmps6
  go_wp2_with fail
  refine (mkO true _).mono ?_
  rintro e w1 ⟨rfl, g1⟩
  have G1 : Hid (Grown w w1) := g1
  clear g1
  go_wp2_with fail
  refine (mkC a1 _).mono ?_
  rintro e w2 ⟨rfl, c2, g2⟩
  have G2 : Hid (Grown w1 w2) := g2
  have C2 : Hid (w2.cell? ⟨w1.heap.size, 0, none⟩ = some (.int .u64 a1)) := c2
  clear g2 c2
  go_wp2_with fail
  refine (rank_any true a1 0 _ _ C2.out R1).mono ?_
  rintro e w3 ⟨rfl, g3⟩
  have G3 : Hid (Grown w2 w3) := g3
  clear g3
  go_wp2_with fail
  refine (mkO true _).mono ?_
  rintro e w4 ⟨rfl, g4⟩
  have G4 : Hid (Grown w3 w4) := g4
  clear g4
  go_wp2_with fail
  refine (mkC a3 _).mono ?_
  rintro e w5 ⟨rfl, c5, g5⟩
  have G5 : Hid (Grown w4 w5) := g5
  have C5 : Hid (w5.cell? ⟨w4.heap.size, 0, none⟩ = some (.int .u64 a3)) := c5
  clear g5 c5
  go_wp2_with fail
  refine (rank_any true a3 0 _ _ C5.out R3).mono ?_
  rintro e w6 ⟨rfl, g6⟩
  have G6 : Hid (Grown w5 w6) := g6
  clear g6
  go_wp2
  go_ret
  exact ⟨rfl, grown_trans (grown_trans (grown_trans (grown_trans (grown_trans G1.out G2.out) G3.out) G4.out) G5.out) G6.out⟩

set_option maxHeartbeats 1000000 in
theorem walk_tttf (a1 a3 : Int) (h1 : (a1 == 0) = true) (h3 : (a3 == 0) = false) (w : World) :
    Calls Try.prog 6 #[.bool true, .int .u64 a1, .bool true, .int .u64 a3] w fun e w' => e = .returned (.bool true) ∧ Grown w w' := by
  have n1 : (a1 != 0) = false := by simp [bne, h1]
  have n3 : (a3 != 0) = true := by simp [bne, h3]
  have R1 : Hid (rk true a1 = 0) := rk_adds _
  have R3 : Hid (rk true a3 = 0) := rk_adds _
  go_enter Try.func6, Try.ntmps6
  go_wp2_with fail
  refine (mkO true _).mono ?_
  rintro e w1 ⟨rfl, g1⟩
  have G1 : Hid (Grown w w1) := g1
  clear g1
  go_wp2_with fail
  refine (mkC a1 _).mono ?_
  rintro e w2 ⟨rfl, c2, g2⟩
  have G2 : Hid (Grown w1 w2) := g2
  have C2 : Hid (w2.cell? ⟨w1.heap.size, 0, none⟩ = some (.int .u64 a1)) := c2
  clear g2 c2
  go_wp2_with fail
  refine (rank_any true a1 0 _ _ C2.out R1).mono ?_
  rintro e w3 ⟨rfl, g3⟩
  have G3 : Hid (Grown w2 w3) := g3
  clear g3
  go_wp2_with fail
  refine (mkO true _).mono ?_
  rintro e w4 ⟨rfl, g4⟩
  have G4 : Hid (Grown w3 w4) := g4
  clear g4
  go_wp2_with fail
  refine (mkC a3 _).mono ?_
  rintro e w5 ⟨rfl, c5, g5⟩
  have G5 : Hid (Grown w4 w5) := g5
  have C5 : Hid (w5.cell? ⟨w4.heap.size, 0, none⟩ = some (.int .u64 a3)) := c5
  clear g5 c5
  go_wp2_with fail
  refine (rank_any true a3 0 _ _ C5.out R3).mono ?_
  rintro e w6 ⟨rfl, g6⟩
  have G6 : Hid (Grown w5 w6) := g6
  clear g6
  go_wp2
  go_ret
  exact ⟨rfl, grown_trans (grown_trans (grown_trans (grown_trans (grown_trans G1.out G2.out) G3.out) G4.out) G5.out) G6.out⟩

set_option maxHeartbeats 1000000 in
theorem walk_ttft (a1 a3 : Int) (h1 : (a1 == 0) = true) (h3 : (a3 == 0) = true) (w : World) :
    Calls Try.prog 6 #[.bool true, .int .u64 a1, .bool false, .int .u64 a3] w fun e w' => e = .returned (.bool true) ∧ Grown w w' := by
  have n1 : (a1 != 0) = false := by simp [bne, h1]
  have n3 : (a3 != 0) = false := by simp [bne, h3]
  have R1 : Hid (rk true a1 = 0) := rk_adds _
  have R3 : Hid (rk false a3 = 1) := rk_blind h3
  go_enter Try.func6, Try.ntmps6
  go_wp2_with fail
  refine (mkO true _).mono ?_
  rintro e w1 ⟨rfl, g1⟩
  have G1 : Hid (Grown w w1) := g1
  clear g1
  go_wp2_with fail
  refine (mkC a1 _).mono ?_
  rintro e w2 ⟨rfl, c2, g2⟩
  have G2 : Hid (Grown w1 w2) := g2
  have C2 : Hid (w2.cell? ⟨w1.heap.size, 0, none⟩ = some (.int .u64 a1)) := c2
  clear g2 c2
  go_wp2_with fail
  refine (rank_any true a1 0 _ _ C2.out R1).mono ?_
  rintro e w3 ⟨rfl, g3⟩
  have G3 : Hid (Grown w2 w3) := g3
  clear g3
  go_wp2_with fail
  refine (mkO false _).mono ?_
  rintro e w4 ⟨rfl, g4⟩
  have G4 : Hid (Grown w3 w4) := g4
  clear g4
  go_wp2_with fail
  refine (mkC a3 _).mono ?_
  rintro e w5 ⟨rfl, c5, g5⟩
  have G5 : Hid (Grown w4 w5) := g5
  have C5 : Hid (w5.cell? ⟨w4.heap.size, 0, none⟩ = some (.int .u64 a3)) := c5
  clear g5 c5
  go_wp2_with fail
  refine (rank_any false a3 1 _ _ C5.out R3).mono ?_
  rintro e w6 ⟨rfl, g6⟩
  have G6 : Hid (Grown w5 w6) := g6
  clear g6
  go_wp2
  go_ret
  exact ⟨rfl, grown_trans (grown_trans (grown_trans (grown_trans (grown_trans G1.out G2.out) G3.out) G4.out) G5.out) G6.out⟩

set_option maxHeartbeats 1000000 in
theorem walk_ttff (a1 a3 : Int) (h1 : (a1 == 0) = true) (h3 : (a3 == 0) = false) (w : World) :
    Calls Try.prog 6 #[.bool true, .int .u64 a1, .bool false, .int .u64 a3] w fun e w' => e = .returned (.bool true) ∧ Grown w w' := by
  have n1 : (a1 != 0) = false := by simp [bne, h1]
  have n3 : (a3 != 0) = true := by simp [bne, h3]
  have R1 : Hid (rk true a1 = 0) := rk_adds _
  have R3 : Hid (rk false a3 = 2) := rk_reads h3
  go_enter Try.func6, Try.ntmps6
  go_wp2_with fail
  refine (mkO true _).mono ?_
  rintro e w1 ⟨rfl, g1⟩
  have G1 : Hid (Grown w w1) := g1
  clear g1
  go_wp2_with fail
  refine (mkC a1 _).mono ?_
  rintro e w2 ⟨rfl, c2, g2⟩
  have G2 : Hid (Grown w1 w2) := g2
  have C2 : Hid (w2.cell? ⟨w1.heap.size, 0, none⟩ = some (.int .u64 a1)) := c2
  clear g2 c2
  go_wp2_with fail
  refine (rank_any true a1 0 _ _ C2.out R1).mono ?_
  rintro e w3 ⟨rfl, g3⟩
  have G3 : Hid (Grown w2 w3) := g3
  clear g3
  go_wp2_with fail
  refine (mkO false _).mono ?_
  rintro e w4 ⟨rfl, g4⟩
  have G4 : Hid (Grown w3 w4) := g4
  clear g4
  go_wp2_with fail
  refine (mkC a3 _).mono ?_
  rintro e w5 ⟨rfl, c5, g5⟩
  have G5 : Hid (Grown w4 w5) := g5
  have C5 : Hid (w5.cell? ⟨w4.heap.size, 0, none⟩ = some (.int .u64 a3)) := c5
  clear g5 c5
  go_wp2_with fail
  refine (rank_any false a3 2 _ _ C5.out R3).mono ?_
  rintro e w6 ⟨rfl, g6⟩
  have G6 : Hid (Grown w5 w6) := g6
  clear g6
  go_wp2
  go_ret
  exact ⟨rfl, grown_trans (grown_trans (grown_trans (grown_trans (grown_trans G1.out G2.out) G3.out) G4.out) G5.out) G6.out⟩

set_option maxHeartbeats 1000000 in
theorem walk_tftt (a1 a3 : Int) (h1 : (a1 == 0) = false) (h3 : (a3 == 0) = true) (w : World) :
    Calls Try.prog 6 #[.bool true, .int .u64 a1, .bool true, .int .u64 a3] w fun e w' => e = .returned (.bool true) ∧ Grown w w' := by
  have n1 : (a1 != 0) = true := by simp [bne, h1]
  have n3 : (a3 != 0) = false := by simp [bne, h3]
  have R1 : Hid (rk true a1 = 0) := rk_adds _
  have R3 : Hid (rk true a3 = 0) := rk_adds _
  go_enter Try.func6, Try.ntmps6
  go_wp2_with fail
  refine (mkO true _).mono ?_
  rintro e w1 ⟨rfl, g1⟩
  have G1 : Hid (Grown w w1) := g1
  clear g1
  go_wp2_with fail
  refine (mkC a1 _).mono ?_
  rintro e w2 ⟨rfl, c2, g2⟩
  have G2 : Hid (Grown w1 w2) := g2
  have C2 : Hid (w2.cell? ⟨w1.heap.size, 0, none⟩ = some (.int .u64 a1)) := c2
  clear g2 c2
  go_wp2_with fail
  refine (rank_any true a1 0 _ _ C2.out R1).mono ?_
  rintro e w3 ⟨rfl, g3⟩
  have G3 : Hid (Grown w2 w3) := g3
  clear g3
  go_wp2_with fail
  refine (mkO true _).mono ?_
  rintro e w4 ⟨rfl, g4⟩
  have G4 : Hid (Grown w3 w4) := g4
  clear g4
  go_wp2_with fail
  refine (mkC a3 _).mono ?_
  rintro e w5 ⟨rfl, c5, g5⟩
  have G5 : Hid (Grown w4 w5) := g5
  have C5 : Hid (w5.cell? ⟨w4.heap.size, 0, none⟩ = some (.int .u64 a3)) := c5
  clear g5 c5
  go_wp2_with fail
  refine (rank_any true a3 0 _ _ C5.out R3).mono ?_
  rintro e w6 ⟨rfl, g6⟩
  have G6 : Hid (Grown w5 w6) := g6
  clear g6
  go_wp2
  go_ret
  exact ⟨rfl, grown_trans (grown_trans (grown_trans (grown_trans (grown_trans G1.out G2.out) G3.out) G4.out) G5.out) G6.out⟩

set_option maxHeartbeats 1000000 in
theorem walk_tftf (a1 a3 : Int) (h1 : (a1 == 0) = false) (h3 : (a3 == 0) = false) (w : World) :
    Calls Try.prog 6 #[.bool true, .int .u64 a1, .bool true, .int .u64 a3] w fun e w' => e = .returned (.bool true) ∧ Grown w w' := by
  have n1 : (a1 != 0) = true := by simp [bne, h1]
  have n3 : (a3 != 0) = true := by simp [bne, h3]
  have R1 : Hid (rk true a1 = 0) := rk_adds _
  have R3 : Hid (rk true a3 = 0) := rk_adds _
  go_enter Try.func6, Try.ntmps6
  go_wp2_with fail
  refine (mkO true _).mono ?_
  rintro e w1 ⟨rfl, g1⟩
  have G1 : Hid (Grown w w1) := g1
  clear g1
  go_wp2_with fail
  refine (mkC a1 _).mono ?_
  rintro e w2 ⟨rfl, c2, g2⟩
  have G2 : Hid (Grown w1 w2) := g2
  have C2 : Hid (w2.cell? ⟨w1.heap.size, 0, none⟩ = some (.int .u64 a1)) := c2
  clear g2 c2
  go_wp2_with fail
  refine (rank_any true a1 0 _ _ C2.out R1).mono ?_
  rintro e w3 ⟨rfl, g3⟩
  have G3 : Hid (Grown w2 w3) := g3
  clear g3
  go_wp2_with fail
  refine (mkO true _).mono ?_
  rintro e w4 ⟨rfl, g4⟩
  have G4 : Hid (Grown w3 w4) := g4
  clear g4
  go_wp2_with fail
  refine (mkC a3 _).mono ?_
  rintro e w5 ⟨rfl, c5, g5⟩
  have G5 : Hid (Grown w4 w5) := g5
  have C5 : Hid (w5.cell? ⟨w4.heap.size, 0, none⟩ = some (.int .u64 a3)) := c5
  clear g5 c5
  go_wp2_with fail
  refine (rank_any true a3 0 _ _ C5.out R3).mono ?_
  rintro e w6 ⟨rfl, g6⟩
  have G6 : Hid (Grown w5 w6) := g6
  clear g6
  go_wp2
  go_ret
  exact ⟨rfl, grown_trans (grown_trans (grown_trans (grown_trans (grown_trans G1.out G2.out) G3.out) G4.out) G5.out) G6.out⟩

set_option maxHeartbeats 1000000 in
theorem walk_tfft (a1 a3 : Int) (h1 : (a1 == 0) = false) (h3 : (a3 == 0) = true) (w : World) :
    Calls Try.prog 6 #[.bool true, .int .u64 a1, .bool false, .int .u64 a3] w fun e w' => e = .returned (.bool true) ∧ Grown w w' := by
  have n1 : (a1 != 0) = true := by simp [bne, h1]
  have n3 : (a3 != 0) = false := by simp [bne, h3]
  have R1 : Hid (rk true a1 = 0) := rk_adds _
  have R3 : Hid (rk false a3 = 1) := rk_blind h3
  go_enter Try.func6, Try.ntmps6
  go_wp2_with fail
  refine (mkO true _).mono ?_
  rintro e w1 ⟨rfl, g1⟩
  have G1 : Hid (Grown w w1) := g1
  clear g1
  go_wp2_with fail
  refine (mkC a1 _).mono ?_
  rintro e w2 ⟨rfl, c2, g2⟩
  have G2 : Hid (Grown w1 w2) := g2
  have C2 : Hid (w2.cell? ⟨w1.heap.size, 0, none⟩ = some (.int .u64 a1)) := c2
  clear g2 c2
  go_wp2_with fail
  refine (rank_any true a1 0 _ _ C2.out R1).mono ?_
  rintro e w3 ⟨rfl, g3⟩
  have G3 : Hid (Grown w2 w3) := g3
  clear g3
  go_wp2_with fail
  refine (mkO false _).mono ?_
  rintro e w4 ⟨rfl, g4⟩
  have G4 : Hid (Grown w3 w4) := g4
  clear g4
  go_wp2_with fail
  refine (mkC a3 _).mono ?_
  rintro e w5 ⟨rfl, c5, g5⟩
  have G5 : Hid (Grown w4 w5) := g5
  have C5 : Hid (w5.cell? ⟨w4.heap.size, 0, none⟩ = some (.int .u64 a3)) := c5
  clear g5 c5
  go_wp2_with fail
  refine (rank_any false a3 1 _ _ C5.out R3).mono ?_
  rintro e w6 ⟨rfl, g6⟩
  have G6 : Hid (Grown w5 w6) := g6
  clear g6
  go_wp2
  go_ret
  exact ⟨rfl, grown_trans (grown_trans (grown_trans (grown_trans (grown_trans G1.out G2.out) G3.out) G4.out) G5.out) G6.out⟩

set_option maxHeartbeats 1000000 in
theorem walk_tfff (a1 a3 : Int) (h1 : (a1 == 0) = false) (h3 : (a3 == 0) = false) (w : World) :
    Calls Try.prog 6 #[.bool true, .int .u64 a1, .bool false, .int .u64 a3] w fun e w' => e = .returned (.bool true) ∧ Grown w w' := by
  have n1 : (a1 != 0) = true := by simp [bne, h1]
  have n3 : (a3 != 0) = true := by simp [bne, h3]
  have R1 : Hid (rk true a1 = 0) := rk_adds _
  have R3 : Hid (rk false a3 = 2) := rk_reads h3
  go_enter Try.func6, Try.ntmps6
  go_wp2_with fail
  refine (mkO true _).mono ?_
  rintro e w1 ⟨rfl, g1⟩
  have G1 : Hid (Grown w w1) := g1
  clear g1
  go_wp2_with fail
  refine (mkC a1 _).mono ?_
  rintro e w2 ⟨rfl, c2, g2⟩
  have G2 : Hid (Grown w1 w2) := g2
  have C2 : Hid (w2.cell? ⟨w1.heap.size, 0, none⟩ = some (.int .u64 a1)) := c2
  clear g2 c2
  go_wp2_with fail
  refine (rank_any true a1 0 _ _ C2.out R1).mono ?_
  rintro e w3 ⟨rfl, g3⟩
  have G3 : Hid (Grown w2 w3) := g3
  clear g3
  go_wp2_with fail
  refine (mkO false _).mono ?_
  rintro e w4 ⟨rfl, g4⟩
  have G4 : Hid (Grown w3 w4) := g4
  clear g4
  go_wp2_with fail
  refine (mkC a3 _).mono ?_
  rintro e w5 ⟨rfl, c5, g5⟩
  have G5 : Hid (Grown w4 w5) := g5
  have C5 : Hid (w5.cell? ⟨w4.heap.size, 0, none⟩ = some (.int .u64 a3)) := c5
  clear g5 c5
  go_wp2_with fail
  refine (rank_any false a3 2 _ _ C5.out R3).mono ?_
  rintro e w6 ⟨rfl, g6⟩
  have G6 : Hid (Grown w5 w6) := g6
  clear g6
  go_wp2
  go_ret
  exact ⟨rfl, grown_trans (grown_trans (grown_trans (grown_trans (grown_trans G1.out G2.out) G3.out) G4.out) G5.out) G6.out⟩

set_option maxHeartbeats 1000000 in
theorem walk_fttt (a1 a3 : Int) (h1 : (a1 == 0) = true) (h3 : (a3 == 0) = true) (w : World) :
    Calls Try.prog 6 #[.bool false, .int .u64 a1, .bool true, .int .u64 a3] w fun e w' => e = .returned (.bool true) ∧ Grown w w' := by
  have n1 : (a1 != 0) = false := by simp [bne, h1]
  have n3 : (a3 != 0) = false := by simp [bne, h3]
  have R1 : Hid (rk false a1 = 1) := rk_blind h1
  have R3 : Hid (rk true a3 = 0) := rk_adds _
  go_enter Try.func6, Try.ntmps6
  go_wp2_with fail
  refine (mkO false _).mono ?_
  rintro e w1 ⟨rfl, g1⟩
  have G1 : Hid (Grown w w1) := g1
  clear g1
  go_wp2_with fail
  refine (mkC a1 _).mono ?_
  rintro e w2 ⟨rfl, c2, g2⟩
  have G2 : Hid (Grown w1 w2) := g2
  have C2 : Hid (w2.cell? ⟨w1.heap.size, 0, none⟩ = some (.int .u64 a1)) := c2
  clear g2 c2
  go_wp2_with fail
  refine (rank_any false a1 1 _ _ C2.out R1).mono ?_
  rintro e w3 ⟨rfl, g3⟩
  have G3 : Hid (Grown w2 w3) := g3
  clear g3
  go_wp2_with fail
  refine (mkO true _).mono ?_
  rintro e w4 ⟨rfl, g4⟩
  have G4 : Hid (Grown w3 w4) := g4
  clear g4
  go_wp2_with fail
  refine (mkC a3 _).mono ?_
  rintro e w5 ⟨rfl, c5, g5⟩
  have G5 : Hid (Grown w4 w5) := g5
  have C5 : Hid (w5.cell? ⟨w4.heap.size, 0, none⟩ = some (.int .u64 a3)) := c5
  clear g5 c5
  go_wp2_with fail
  refine (rank_any true a3 0 _ _ C5.out R3).mono ?_
  rintro e w6 ⟨rfl, g6⟩
  have G6 : Hid (Grown w5 w6) := g6
  clear g6
  go_wp2
  go_ret
  exact ⟨rfl, grown_trans (grown_trans (grown_trans (grown_trans (grown_trans G1.out G2.out) G3.out) G4.out) G5.out) G6.out⟩

set_option maxHeartbeats 1000000 in
theorem walk_fttf (a1 a3 : Int) (h1 : (a1 == 0) = true) (h3 : (a3 == 0) = false) (w : World) :
    Calls Try.prog 6 #[.bool false, .int .u64 a1, .bool true, .int .u64 a3] w fun e w' => e = .returned (.bool true) ∧ Grown w w' := by
  have n1 : (a1 != 0) = false := by simp [bne, h1]
  have n3 : (a3 != 0) = true := by simp [bne, h3]
  have R1 : Hid (rk false a1 = 1) := rk_blind h1
  have R3 : Hid (rk true a3 = 0) := rk_adds _
  go_enter Try.func6, Try.ntmps6
  go_wp2_with fail
  refine (mkO false _).mono ?_
  rintro e w1 ⟨rfl, g1⟩
  have G1 : Hid (Grown w w1) := g1
  clear g1
  go_wp2_with fail
  refine (mkC a1 _).mono ?_
  rintro e w2 ⟨rfl, c2, g2⟩
  have G2 : Hid (Grown w1 w2) := g2
  have C2 : Hid (w2.cell? ⟨w1.heap.size, 0, none⟩ = some (.int .u64 a1)) := c2
  clear g2 c2
  go_wp2_with fail
  refine (rank_any false a1 1 _ _ C2.out R1).mono ?_
  rintro e w3 ⟨rfl, g3⟩
  have G3 : Hid (Grown w2 w3) := g3
  clear g3
  go_wp2_with fail
  refine (mkO true _).mono ?_
  rintro e w4 ⟨rfl, g4⟩
  have G4 : Hid (Grown w3 w4) := g4
  clear g4
  go_wp2_with fail
  refine (mkC a3 _).mono ?_
  rintro e w5 ⟨rfl, c5, g5⟩
  have G5 : Hid (Grown w4 w5) := g5
  have C5 : Hid (w5.cell? ⟨w4.heap.size, 0, none⟩ = some (.int .u64 a3)) := c5
  clear g5 c5
  go_wp2_with fail
  refine (rank_any true a3 0 _ _ C5.out R3).mono ?_
  rintro e w6 ⟨rfl, g6⟩
  have G6 : Hid (Grown w5 w6) := g6
  clear g6
  go_wp2
  go_ret
  exact ⟨rfl, grown_trans (grown_trans (grown_trans (grown_trans (grown_trans G1.out G2.out) G3.out) G4.out) G5.out) G6.out⟩

set_option maxHeartbeats 1000000 in
theorem walk_ftft (a1 a3 : Int) (h1 : (a1 == 0) = true) (h3 : (a3 == 0) = true) (w : World) :
    Calls Try.prog 6 #[.bool false, .int .u64 a1, .bool false, .int .u64 a3] w fun e w' => e = .returned (.bool true) ∧ Grown w w' := by
  have n1 : (a1 != 0) = false := by simp [bne, h1]
  have n3 : (a3 != 0) = false := by simp [bne, h3]
  have R1 : Hid (rk false a1 = 1) := rk_blind h1
  have R3 : Hid (rk false a3 = 1) := rk_blind h3
  go_enter Try.func6, Try.ntmps6
  go_wp2_with fail
  refine (mkO false _).mono ?_
  rintro e w1 ⟨rfl, g1⟩
  have G1 : Hid (Grown w w1) := g1
  clear g1
  go_wp2_with fail
  refine (mkC a1 _).mono ?_
  rintro e w2 ⟨rfl, c2, g2⟩
  have G2 : Hid (Grown w1 w2) := g2
  have C2 : Hid (w2.cell? ⟨w1.heap.size, 0, none⟩ = some (.int .u64 a1)) := c2
  clear g2 c2
  go_wp2_with fail
  refine (rank_any false a1 1 _ _ C2.out R1).mono ?_
  rintro e w3 ⟨rfl, g3⟩
  have G3 : Hid (Grown w2 w3) := g3
  clear g3
  go_wp2_with fail
  refine (mkO false _).mono ?_
  rintro e w4 ⟨rfl, g4⟩
  have G4 : Hid (Grown w3 w4) := g4
  clear g4
  go_wp2_with fail
  refine (mkC a3 _).mono ?_
  rintro e w5 ⟨rfl, c5, g5⟩
  have G5 : Hid (Grown w4 w5) := g5
  have C5 : Hid (w5.cell? ⟨w4.heap.size, 0, none⟩ = some (.int .u64 a3)) := c5
  clear g5 c5
  go_wp2_with fail
  refine (rank_any false a3 1 _ _ C5.out R3).mono ?_
  rintro e w6 ⟨rfl, g6⟩
  have G6 : Hid (Grown w5 w6) := g6
  clear g6
  go_wp2
  go_ret
  exact ⟨rfl, grown_trans (grown_trans (grown_trans (grown_trans (grown_trans G1.out G2.out) G3.out) G4.out) G5.out) G6.out⟩

set_option maxHeartbeats 1000000 in
theorem walk_ftff (a1 a3 : Int) (h1 : (a1 == 0) = true) (h3 : (a3 == 0) = false) (w : World) :
    Calls Try.prog 6 #[.bool false, .int .u64 a1, .bool false, .int .u64 a3] w fun e w' => e = .returned (.bool true) ∧ Grown w w' := by
  have n1 : (a1 != 0) = false := by simp [bne, h1]
  have n3 : (a3 != 0) = true := by simp [bne, h3]
  have R1 : Hid (rk false a1 = 1) := rk_blind h1
  have R3 : Hid (rk false a3 = 2) := rk_reads h3
  go_enter Try.func6, Try.ntmps6
  go_wp2_with fail
  refine (mkO false _).mono ?_
  rintro e w1 ⟨rfl, g1⟩
  have G1 : Hid (Grown w w1) := g1
  clear g1
  go_wp2_with fail
  refine (mkC a1 _).mono ?_
  rintro e w2 ⟨rfl, c2, g2⟩
  have G2 : Hid (Grown w1 w2) := g2
  have C2 : Hid (w2.cell? ⟨w1.heap.size, 0, none⟩ = some (.int .u64 a1)) := c2
  clear g2 c2
  go_wp2_with fail
  refine (rank_any false a1 1 _ _ C2.out R1).mono ?_
  rintro e w3 ⟨rfl, g3⟩
  have G3 : Hid (Grown w2 w3) := g3
  clear g3
  go_wp2_with fail
  refine (mkO false _).mono ?_
  rintro e w4 ⟨rfl, g4⟩
  have G4 : Hid (Grown w3 w4) := g4
  clear g4
  go_wp2_with fail
  refine (mkC a3 _).mono ?_
  rintro e w5 ⟨rfl, c5, g5⟩
  have G5 : Hid (Grown w4 w5) := g5
  have C5 : Hid (w5.cell? ⟨w4.heap.size, 0, none⟩ = some (.int .u64 a3)) := c5
  clear g5 c5
  go_wp2_with fail
  refine (rank_any false a3 2 _ _ C5.out R3).mono ?_
  rintro e w6 ⟨rfl, g6⟩
  have G6 : Hid (Grown w5 w6) := g6
  clear g6
  go_wp2
  go_ret
  exact ⟨rfl, grown_trans (grown_trans (grown_trans (grown_trans (grown_trans G1.out G2.out) G3.out) G4.out) G5.out) G6.out⟩

set_option maxHeartbeats 1000000 in
theorem walk_fftt (a1 a3 : Int) (h1 : (a1 == 0) = false) (h3 : (a3 == 0) = true) (w : World) :
    Calls Try.prog 6 #[.bool false, .int .u64 a1, .bool true, .int .u64 a3] w fun e w' => e = .returned (.bool true) ∧ Grown w w' := by
  have n1 : (a1 != 0) = true := by simp [bne, h1]
  have n3 : (a3 != 0) = false := by simp [bne, h3]
  have R1 : Hid (rk false a1 = 2) := rk_reads h1
  have R3 : Hid (rk true a3 = 0) := rk_adds _
  go_enter Try.func6, Try.ntmps6
  go_wp2_with fail
  refine (mkO false _).mono ?_
  rintro e w1 ⟨rfl, g1⟩
  have G1 : Hid (Grown w w1) := g1
  clear g1
  go_wp2_with fail
  refine (mkC a1 _).mono ?_
  rintro e w2 ⟨rfl, c2, g2⟩
  have G2 : Hid (Grown w1 w2) := g2
  have C2 : Hid (w2.cell? ⟨w1.heap.size, 0, none⟩ = some (.int .u64 a1)) := c2
  clear g2 c2
  go_wp2_with fail
  refine (rank_any false a1 2 _ _ C2.out R1).mono ?_
  rintro e w3 ⟨rfl, g3⟩
  have G3 : Hid (Grown w2 w3) := g3
  clear g3
  go_wp2_with fail
  refine (mkO true _).mono ?_
  rintro e w4 ⟨rfl, g4⟩
  have G4 : Hid (Grown w3 w4) := g4
  clear g4
  go_wp2_with fail
  refine (mkC a3 _).mono ?_
  rintro e w5 ⟨rfl, c5, g5⟩
  have G5 : Hid (Grown w4 w5) := g5
  have C5 : Hid (w5.cell? ⟨w4.heap.size, 0, none⟩ = some (.int .u64 a3)) := c5
  clear g5 c5
  go_wp2_with fail
  refine (rank_any true a3 0 _ _ C5.out R3).mono ?_
  rintro e w6 ⟨rfl, g6⟩
  have G6 : Hid (Grown w5 w6) := g6
  clear g6
  go_wp2
  go_ret
  exact ⟨rfl, grown_trans (grown_trans (grown_trans (grown_trans (grown_trans G1.out G2.out) G3.out) G4.out) G5.out) G6.out⟩

set_option maxHeartbeats 1000000 in
theorem walk_fftf (a1 a3 : Int) (h1 : (a1 == 0) = false) (h3 : (a3 == 0) = false) (w : World) :
    Calls Try.prog 6 #[.bool false, .int .u64 a1, .bool true, .int .u64 a3] w fun e w' => e = .returned (.bool true) ∧ Grown w w' := by
  have n1 : (a1 != 0) = true := by simp [bne, h1]
  have n3 : (a3 != 0) = true := by simp [bne, h3]
  have R1 : Hid (rk false a1 = 2) := rk_reads h1
  have R3 : Hid (rk true a3 = 0) := rk_adds _
  go_enter Try.func6, Try.ntmps6
  go_wp2_with fail
  refine (mkO false _).mono ?_
  rintro e w1 ⟨rfl, g1⟩
  have G1 : Hid (Grown w w1) := g1
  clear g1
  go_wp2_with fail
  refine (mkC a1 _).mono ?_
  rintro e w2 ⟨rfl, c2, g2⟩
  have G2 : Hid (Grown w1 w2) := g2
  have C2 : Hid (w2.cell? ⟨w1.heap.size, 0, none⟩ = some (.int .u64 a1)) := c2
  clear g2 c2
  go_wp2_with fail
  refine (rank_any false a1 2 _ _ C2.out R1).mono ?_
  rintro e w3 ⟨rfl, g3⟩
  have G3 : Hid (Grown w2 w3) := g3
  clear g3
  go_wp2_with fail
  refine (mkO true _).mono ?_
  rintro e w4 ⟨rfl, g4⟩
  have G4 : Hid (Grown w3 w4) := g4
  clear g4
  go_wp2_with fail
  refine (mkC a3 _).mono ?_
  rintro e w5 ⟨rfl, c5, g5⟩
  have G5 : Hid (Grown w4 w5) := g5
  have C5 : Hid (w5.cell? ⟨w4.heap.size, 0, none⟩ = some (.int .u64 a3)) := c5
  clear g5 c5
  go_wp2_with fail
  refine (rank_any true a3 0 _ _ C5.out R3).mono ?_
  rintro e w6 ⟨rfl, g6⟩
  have G6 : Hid (Grown w5 w6) := g6
  clear g6
  go_wp2
  go_ret
  exact ⟨rfl, grown_trans (grown_trans (grown_trans (grown_trans (grown_trans G1.out G2.out) G3.out) G4.out) G5.out) G6.out⟩

set_option maxHeartbeats 1000000 in
theorem walk_ffft (a1 a3 : Int) (h1 : (a1 == 0) = false) (h3 : (a3 == 0) = true) (w : World) :
    Calls Try.prog 6 #[.bool false, .int .u64 a1, .bool false, .int .u64 a3] w fun e w' => e = .returned (.bool true) ∧ Grown w w' := by
  have n1 : (a1 != 0) = true := by simp [bne, h1]
  have n3 : (a3 != 0) = false := by simp [bne, h3]
  have R1 : Hid (rk false a1 = 2) := rk_reads h1
  have R3 : Hid (rk false a3 = 1) := rk_blind h3
  go_enter Try.func6, Try.ntmps6
  go_wp2_with fail
  refine (mkO false _).mono ?_
  rintro e w1 ⟨rfl, g1⟩
  have G1 : Hid (Grown w w1) := g1
  clear g1
  go_wp2_with fail
  refine (mkC a1 _).mono ?_
  rintro e w2 ⟨rfl, c2, g2⟩
  have G2 : Hid (Grown w1 w2) := g2
  have C2 : Hid (w2.cell? ⟨w1.heap.size, 0, none⟩ = some (.int .u64 a1)) := c2
  clear g2 c2
  go_wp2_with fail
  refine (rank_any false a1 2 _ _ C2.out R1).mono ?_
  rintro e w3 ⟨rfl, g3⟩
  have G3 : Hid (Grown w2 w3) := g3
  clear g3
  go_wp2_with fail
  refine (mkO false _).mono ?_
  rintro e w4 ⟨rfl, g4⟩
  have G4 : Hid (Grown w3 w4) := g4
  clear g4
  go_wp2_with fail
  refine (mkC a3 _).mono ?_
  rintro e w5 ⟨rfl, c5, g5⟩
  have G5 : Hid (Grown w4 w5) := g5
  have C5 : Hid (w5.cell? ⟨w4.heap.size, 0, none⟩ = some (.int .u64 a3)) := c5
  clear g5 c5
  go_wp2_with fail
  refine (rank_any false a3 1 _ _ C5.out R3).mono ?_
  rintro e w6 ⟨rfl, g6⟩
  have G6 : Hid (Grown w5 w6) := g6
  clear g6
  go_wp2
  go_ret
  exact ⟨rfl, grown_trans (grown_trans (grown_trans (grown_trans (grown_trans G1.out G2.out) G3.out) G4.out) G5.out) G6.out⟩

set_option maxHeartbeats 1000000 in
theorem walk_ffff (a1 a3 : Int) (h1 : (a1 == 0) = false) (h3 : (a3 == 0) = false) (w : World) :
    Calls Try.prog 6 #[.bool false, .int .u64 a1, .bool false, .int .u64 a3] w fun e w' => e = .returned (.bool true) ∧ Grown w w' := by
  have n1 : (a1 != 0) = true := by simp [bne, h1]
  have n3 : (a3 != 0) = true := by simp [bne, h3]
  have R1 : Hid (rk false a1 = 2) := rk_reads h1
  have R3 : Hid (rk false a3 = 2) := rk_reads h3
  go_enter Try.func6, Try.ntmps6
  go_wp2_with fail
  refine (mkO false _).mono ?_
  rintro e w1 ⟨rfl, g1⟩
  have G1 : Hid (Grown w w1) := g1
  clear g1
  go_wp2_with fail
  refine (mkC a1 _).mono ?_
  rintro e w2 ⟨rfl, c2, g2⟩
  have G2 : Hid (Grown w1 w2) := g2
  have C2 : Hid (w2.cell? ⟨w1.heap.size, 0, none⟩ = some (.int .u64 a1)) := c2
  clear g2 c2
  go_wp2_with fail
  refine (rank_any false a1 2 _ _ C2.out R1).mono ?_
  rintro e w3 ⟨rfl, g3⟩
  have G3 : Hid (Grown w2 w3) := g3
  clear g3
  go_wp2_with fail
  refine (mkO false _).mono ?_
  rintro e w4 ⟨rfl, g4⟩
  have G4 : Hid (Grown w3 w4) := g4
  clear g4
  go_wp2_with fail
  refine (mkC a3 _).mono ?_
  rintro e w5 ⟨rfl, c5, g5⟩
  have G5 : Hid (Grown w4 w5) := g5
  have C5 : Hid (w5.cell? ⟨w4.heap.size, 0, none⟩ = some (.int .u64 a3)) := c5
  clear g5 c5
  go_wp2_with fail
  refine (rank_any false a3 2 _ _ C5.out R3).mono ?_
  rintro e w6 ⟨rfl, g6⟩
  have G6 : Hid (Grown w5 w6) := g6
  clear g6
  go_wp2
  go_ret
  exact ⟨rfl, grown_trans (grown_trans (grown_trans (grown_trans (grown_trans G1.out G2.out) G3.out) G4.out) G5.out) G6.out⟩

theorem walk (a0 : Bool) (a1 : Int) (a2 : Bool) (a3 : Int) (w1 : (Lit.int .u64 a1).wf = true) (w3 : (Lit.int .u64 a3).wf = true) (w : World) :
    Calls Try.prog 6 #[.bool a0, .int .u64 a1, .bool a2, .int .u64 a3] w fun e w' => e = .returned (.bool true) ∧ Grown w w' := by
  cases a0 <;> cases a2 <;> cases h1 : (a1 == 0) <;> cases h3 : (a3 == 0)
  · exact walk_ffff a1 a3 h1 h3 w
  · exact walk_ffft a1 a3 h1 h3 w
  · exact walk_ftff a1 a3 h1 h3 w
  · exact walk_ftft a1 a3 h1 h3 w
  · exact walk_fftf a1 a3 h1 h3 w
  · exact walk_fftt a1 a3 h1 h3 w
  · exact walk_fttf a1 a3 h1 h3 w
  · exact walk_fttt a1 a3 h1 h3 w
  · exact walk_tfff a1 a3 h1 h3 w
  · exact walk_tfft a1 a3 h1 h3 w
  · exact walk_ttff a1 a3 h1 h3 w
  · exact walk_ttft a1 a3 h1 h3 w
  · exact walk_tftf a1 a3 h1 h3 w
  · exact walk_tftt a1 a3 h1 h3 w
  · exact walk_tttf a1 a3 h1 h3 w
  · exact walk_tttt a1 a3 h1 h3 w

/-! ### THE ROW's STEP: WRITTEN OUT: LEAVE IT -/
set_option maxRecDepth 100000 in
theorem lifted (os : Os) (started : os.Started) (H : Type) (enc : TypeId × Value → H) :
    ReturnsInHanded {} Try.checked os 6 .any (Rows.fnRankOfOrderSpec.pre6 enc Try.prog Try.f6 Rows.fnRankOfOrderRow.domain false) (Rows.fnRankOfOrderSpec.post enc Try.prog Try.f6 false true false false) := by
  refine returnsInHanded_of_change (C := Try.checked) own started (by kernel_rfl) Try.func6
    (ChangeSpec.witness6 (enc := enc) (C := Try.checked) false ⟨#[], #[.bool false, .int .u64 0, .bool false, .int .u64 0], []⟩ 8 (by kernel_rfl) (by kernel_rfl) (by kernel_rfl) (by kernel_rfl)) ?_
  intro W base args ds gs before hval0 hW hcnd _
  have hval : ∀ (j : Nat) t v, Try.f6.params[j]? = some t → args[j]? = some v → Value.okWide Try.prog W .any base t v := hval0
  have hW' := hW
  obtain ⟨p, q, hA0, hV, rfl, hfz, hnd⟩ := hW
  have hA : DataW.TrodAll enc Try.prog W 0 (fun _ => true) true Try.f6.params.toList args.toList ds p := hA0
  rw [Try.params6] at hA hval
  obtain ⟨v0, vs0, d0, ds0, p0, q0, hargs, rfl, rfl, h0, r0⟩ := trodAll_cons hA
  obtain ⟨v1, vs1, d1, ds1, p1, q1, rfl, rfl, rfl, h1, r1⟩ := trodAll_cons r0
  obtain ⟨v2, vs2, d2, ds2, p2, q2, rfl, rfl, rfl, h2, r2⟩ := trodAll_cons r1
  obtain ⟨v3, vs3, d3, ds3, p3, q3, rfl, rfl, rfl, h3, r3⟩ := trodAll_cons r2
  obtain ⟨rfl, rfl, rfl⟩ := trodAll_nil r3
  obtain rfl : args = #[v0, v1, v2, v3] := by cases args; simp_all
  obtain ⟨rfl, rfl⟩ := trodVars_none hV
  obtain ⟨a0, rfl, rfl, rfl⟩ := open_bool Try.underlying4 (hval 0 4 v0 rfl rfl) h0
  obtain ⟨a1, rfl, rfl, rfl, w1⟩ := open_int Try.underlying22 (hval 1 22 v1 rfl rfl) h1
  obtain ⟨a2, rfl, rfl, rfl⟩ := open_bool Try.underlying4 (hval 2 4 v2 rfl rfl) h2
  obtain ⟨a3, rfl, rfl, rfl, w3⟩ := open_int Try.underlying22 (hval 3 22 v3 rfl rfl) h3
  clear hA0 hval0
  simp only [List.append_nil] at hW'
  refine (walk a0 a1 a2 a3 w1 w3 W).mono fun e W' ⟨he, hg⟩ => ?_
  subst he
  exact ⟨_, rfl, post_of_same (pa := []) (pv := []) hW' (fun _ _ _ => (trodAll_cons_mk (shut_bool Try.underlying4 _) trodAll_mk0)) (fun sp _ => (trodAll_cons_mk (shut_bool Try.underlying4 _) (trodAll_cons_mk (shut_int Try.underlying22 w1) (trodAll_cons_mk (shut_bool Try.underlying4 _) (trodAll_cons_mk (shut_int Try.underlying22 w3) trodAll_mk0))))) (fun _ _ => rfl) rfl
    (hg.frame _) hg.2.1 (ok_one (by kernel_rfl) rfl (okWide_bool_mk Try.underlying4 _))⟩

theorem over : Rows.fnRankOfOrderRow.holds Try.pinned (OpenSpec.ofChange Rows.fnRankOfOrderSpec) :=
  OpenClaim.holds_of_wide 6 Try.f6 rfl rfl rfl rfl rfl rfl rfl ⟨rfl, rfl, rfl, rfl, rfl⟩ rfl rfl rfl rfl rfl (by kernel_rfl) Try.func6 (by kernel_rfl)
    (of_decide_eq_true (by kernel_rfl)) (by unfold Func.isWrapper; first | (rw [if_pos (by decide +kernel)]; kernel_rfl) | (rw [if_neg (by decide +kernel)]; exact ⟨rfl, rfl⟩))
    (fun os started H enc _ => lifted os started H enc)

/-- ████ THE STATEMENT ████ -/
theorem proved : Rows.FnRankOfOrderSaid :=
  over
end Go.Proofs.Qxb6601941a.fnRankOfOrder
