/-
  Seat b6603612a: the walks of zzSameRunes and zzCloneRunes.
-/
import Derived.Test.Qxb6603612aScan
import Derived.Lib.SliceRun
namespace Go.Proofs.Qxb6603612a
open Go.RowKit

theorem eql22 (a : Option Addr) (n c : Nat) (w : World) : (binOp .eql 22 (.slice a n c) (.slice none 0 0)).run Try.prog w = .ok (.bool a.isNone) w := Lib.run_eql_slice_nil w 22 21 a n c 0 0 Try.underlying22
theorem eql25 (a : Option Addr) (n c : Nat) (w : World) : (binOp .eql 25 (.slice a n c) (.slice none 0 0)).run Try.prog w = .ok (.bool a.isNone) w := Lib.run_eql_slice_nil w 25 3 a n c 0 0 Try.underlying25

set_option maxHeartbeats 400000 in
theorem same_row (b1 b2 n : Nat) (z : Nat → Int) (w : World) (hn : n ≤ 4096) (h1 : w.rowIs b1 21 n (fun i => .int .i32 (z i))) (h2 : w.rowIs b2 21 n (fun i => .int .i32 (z i))) :
    Calls Try.prog 8 #[.slice (some ⟨b1, 0, none⟩) n n, .slice (some ⟨b2, 0, none⟩) n n] w fun e w' => e = .returned (.bool true) ∧ ∃ q, w' = w.drewN q := by
  have H1 : Hid (∀ i, i < n → w.cell? ⟨b1, i, none⟩ = some (.int .i32 (z i))) := fun i hi => h1.cell hi
  have H2 : Hid (∀ i, i < n → w.cell? ⟨b2, i, none⟩ = some (.int .i32 (z i))) := fun i hi => h2.cell hi
  clear h1 h2
  have e1 := eql22 (some ⟨b1, 0, none⟩) n n
  have e2 := eql22 (some ⟨b2, 0, none⟩) n n
  go_enter Try.func8, Try.ntmps8
  go_wp2
  go_loopw [5] (fun i wr => ∃ k q : Nat, k ≤ n ∧ i = .int .i64 k ∧ wr = w.drewN q) (fun i _ => n - (intOf i).toNat)
  case atStart => exact ⟨0, 0, Nat.zero_le _, rfl, rfl⟩
  case round =>
    obtain ⟨k, q, hk, rfl, rfl⟩ := hrel
    by_cases hlt : k < n
    · have c1 := H1.out k hlt
      have c2 := H2.out k hlt
      have hi : (k : Int) < (n : Int) := by omega
      go_wp2
      go_quiet (fail)
      go_wp2
      go_roundw
      case rel => exact ⟨k + 1, q + nq, by omega, by go_num, rfl⟩
      case measure => simp [intOf]; omega
    · go_wp2
      go_ret
      exact ⟨rfl, q, rfl⟩

theorem same_nil (w : World) : Calls Try.prog 8 #[.slice none 0 0, .slice none 0 0] w fun e w' => e = .returned (.bool true) ∧ ∃ q, w' = w.drewN q := by
  have e1 := eql22 none 0 0
  go_enter Try.func8, Try.ntmps8
  go_wp2
  refine wp_loop_rounds 1 ?_
  rw [rounds_succ]
  go_wp2
  go_ret
  exact ⟨rfl, 0, rfl⟩

theorem info21 : (Try.prog.info? 21).map (fun i => (i.zero, i.size, i.bytes)) = some (some (.int .i32 0), 1, 4) := by kernel_rfl
theorem info3 : (Try.prog.info? 3).map (fun i => (i.zero, i.size, i.bytes)) = some (some (.int .i64 0), 1, 8) := by kernel_rfl
theorem make22 (n : Nat) (hn : n ≤ 4096) (w : World) : (Instr.makeSlice 22 (.int .i64 (n : Int)) (.int .i64 (n : Int))).run Try.prog w = .ok (.slice (some ⟨w.heap.size, 0, none⟩) n n) (w.alloc (.cells (madeCells #[.int .i32 0] n) 21)) :=
  run_make_row' (P := Try.prog) 22 21 (.int .i32 0) 4 Try.underlying22 info21 rfl .i64 .i64 n (by omega) (by omega) w
theorem make25 (n : Nat) (hn : n ≤ 4096) (w : World) : (Instr.makeSlice 25 (.int .i64 (n : Int)) (.int .i64 (n : Int))).run Try.prog w = .ok (.slice (some ⟨w.heap.size, 0, none⟩) n n) (w.alloc (.cells (madeCells #[.int .i64 0] n) 3)) :=
  run_make_row' (P := Try.prog) 25 3 (.int .i64 0) 8 Try.underlying25 info3 rfl .i64 .i64 n (by omega) (by omega) w

/-- What the copy holds behind k rounds. -/
def copyAt (z : Nat → Int) (k j : Nat) : Value := if j < k then .int .i32 (z j) else .int .i32 0
theorem copyAt_step (z : Nat → Int) (k j : Nat) : (if j = k then Value.int .i32 (z k) else copyAt z k j) = copyAt z (k + 1) j := by
  unfold copyAt
  by_cases h : j = k
  · subst h; rw [if_pos rfl, if_pos (Nat.lt_succ_self _)]
  · rw [if_neg h]
    by_cases g : j < k
    · rw [if_pos g, if_pos (by omega)]
    · rw [if_neg g, if_neg (by omega)]

theorem clone_nil (w : World) : Calls Try.prog 6 #[.slice none 0 0] w fun e w' => e = .returned (.slice none 0 0) ∧ w = w' := by
  have e1 := eql22 none 0 0
  go_enter Try.func6, Try.ntmps6
  go_wp2
  go_ret
  exact ⟨rfl, rfl⟩

theorem clone_empty (x : Addr) (c : Nat) (w : World) : Calls Try.prog 6 #[.slice (some x) 0 c] w fun e w' => e = .returned (.slice (some ⟨w.heap.size, 0, none⟩) 0 0) ∧ w' = w.alloc (.cells (madeCells #[.int .i32 0] 0) 21) := by
  have e1 := eql22 (some x) 0 c
  have hmk : ∀ w : World, (Instr.makeSlice 22 (.int .i64 0) (.int .i64 0)).run Try.prog w = .ok (.slice (some ⟨w.heap.size, 0, none⟩) 0 0) (w.alloc (.cells (madeCells #[.int .i32 0] 0) 21)) := make22 0 (by omega)
  go_enter Try.func6, Try.ntmps6
  go_wp2
  refine wp_loop_rounds 1 ?_
  rw [rounds_succ]
  go_wp2
  go_ret
  exact ⟨rfl, rfl⟩

set_option maxHeartbeats 400000 in
theorem clone_row (b off n c : Nat) (z : Nat → Int) (w : World) (hn : n ≤ 4096) (hb : b < w.heap.size) (h1 : ∀ i, i < n → w.cell? ⟨b, off + i, none⟩ = some (.int .i32 (z i))) :
    Calls Try.prog 6 #[.slice (some ⟨b, off, none⟩) n c] w fun e w' => e = .returned (.slice (some ⟨w.heap.size, 0, none⟩) n n) ∧ w'.rowIs w.heap.size 21 n (fun i => .int .i32 (z i)) ∧ Below w.heap.size w w' := by
  have H1 : Hid (∀ i, i < n → w.cell? ⟨b, off + i, none⟩ = some (.int .i32 (z i))) := h1
  clear h1
  have e1 := eql22 (some ⟨b, off, none⟩) n c
  have hmk := make22 n hn
  go_enter Try.func6, Try.ntmps6
  go_wp2
  go_loopw [4] (fun i wr => ∃ k : Nat, k ≤ n ∧ i = .int .i64 k ∧ Hid (wr.rowIs w.heap.size 21 n (copyAt z k)) ∧ Hid (Below w.heap.size w wr)) (fun i _ => n - (intOf i).toNat)
  case atStart => exact ⟨0, Nat.zero_le _, rfl, World.rowIs_made w _ _ _, (Below.refl _ _).alloc (Nat.le_refl _) _⟩
  case round =>
    obtain ⟨k, hk, rfl, hrw, hbl⟩ := hrel
    by_cases hlt : k < n
    · have c1 : wr.cell? ⟨b, off + k, none⟩ = some (.int .i32 (z k)) := (hbl.out.cell (p := ⟨b, off + k, none⟩) hb).trans (H1.out k hlt)
      have c2 : wr.cell? ⟨w.heap.size, k, none⟩ = some (copyAt z k k) := hrw.out.cell hlt
      have f2 : wr.frozen? ⟨w.heap.size, k, none⟩ = false := hrw.out.frozen _
      go_wp2
      go_roundw
      case rel => exact ⟨k + 1, by omega, by go_num, (hrw.out.set _ _).congr (fun j _ => copyAt_step z k j), hbl.out.setCell (Nat.le_refl _) _⟩
      case measure => simp [intOf]; omega
    · have hkn : k = n := by omega
      subst hkn
      go_wp2
      go_ret
      exact ⟨rfl, hrw.out.congr (fun j hj => by unfold copyAt; rw [if_pos hj]), hbl.out⟩
end Go.Proofs.Qxb6603612a
