/-
  Seat b6603612a: the walk of FnNewRunBordersExact.
-/
import Derived.Test.Qxb6603612aZz
import Derived.Test.Qxb6603612aBorder
namespace Go.Proofs.Qxb6603612a
open Go.RowKit
open Go.Proofs.Qxb6603612a.Plain

/-- A slice that came in and is not nil: n numbers of z at x. -/
def Came (w : World) (x : Addr) (n : Nat) (z : Nat → Int) : Prop :=
  n = 0 ∨ ∃ b off, x = ⟨b, off, none⟩ ∧ b < w.heap.size ∧ ∀ i, i < n → w.cell? ⟨b, off + i, none⟩ = some (.int .i32 (z i))

theorem clone_in (x : Addr) (n c : Nat) (z : Nat → Int) (w : World) (hn : n ≤ 4096) (h : Came w x n z) :
    Calls Try.prog 6 #[.slice (some x) n c] w fun e w' => e = .returned (.slice (some ⟨w.heap.size, 0, none⟩) n n) ∧ w'.rowIs w.heap.size 21 n (fun i => .int .i32 (z i)) ∧ Below w.heap.size w w' := by
  rcases h with rfl | ⟨b, off, rfl, hb, hc⟩
  · refine (clone_empty x c w).mono fun e w' ⟨he, hw⟩ => ⟨he, ?_, ?_⟩
    · rw [hw]; exact (World.rowIs_made w _ _ _).congr (fun i hi => absurd hi (Nat.not_lt_zero _))
    · rw [hw]; exact (Below.refl _ _).alloc (Nat.le_refl _) _
  · exact clone_row b off n c z w hn hb hc

theorem clone_own (b n : Nat) (z : Nat → Int) (w : World) (hn : n ≤ 4096) (hr : w.rowIs b 21 n (fun i => .int .i32 (z i))) :
    Calls Try.prog 6 #[.slice (some ⟨b, 0, none⟩) n n] w fun e w' => e = .returned (.slice (some ⟨w.heap.size, 0, none⟩) n n) ∧ w'.rowIs w.heap.size 21 n (fun i => .int .i32 (z i)) ∧ Below w.heap.size w w' :=
  clone_row b 0 n n z w hn hr.lt (fun i hi => by rw [Nat.zero_add]; exact hr.cell hi)

theorem keeps {w w' : World} {b t n : Nat} {f : Nat → Value} (h : w.rowIs b t n f) (k : Below w.heap.size w w') : w'.rowIs b t n f := h.of_block (k.block b h.lt)

/-- A reading callee's contract, met in a world that has drawn already. -/
theorem quiet_more {f : FuncId} {args : Array Value} {w : World} {p x : Nat} {v : Value} (h : Calls Try.prog f args (w.drewN (p + x)) fun e w' => e = .returned v ∧ ∃ m, w' = (w.drewN (p + x)).drewN m) :
    Calls Try.prog f args (w.drewN (p + x)) fun e w'' => e = .returned v ∧ ∃ m, w'' = w.drewN (p + m) :=
  h.mono fun _ _ ⟨he, m, hm⟩ => ⟨he, x + m, by rw [hm, World.drewN_drewN, Nat.add_assoc]⟩

theorem bytes5 (a : Option Addr) (n c : Nat) (w : World) (hn : n ≤ 4096) : Calls Try.prog 5 #[.slice a n c] w fun e w' => e = .returned (.bool true) ∧ w = w' := by
  go_enter Try.func5, Try.ntmps5
  go_wp2
  go_ret
  exact ⟨rfl, rfl⟩

theorem exact_big (a : Option Addr) (n c : Nat) (w : World) (hn : 4096 < n) (hm : n ≤ maxLen) : Calls Try.prog 3 #[.slice a n c] w fun e w' => e = .returned (.bool true) ∧ Below w.heap.size w w' := by
  unfold maxLen at hm
  go_enter Try.func3, Try.ntmps3
  go_wp2
  all_goals (go_ret; exact ⟨rfl, Below.refl _ _⟩)

set_option maxHeartbeats 1000000 in
theorem exact_nil (w : World) : Calls Try.prog 3 #[.slice none 0 0] w fun e w' => e = .returned (.bool true) ∧ Below w.heap.size w w' := by
  have e0 := fun T => eql25 (some ⟨T, 0, none⟩) 0 0
  go_enter Try.func3, Try.ntmps3
  go_wp2_with (first | (go_at_call 5; refine (bytes5 _ _ _ _ (by omega)).mono ?_; rintro e w' ⟨rfl, rfl⟩) | (go_at_call 6; refine (clone_nil _).mono ?_; rintro e w' ⟨rfl, rfl⟩))
  refine (zz_nil _).mono ?_
  rintro e w1 ⟨T, rfl, hb⟩
  have HB : Hid (Below w.heap.size w w1) := hb
  clear hb
  go_wp2_with fail
  refine (same_nil _).mono ?_
  rintro e w2 ⟨rfl, q, rfl⟩
  go_wp2_with fail
  refine (hasQuestion_nil _).mono ?_
  rintro e w3 ⟨rfl, rfl⟩
  go_wp2
  refine wp_loop_rounds 1 ?_
  rw [rounds_succ]
  go_wp2
  go_ret
  exact ⟨rfl, below_drewN HB.out _⟩

set_option maxHeartbeats 1000000 in
/-- .. where '?' is among the characters. -/
theorem exact_q (x : Addr) (n c : Nat) (z : Nat → Int) (w : World) (hn : n ≤ 4096) (hx : Came w x n z) (hq : hasQ z n = true) :
    Calls Try.prog 3 #[.slice (some x) n c] w fun e w' => e = .returned (.bool true) ∧ Below w.heap.size w w' := by
  have e0 := eql25 none 0 0
  have HX : Hid (Came w x n z) := hx
  have HQ : Hid (hasQ z n = true) := hq
  have HN : Hid (n ≤ 4096) := hn
  clear hx hq
  go_enter Try.func3, Try.ntmps3
  go_wp2_with (go_at_call 5; refine (bytes5 _ _ _ _ HN.out).mono ?_; rintro e w' ⟨rfl, rfl⟩)
  refine (clone_in x n c z w hn HX.out).mono ?_
  rintro e w1 ⟨rfl, r1, b1⟩
  have R1 : Hid (w1.rowIs w.heap.size 21 n (fun i => .int .i32 (z i))) := r1
  have B1 : Hid (Below w.heap.size w w1) := b1
  clear r1 b1
  go_wp2_with fail
  refine (clone_own w.heap.size n z w1 hn R1.out).mono ?_
  rintro e w2 ⟨rfl, r2, b2⟩
  have R2 : Hid (w2.rowIs w1.heap.size 21 n (fun i => .int .i32 (z i))) := r2
  have R12 : Hid (w2.rowIs w.heap.size 21 n (fun i => .int .i32 (z i))) := keeps R1.out b2
  have B2 : Hid (Below w.heap.size w w2) := B1.out.trans (b2.mono B1.out.size)
  clear r2 b2
  go_wp2_with fail
  refine (zz_q w.heap.size n z w2 hn R12.out HQ.out).mono ?_
  rintro e w3 ⟨rfl, b3⟩
  have R13 : Hid (w3.rowIs w.heap.size 21 n (fun i => .int .i32 (z i))) := keeps R12.out b3
  have R23 : Hid (w3.rowIs w1.heap.size 21 n (fun i => .int .i32 (z i))) := keeps R2.out b3
  have B3 : Hid (Below w.heap.size w w3) := B2.out.trans (b3.mono B2.out.size)
  clear b3
  go_wp2_with fail
  refine (same_row w.heap.size w1.heap.size n z w3 hn R13.out R23.out).mono ?_
  rintro e w4 ⟨rfl, q, rfl⟩
  go_wp2_with fail
  refine (hasQuestion_row w1.heap.size n z (w3.drewN q) hn (by exact R23.out)).mono ?_
  rintro e w5 ⟨rfl, rfl⟩
  rw [HQ.out]
  go_wp2
  go_ret
  exact ⟨rfl, below_drewN B3.out _⟩

set_option maxHeartbeats 1000000 in
/-- .. where it is not. -/
theorem exact_t (x : Addr) (n c : Nat) (z : Nat → Int) (w : World) (hn : n ≤ 4096) (hx : Came w x n z) (hq : hasQ z n = false) :
    Calls Try.prog 3 #[.slice (some x) n c] w fun e w' => e = .returned (.bool true) ∧ Below w.heap.size w w' := by
  have e0 := fun T => eql25 (some ⟨T, 0, none⟩) n n
  have HX : Hid (Came w x n z) := hx
  have HQ : Hid (hasQ z n = false) := hq
  have HN : Hid (n ≤ 4096) := hn
  clear hx hq
  go_enter Try.func3, Try.ntmps3
  go_wp2_with (go_at_call 5; refine (bytes5 _ _ _ _ HN.out).mono ?_; rintro e w' ⟨rfl, rfl⟩)
  refine (clone_in x n c z w hn HX.out).mono ?_
  rintro e w1 ⟨rfl, r1, b1⟩
  have R1 : Hid (w1.rowIs w.heap.size 21 n (fun i => .int .i32 (z i))) := r1
  have B1 : Hid (Below w.heap.size w w1) := b1
  clear r1 b1
  go_wp2_with fail
  refine (clone_own w.heap.size n z w1 hn R1.out).mono ?_
  rintro e w2 ⟨rfl, r2, b2⟩
  have R2 : Hid (w2.rowIs w1.heap.size 21 n (fun i => .int .i32 (z i))) := r2
  have R12 : Hid (w2.rowIs w.heap.size 21 n (fun i => .int .i32 (z i))) := keeps R1.out b2
  have B2 : Hid (Below w.heap.size w w2) := B1.out.trans (b2.mono B1.out.size)
  clear r2 b2
  go_wp2_with fail
  refine (zz_t w.heap.size n z w2 hn R12.out HQ.out).mono ?_
  rintro e w3 ⟨rfl, t3, b3⟩
  have R13 : Hid (w3.rowIs w.heap.size 21 n (fun i => .int .i32 (z i))) := keeps R12.out b3
  have R23 : Hid (w3.rowIs w1.heap.size 21 n (fun i => .int .i32 (z i))) := keeps R2.out b3
  have T3 : Hid (∀ i, i < n → w3.cell? ⟨w2.heap.size + 1, i, none⟩ = some (.int .i64 (lb z (i + 1) : Int))) := fun i hi => t3.cell hi
  have B3 : Hid (Below w.heap.size w w3) := B2.out.trans (b3.mono B2.out.size)
  clear b3 t3
  go_wp2_with fail
  refine (same_row w.heap.size w1.heap.size n z w3 hn R13.out R23.out).mono ?_
  rintro e w4 ⟨rfl, q, rfl⟩
  go_wp2_with fail
  refine (hasQuestion_row w1.heap.size n z (w3.drewN q) hn (by exact R23.out)).mono ?_
  rintro e w5 ⟨rfl, rfl⟩
  rw [HQ.out]
  go_wp2
  go_loopw [6] (fun vi wr => ∃ i p : Nat, i ≤ n ∧ vi = .int .i64 i ∧ wr = w3.drewN p) (fun vi _ => n - (intOf vi).toNat)
  case atStart => exact ⟨0, q, Nat.zero_le _, rfl, rfl⟩
  case round =>
    obtain ⟨i, p, hi, rfl, rfl⟩ := hrel
    by_cases hlt : i < n
    · have ct := T3.out i hlt
      have hii : (i : Int) < (n : Int) := by omega
      have hwr : IntKind.i64.wrap ((i : Int) + 1) = (i : Int) + 1 := by rw [IntKind.wrap_i64]; omega
      go_wp2
      go_quiet ((go_at_call 10; refine quiet_more (longest_any w1.heap.size n i z _ hn hlt ?_); exact R23.out))
      go_wp2
      go_roundw
      case rel => exact ⟨i + 1, p + nq, by omega, by go_num, rfl⟩
      case measure => simp [intOf]; omega
    · go_wp2
      go_ret
      exact ⟨rfl, below_drewN B3.out _⟩
end Go.Proofs.Qxb6603612a
