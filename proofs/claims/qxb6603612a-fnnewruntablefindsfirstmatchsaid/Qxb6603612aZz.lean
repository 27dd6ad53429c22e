/-
  Seat b6603612a: newRun at the nil slice; ZZnewRun.
-/
import Derived.Test.Qxb6603612aRun
namespace Go.Proofs.Qxb6603612a
open Go.RowKit
open Go.Proofs.Qxb6603612a.Plain

set_option maxHeartbeats 400000 in
theorem newRun_nil (w : World) :
    Calls Try.prog 14 #[.slice none 0 0] w fun e w' => e = .returned (.agg #[.slice none 0 0, .slice (some ⟨w.heap.size + 1, 0, none⟩) 0 0]) ∧ Below w.heap.size w w' := by
  have hmk : ∀ w : World, (Instr.makeSlice 25 (.int .i64 0) (.int .i64 0)).run Try.prog w = .ok (.slice (some ⟨w.heap.size, 0, none⟩) 0 0) (w.alloc (.cells (madeCells #[.int .i64 0] 0) 3)) := make25 0 (by omega)
  go_enter Try.func14, Try.ntmps14
  go_wp2_with fail
  refine (contains_any (.slice none 0 0) 0 (fun _ => 0) _ (by omega) (.inl ⟨rfl, rfl⟩)).mono ?_
  rintro e w' ⟨rfl, rfl⟩
  rw [show hasQ (fun _ => 0) 0 = false from rfl]
  go_wp2
  refine wp_loop_rounds 1 ?_
  rw [rounds_succ]
  go_wp2
  exact bodyPost_ret (v := .agg #[.slice none 0 0, .slice (some ⟨w.heap.size + 1, 0, none⟩) 0 0]) (by simp [results, Try.results14, go_sem]) rfl ⟨rfl, ((Below.refl _ _).alloc (Nat.le_refl _) _).alloc (by simp) _⟩

set_option maxHeartbeats 400000 in
theorem zz_nil (w : World) :
    Calls Try.prog 7 #[.slice none 0 0] w fun e w' => ∃ T, e = .returned (.tuple #[.slice none 0 0, .slice (some ⟨T, 0, none⟩) 0 0]) ∧ Below w.heap.size w w' := by
  go_enter Try.func7, Try.ntmps7
  go_wp2_with fail
  refine (newRun_nil _).mono ?_
  rintro e w1 ⟨rfl, hb⟩
  have HB : Hid (Below w.heap.size w w1) := hb
  have hs : w.heap.size ≤ w1.heap.size := hb.size
  clear hb
  go_wp2
  go_quiet (fail)
  go_wp2
  go_ret2
  exact ⟨_, rfl, below_drewN (HB.out.alloc hs _) _⟩

set_option maxHeartbeats 400000 in
theorem zz_q (b n : Nat) (z : Nat → Int) (w : World) (hn : n ≤ 4096) (hr : w.rowIs b 21 n (fun i => .int .i32 (z i))) (hq : hasQ z n = true) :
    Calls Try.prog 7 #[.slice (some ⟨b, 0, none⟩) n n] w fun e w' => e = .returned (.tuple #[.slice (some ⟨b, 0, none⟩) n n, .slice none 0 0]) ∧ Below w.heap.size w w' := by
  have HR : Hid (w.rowIs b 21 n (fun i => .int .i32 (z i))) := hr
  have HQ : Hid (hasQ z n = true) := hq
  clear hr hq
  go_enter Try.func7, Try.ntmps7
  go_wp2_with fail
  refine (newRun_q b n z _ hn HR.out HQ.out).mono ?_
  rintro e w1 ⟨rfl, hb⟩
  have HB : Hid (Below w.heap.size w w1) := hb
  have hs : w.heap.size ≤ w1.heap.size := hb.size
  clear hb
  go_wp2
  go_quiet (fail)
  go_wp2
  go_ret2
  exact ⟨rfl, below_drewN (HB.out.alloc hs _) _⟩

set_option maxHeartbeats 400000 in
theorem zz_t (b n : Nat) (z : Nat → Int) (w : World) (hn : n ≤ 4096) (hr : w.rowIs b 21 n (fun i => .int .i32 (z i))) (hq : hasQ z n = false) :
    Calls Try.prog 7 #[.slice (some ⟨b, 0, none⟩) n n] w fun e w' => e = .returned (.tuple #[.slice (some ⟨b, 0, none⟩) n n, .slice (some ⟨w.heap.size + 1, 0, none⟩) n n]) ∧ w'.rowIs (w.heap.size + 1) 3 n (fun j => .int .i64 (lb z (j + 1) : Int)) ∧ Below w.heap.size w w' := by
  have HR : Hid (w.rowIs b 21 n (fun i => .int .i32 (z i))) := hr
  have HQ : Hid (hasQ z n = false) := hq
  clear hr hq
  go_enter Try.func7, Try.ntmps7
  go_wp2_with fail
  refine (newRun_t b n z _ hn HR.out HQ.out).mono ?_
  rintro e w1 ⟨rfl, ht, hb⟩
  have HT : Hid (w1.rowIs (w.heap.size + 1) 3 n (fun j => .int .i64 (lb z (j + 1) : Int))) := ht
  have HB : Hid (Below w.heap.size w w1) := hb
  have hs : w.heap.size ≤ w1.heap.size := hb.size
  clear hb ht
  go_wp2
  go_quiet (fail)
  go_wp2
  go_ret2
  exact ⟨rfl, HT.out.alloc _, below_drewN (HB.out.alloc hs _) _⟩
end Go.Proofs.Qxb6603612a
