/-
  Seat b6603612a: the walk of FnNewRunTableFindsFirstMatch.
-/
import Derived.Test.Qxb6603612aExactWalk
import Derived.Test.Qxb6603612aKmp
namespace Go.Proofs.Qxb6603612a
open Go.RowKit
open Go.Proofs.Qxb6603612a.Plain

/-- A slice that came in: nil, or n numbers of z at some place. -/
def InV (w : World) (a : Option Addr) (n : Nat) (z : Nat → Int) : Prop := (a = none ∧ n = 0) ∨ ∃ x, a = some x ∧ Came w x n z

theorem came_below {w w' : World} {x : Addr} {n : Nat} {z : Nat → Int} (h : Came w x n z) (k : Below w.heap.size w w') : Came w' x n z := by
  rcases h with h | ⟨b, off, rfl, hb, hc⟩
  · exact .inl h
  · exact .inr ⟨b, off, rfl, Nat.lt_of_lt_of_le hb k.size, fun i hi => (k.cell (p := ⟨b, off + i, none⟩) hb).trans (hc i hi)⟩
theorem inV_below {w w' : World} {a : Option Addr} {n : Nat} {z : Nat → Int} (h : InV w a n z) (k : Below w.heap.size w w') : InV w' a n z := by
  rcases h with h | ⟨x, rfl, hx⟩
  · exact .inl h
  · exact .inr ⟨x, rfl, came_below hx k⟩
theorem sl_keeps {w w' : World} {v : Value} {n : Nat} {z : Nat → Int} (h : Sl w v n z) (k : Below w.heap.size w w') : Sl w' v n z := by
  rcases h with h | ⟨b, rfl, hr⟩
  · exact .inl h
  · exact .inr ⟨b, rfl, keeps hr k⟩

/-- zzCloneRunes at a slice that came in, nil or not. -/
theorem clone_any (a : Option Addr) (n c : Nat) (z : Nat → Int) (w : World) (hn : n ≤ 4096) (hc : a = none → c = 0) (h : InV w a n z) :
    Calls Try.prog 6 #[.slice a n c] w fun e w' => ∃ v, e = .returned v ∧ Sl w' v n z ∧ Below w.heap.size w w' := by
  rcases h with ⟨rfl, rfl⟩ | ⟨x, rfl, hx⟩
  · rw [hc rfl]
    exact (clone_nil w).mono fun e w' ⟨he, hw⟩ => ⟨_, he, .inl ⟨rfl, rfl⟩, hw ▸ Below.refl _ _⟩
  · exact (clone_in x n c z w hn hx).mono fun e w' ⟨he, hr, hb⟩ => ⟨_, he, .inr ⟨_, rfl, hr⟩, hb⟩

theorem kmp_any (v : Value) (N bp L bb : Nat) (t p : Nat → Int) (w : World) (hN : N ≤ 4096) (hL : L ≤ 4096) (hL0 : 0 < L) (ht : Sl w v N t) (hp : w.rowIs bp 21 L (fun i => .int .i32 (p i))) (hbb : w.rowIs bb 3 L (fun j => .int .i64 (lb p (j + 1) : Int))) :
    Calls Try.prog 12 #[v, .slice (some ⟨bp, 0, none⟩) L L, .slice (some ⟨bb, 0, none⟩) L L] w fun e w' => ∃ r : Int, e = .returned (.int .i64 r) ∧ IsFirst t N p L r ∧ ∃ q, w' = w.drewN q := by
  rcases ht with ⟨rfl, rfl⟩ | ⟨b, rfl, hr⟩
  · exact kmp_nil L bp bb t p w hL0
  · exact kmp_row b N bp L bb t p w hN hL hL0 hr hp hbb
theorem naive_any (v : Value) (N bp L : Nat) (t p : Nat → Int) (w : World) (hN : N ≤ 4096) (hL : L ≤ 4096) (hL0 : 0 < L) (ht : Sl w v N t) (hp : w.rowIs bp 21 L (fun i => .int .i32 (p i))) :
    Calls Try.prog 13 #[v, .slice (some ⟨bp, 0, none⟩) L L] w fun e w' => ∃ r : Int, e = .returned (.int .i64 r) ∧ IsFirst t N p L r ∧ ∃ q, w' = w.drewN q := by
  rcases ht with ⟨rfl, rfl⟩ | ⟨b, rfl, hr⟩
  · exact naive_nil L bp t p w hL hL0
  · exact naive_row b N bp L t p w hN hL hL0 hr hp

theorem bytes11 (a : Option Addr) (n c : Nat) (a' : Option Addr) (n' c' : Nat) (w : World) (hn : n ≤ 4096) (hn' : n' ≤ 4096) : Calls Try.prog 11 #[.slice a n c, .slice a' n' c'] w fun e w' => e = .returned (.bool true) ∧ w = w' := by
  go_enter Try.func11, Try.ntmps11
  go_wp2
  go_ret
  exact ⟨rfl, rfl⟩

theorem find_big (a : Option Addr) (n c : Nat) (a' : Option Addr) (n' c' : Nat) (w : World) (hm : n ≤ maxLen) (hm' : n' ≤ maxLen) (hb : 4096 < n ∨ 4096 < n') : Calls Try.prog 4 #[.slice a n c, .slice a' n' c'] w fun e w' => e = .returned (.bool true) ∧ Below w.heap.size w w' := by
  unfold maxLen at hm hm'
  rcases hb with hb | hb
  · go_enter Try.func4, Try.ntmps4
    go_wp2
    all_goals (go_ret; exact ⟨rfl, Below.refl _ _⟩)
  · by_cases hb2 : 4096 < n
    · go_enter Try.func4, Try.ntmps4
      go_wp2
      all_goals (go_ret; exact ⟨rfl, Below.refl _ _⟩)
    · go_enter Try.func4, Try.ntmps4
      go_wp2
      all_goals (go_ret; exact ⟨rfl, Below.refl _ _⟩)

set_option maxHeartbeats 1000000 in
theorem find_nil (a' : Option Addr) (N c' : Nat) (t : Nat → Int) (w : World) (hN : N ≤ 4096) (hc : a' = none → c' = 0) (ht : InV w a' N t) : Calls Try.prog 4 #[.slice none 0 0, .slice a' N c'] w fun e w' => e = .returned (.bool true) ∧ Below w.heap.size w w' := by
  have e0 := fun T => eql25 (some ⟨T, 0, none⟩) 0 0
  have HC : Hid (a' = none → c' = 0) := hc
  have HI : Hid (InV w a' N t) := ht
  have HN : Hid (N ≤ 4096) := hN
  clear hc ht
  go_enter Try.func4, Try.ntmps4
  go_wp2_with (first | (go_at_call 11; refine (bytes11 _ _ _ _ _ _ _ (by omega) HN.out).mono ?_; rintro e w' ⟨rfl, rfl⟩))
  refine (clone_nil _).mono ?_
  rintro e w' ⟨rfl, rfl⟩
  go_wp2_with fail
  refine (clone_any a' N c' t w hN HC.out HI.out).mono ?_
  rintro e w1 ⟨v, rfl, _, b1⟩
  have B1 : Hid (Below w.heap.size w w1) := b1
  clear b1
  go_wp2_with fail
  refine (clone_nil _).mono ?_
  rintro e w' ⟨rfl, rfl⟩
  go_wp2_with fail
  refine (zz_nil _).mono ?_
  rintro e w2 ⟨T, rfl, b2⟩
  have B2 : Hid (Below w.heap.size w w2) := B1.out.trans (b2.mono B1.out.size)
  clear b2
  go_wp2_with fail
  refine (same_nil _).mono ?_
  rintro e w3 ⟨rfl, q, rfl⟩
  go_wp2_with fail
  refine (hasQuestion_nil _).mono ?_
  rintro e w4 ⟨rfl, rfl⟩
  go_wp2
  refine wp_loop_rounds 1 ?_
  rw [rounds_succ]
  go_wp2
  go_ret
  exact ⟨rfl, below_drewN B2.out _⟩

set_option maxHeartbeats 1000000 in
/-- .. where '?' is among the run's characters. -/
theorem find_q (x : Addr) (n c : Nat) (z : Nat → Int) (a' : Option Addr) (N c' : Nat) (t : Nat → Int) (w : World) (hn : n ≤ 4096) (hN : N ≤ 4096) (hc : a' = none → c' = 0) (ht : InV w a' N t) (hx : Came w x n z) (hq : hasQ z n = true) :
    Calls Try.prog 4 #[.slice (some x) n c, .slice a' N c'] w fun e w' => e = .returned (.bool true) ∧ Below w.heap.size w w' := by
  have e0 := eql25 none 0 0
  have HX : Hid (Came w x n z) := hx
  have HQ : Hid (hasQ z n = true) := hq
  have HC : Hid (a' = none → c' = 0) := hc
  have HI : Hid (InV w a' N t) := ht
  have HN : Hid (n ≤ 4096) := hn
  have HN' : Hid (N ≤ 4096) := hN
  clear hx hq hc ht
  go_enter Try.func4, Try.ntmps4
  go_wp2_with (go_at_call 11; refine (bytes11 _ _ _ _ _ _ _ HN.out HN'.out).mono ?_; rintro e w' ⟨rfl, rfl⟩)
  refine (clone_in x n c z w HN.out HX.out).mono ?_
  rintro e w1 ⟨rfl, r1, b1⟩
  have R1 : Hid (w1.rowIs w.heap.size 21 n (fun i => .int .i32 (z i))) := r1
  have B1 : Hid (Below w.heap.size w w1) := b1
  clear r1 b1
  go_wp2_with fail
  refine (clone_any a' N c' t w1 hN HC.out (inV_below HI.out B1.out)).mono ?_
  rintro e w2 ⟨v, rfl, s2, b2⟩
  have S2 : Hid (Sl w2 v N t) := s2
  have R12 : Hid (w2.rowIs w.heap.size 21 n (fun i => .int .i32 (z i))) := keeps R1.out b2
  have B2 : Hid (Below w.heap.size w w2) := B1.out.trans (b2.mono B1.out.size)
  clear s2 b2
  go_wp2_with fail
  refine (clone_own w.heap.size n z w2 HN.out R12.out).mono ?_
  rintro e w3 ⟨rfl, r3, b3⟩
  have R3 : Hid (w3.rowIs w2.heap.size 21 n (fun i => .int .i32 (z i))) := r3
  have R13 : Hid (w3.rowIs w.heap.size 21 n (fun i => .int .i32 (z i))) := keeps R12.out b3
  have S3 : Hid (Sl w3 v N t) := sl_keeps S2.out b3
  have B3 : Hid (Below w.heap.size w w3) := B2.out.trans (b3.mono B2.out.size)
  clear r3 b3
  go_wp2_with fail
  refine (zz_q w.heap.size n z w3 HN.out R13.out HQ.out).mono ?_
  rintro e w4 ⟨rfl, b4⟩
  have R14 : Hid (w4.rowIs w.heap.size 21 n (fun i => .int .i32 (z i))) := keeps R13.out b4
  have R34 : Hid (w4.rowIs w2.heap.size 21 n (fun i => .int .i32 (z i))) := keeps R3.out b4
  have B4 : Hid (Below w.heap.size w w4) := B3.out.trans (b4.mono B3.out.size)
  clear b4
  go_wp2_with fail
  refine (same_row w.heap.size w2.heap.size n z w4 HN.out R14.out R34.out).mono ?_
  rintro e w5 ⟨rfl, q, rfl⟩
  go_wp2_with fail
  refine (hasQuestion_row w2.heap.size n z (w4.drewN q) HN.out (by exact R34.out)).mono ?_
  rintro e w6 ⟨rfl, rfl⟩
  rw [HQ.out]
  go_wp2
  go_ret
  exact ⟨rfl, below_drewN B4.out _⟩

set_option maxHeartbeats 1000000 in
/-- .. where the run is empty. -/
theorem find_e (x : Addr) (c : Nat) (z : Nat → Int) (a' : Option Addr) (N c' : Nat) (t : Nat → Int) (w : World) (hN : N ≤ 4096) (hc : a' = none → c' = 0) (ht : InV w a' N t) (hx : Came w x 0 z) (hq : hasQ z 0 = false) :
    Calls Try.prog 4 #[.slice (some x) 0 c, .slice a' N c'] w fun e w' => e = .returned (.bool true) ∧ Below w.heap.size w w' := by
  have e0 := fun T => eql25 (some ⟨T, 0, none⟩) 0 0
  have HX : Hid (Came w x 0 z) := hx
  have HQ : Hid (hasQ z 0 = false) := hq
  have HC : Hid (a' = none → c' = 0) := hc
  have HI : Hid (InV w a' N t) := ht
  have HN : Hid (0 ≤ 4096) := Nat.zero_le _
  have HN' : Hid (N ≤ 4096) := hN
  clear hx hq hc ht
  go_enter Try.func4, Try.ntmps4
  go_wp2_with (go_at_call 11; refine (bytes11 _ _ _ _ _ _ _ HN.out HN'.out).mono ?_; rintro e w' ⟨rfl, rfl⟩)
  refine (clone_in x 0 c z w HN.out HX.out).mono ?_
  rintro e w1 ⟨rfl, r1, b1⟩
  have R1 : Hid (w1.rowIs w.heap.size 21 0 (fun i => .int .i32 (z i))) := r1
  have B1 : Hid (Below w.heap.size w w1) := b1
  clear r1 b1
  go_wp2_with fail
  refine (clone_any a' N c' t w1 hN HC.out (inV_below HI.out B1.out)).mono ?_
  rintro e w2 ⟨v, rfl, s2, b2⟩
  have S2 : Hid (Sl w2 v N t) := s2
  have R12 : Hid (w2.rowIs w.heap.size 21 0 (fun i => .int .i32 (z i))) := keeps R1.out b2
  have B2 : Hid (Below w.heap.size w w2) := B1.out.trans (b2.mono B1.out.size)
  clear s2 b2
  go_wp2_with fail
  refine (clone_own w.heap.size 0 z w2 HN.out R12.out).mono ?_
  rintro e w3 ⟨rfl, r3, b3⟩
  have R3 : Hid (w3.rowIs w2.heap.size 21 0 (fun i => .int .i32 (z i))) := r3
  have R13 : Hid (w3.rowIs w.heap.size 21 0 (fun i => .int .i32 (z i))) := keeps R12.out b3
  have S3 : Hid (Sl w3 v N t) := sl_keeps S2.out b3
  have B3 : Hid (Below w.heap.size w w3) := B2.out.trans (b3.mono B2.out.size)
  clear r3 b3
  go_wp2_with fail
  refine (zz_t w.heap.size 0 z w3 HN.out R13.out HQ.out).mono ?_
  rintro e w4 ⟨rfl, _, b4⟩
  have R14 : Hid (w4.rowIs w.heap.size 21 0 (fun i => .int .i32 (z i))) := keeps R13.out b4
  have R34 : Hid (w4.rowIs w2.heap.size 21 0 (fun i => .int .i32 (z i))) := keeps R3.out b4
  have B4 : Hid (Below w.heap.size w w4) := B3.out.trans (b4.mono B3.out.size)
  clear b4
  go_wp2_with fail
  refine (same_row w.heap.size w2.heap.size 0 z w4 HN.out R14.out R34.out).mono ?_
  rintro e w5 ⟨rfl, q, rfl⟩
  go_wp2_with fail
  refine (hasQuestion_row w2.heap.size 0 z (w4.drewN q) HN.out (by exact R34.out)).mono ?_
  rintro e w6 ⟨rfl, rfl⟩
  rw [HQ.out]
  go_wp2
  refine wp_loop_rounds 1 ?_
  rw [rounds_succ]
  go_wp2
  go_ret
  exact ⟨rfl, below_drewN B4.out _⟩

set_option maxHeartbeats 2000000 in
/-- .. where the run is not empty and holds no '?'. -/
theorem find_t (x : Addr) (n c : Nat) (z : Nat → Int) (a' : Option Addr) (N c' : Nat) (t : Nat → Int) (w : World) (hn : n ≤ 4096) (hn0 : 0 < n) (hN : N ≤ 4096) (hc : a' = none → c' = 0) (ht : InV w a' N t) (hx : Came w x n z) (hq : hasQ z n = false) :
    Calls Try.prog 4 #[.slice (some x) n c, .slice a' N c'] w fun e w' => e = .returned (.bool true) ∧ Below w.heap.size w w' := by
  have e0 := fun T => eql25 (some ⟨T, 0, none⟩) n n
  have hz0 : ((n : Int) == 0) = false := by rw [beq_eq_false_iff_ne]; omega
  have HX : Hid (Came w x n z) := hx
  have HQ : Hid (hasQ z n = false) := hq
  have HC : Hid (a' = none → c' = 0) := hc
  have HI : Hid (InV w a' N t) := ht
  have HN : Hid (n ≤ 4096) := hn
  have HN' : Hid (N ≤ 4096) := hN
  clear hx hq hc ht
  go_enter Try.func4, Try.ntmps4
  go_wp2_with (go_at_call 11; refine (bytes11 _ _ _ _ _ _ _ HN.out HN'.out).mono ?_; rintro e w' ⟨rfl, rfl⟩)
  refine (clone_in x n c z w HN.out HX.out).mono ?_
  rintro e w1 ⟨rfl, r1, b1⟩
  have R1 : Hid (w1.rowIs w.heap.size 21 n (fun i => .int .i32 (z i))) := r1
  have B1 : Hid (Below w.heap.size w w1) := b1
  clear r1 b1
  go_wp2_with fail
  refine (clone_any a' N c' t w1 hN HC.out (inV_below HI.out B1.out)).mono ?_
  rintro e w2 ⟨v, rfl, s2, b2⟩
  have S2 : Hid (Sl w2 v N t) := s2
  have R12 : Hid (w2.rowIs w.heap.size 21 n (fun i => .int .i32 (z i))) := keeps R1.out b2
  have B2 : Hid (Below w.heap.size w w2) := B1.out.trans (b2.mono B1.out.size)
  clear s2 b2
  go_wp2_with fail
  refine (clone_own w.heap.size n z w2 HN.out R12.out).mono ?_
  rintro e w3 ⟨rfl, r3, b3⟩
  have R3 : Hid (w3.rowIs w2.heap.size 21 n (fun i => .int .i32 (z i))) := r3
  have R13 : Hid (w3.rowIs w.heap.size 21 n (fun i => .int .i32 (z i))) := keeps R12.out b3
  have S3 : Hid (Sl w3 v N t) := sl_keeps S2.out b3
  have B3 : Hid (Below w.heap.size w w3) := B2.out.trans (b3.mono B2.out.size)
  clear r3 b3
  go_wp2_with fail
  refine (zz_t w.heap.size n z w3 HN.out R13.out HQ.out).mono ?_
  rintro e w4 ⟨rfl, t4, b4⟩
  have R14 : Hid (w4.rowIs w.heap.size 21 n (fun i => .int .i32 (z i))) := keeps R13.out b4
  have R34 : Hid (w4.rowIs w2.heap.size 21 n (fun i => .int .i32 (z i))) := keeps R3.out b4
  have T4 : Hid (w4.rowIs (w3.heap.size + 1) 3 n (fun j => .int .i64 (lb z (j + 1) : Int))) := t4
  have S4 : Hid (Sl w4 v N t) := sl_keeps S3.out b4
  have B4 : Hid (Below w.heap.size w w4) := B3.out.trans (b4.mono B3.out.size)
  clear b4 t4
  go_wp2_with fail
  refine (same_row w.heap.size w2.heap.size n z w4 HN.out R14.out R34.out).mono ?_
  rintro e w5 ⟨rfl, q, rfl⟩
  go_wp2_with fail
  refine (hasQuestion_row w2.heap.size n z (w4.drewN q) HN.out (by exact R34.out)).mono ?_
  rintro e w6 ⟨rfl, rfl⟩
  rw [HQ.out]
  go_wp2
  go_loopw [8] (fun vi wr => ∃ i : Nat, i ≤ n ∧ vi = .int .i64 i ∧ wr = w4.drewN q) (fun vi _ => n - (intOf vi).toNat)
  case atStart => exact ⟨0, Nat.zero_le _, rfl, rfl⟩
  case round =>
    obtain ⟨i, hi, rfl, rfl⟩ := hrel
    by_cases hlt : i < n
    · have ct : w4.cell? ⟨w3.heap.size + 1, i, none⟩ = some (.int .i64 (lb z (i + 1) : Int)) := T4.out.cell hlt
      have hlb : lb z (i + 1) < i + 1 := lb_lt z (i + 1) (by omega)
      obtain ⟨m, hm⟩ : ∃ m, m = lb z (i + 1) := ⟨_, rfl⟩
      rw [← hm] at ct hlb
      clear hm
      go_wp2
      go_roundw
      case rel => exact ⟨i + 1, by omega, by go_num, by first | trivial | rfl⟩
      case measure => simp [intOf]; omega
    · go_wp2_with fail
      refine (kmp_any v N w2.heap.size n (w3.heap.size + 1) t z (w4.drewN q) hN hn hn0 (by exact S4.out) (by exact R34.out) (by exact T4.out)).mono ?_
      rintro e w7 ⟨r1, rfl, h1, q1, rfl⟩
      have H1 : Hid (IsFirst t N z n r1) := h1
      clear h1
      go_wp2_with fail
      refine (naive_any v N w2.heap.size n t z _ hN hn hn0 ?g1 ?g2).mono ?_
      case g1 => exact S4.out
      case g2 => exact R34.out
      rintro e w8 ⟨r2, rfl, h2, q2, rfl⟩
      obtain rfl := H1.out.unique h2
      clear h2
      go_wp2
      go_ret
      exact ⟨by simp, below_drewN B4.out _⟩
end Go.Proofs.Qxb6603612a
