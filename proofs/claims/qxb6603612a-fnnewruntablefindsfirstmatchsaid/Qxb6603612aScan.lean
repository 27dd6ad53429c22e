/-
  Seat b6603612a: the walks of slices.Index, slices.Contains, zzHasQuestion, zzSameRunes and zzCloneRunes.
-/
import Derived.Test.Qxb6603612aProg
import Derived.Test.Qxb6603612aPlain
import Derived.WalkKit
import Derived.Deep.OwnRows
import Derived.Deep.Draws
import Derived.Deep.QuietTactic
import Derived.BigQuiet
import Derived.WalkSpells
namespace Go.Proofs.Qxb6603612a
open Go.RowKit

/-- Is '?' among the first n places? -/
def hasQ (z : Nat → Int) : Nat → Bool
  | 0 => false
  | n + 1 => hasQ z n || (z n == 63)

theorem hasQ_hit (z : Nat → Int) (n k : Nat) (hk : k < n) (h : (z k == 63) = true) : hasQ z n = true := by
  induction n with
  | zero => omega
  | succ n ih =>
    unfold hasQ
    rcases Nat.lt_or_ge k n with g | g
    · rw [ih g]; rfl
    · have e : k = n := by omega
      subst e
      rw [h]; simp
theorem hasQ_miss (z : Nat → Int) (k : Nat) (h0 : hasQ z k = false) (h : (z k == 63) = false) : hasQ z (k + 1) = false := by
  unfold hasQ; rw [h0, h]; rfl

/-- A slice of runes of length n holding z's first n numbers: nil, or the whole of a block of its own. -/
def Sl (w : World) (v : Value) (n : Nat) (z : Nat → Int) : Prop :=
  (v = .slice none 0 0 ∧ n = 0) ∨ ∃ b, v = .slice (some ⟨b, 0, none⟩) n n ∧ w.rowIs b 21 n (fun i => .int .i32 (z i))

set_option maxHeartbeats 400000 in
/-- zzHasQuestion. -/
theorem hasQuestion_row (b n : Nat) (z : Nat → Int) (w : World) (hn : n ≤ 4096) (hr : w.rowIs b 21 n (fun i => .int .i32 (z i))) :
    Calls Try.prog 9 #[.slice (some ⟨b, 0, none⟩) n n] w fun e w' => e = .returned (.bool (hasQ z n)) ∧ w = w' := by
  have hc : ∀ i, i < n → w.cell? ⟨b, i, none⟩ = some (.int .i32 (z i)) := fun i hi => hr.cell hi
  have HC : Hid (∀ i, i < n → w.cell? ⟨b, i, none⟩ = some (.int .i32 (z i))) := hc
  clear hr hc
  go_enter Try.func9, Try.ntmps9
  go_wp2
  go_loop [3] (fun i => ∃ k : Nat, k ≤ n ∧ i = .int .i64 k ∧ Hid (hasQ z k = false)) (fun i => n - (intOf i).toNat)
  case atStart => exact ⟨0, Nat.zero_le _, rfl, rfl⟩
  case round =>
    obtain ⟨k, hk, rfl, hq⟩ := hrel
    by_cases hlt : k < n
    · have hcell := HC.out k hlt
      cases hz : (z k == 63) with
      | true =>
        have HQ : Hid (hasQ z n = true) := hasQ_hit z n k hlt hz
        go_wp2
        go_ret
        exact ⟨by rw [HQ.out]; rfl, rfl⟩
      | false =>
        have HQ : Hid (hasQ z (k + 1) = false) := hasQ_miss z k hq.out hz
        go_wp2
        go_round
        case rel => exact ⟨k + 1, by omega, by go_num, HQ⟩
        case measure => simp [intOf]; omega
    · have hkn : k = n := by omega
      subst hkn
      go_wp2
      go_ret
      exact ⟨by rw [hq.out]; rfl, rfl⟩

theorem hasQuestion_nil (w : World) : Calls Try.prog 9 #[.slice none 0 0] w fun e w' => e = .returned (.bool false) ∧ w = w' := by
  go_enter Try.func9, Try.ntmps9
  go_wp2
  refine wp_loop_rounds 1 ?_
  rw [rounds_succ]
  go_wp2
  go_ret
  exact ⟨rfl, rfl⟩

theorem hasQuestion_any (v : Value) (n : Nat) (z : Nat → Int) (w : World) (hn : n ≤ 4096) (h : Sl w v n z) :
    Calls Try.prog 9 #[v] w fun e w' => e = .returned (.bool (hasQ z n)) ∧ w = w' := by
  rcases h with ⟨rfl, rfl⟩ | ⟨b, rfl, hr⟩
  · exact hasQuestion_nil w
  · exact hasQuestion_row b n z w hn hr

set_option maxHeartbeats 400000 in
/-- slices.Index at '?'. -/
theorem index_row (b n : Nat) (z : Nat → Int) (w : World) (hn : n ≤ 4096) (hr : w.rowIs b 21 n (fun i => .int .i32 (z i))) :
    Calls Try.prog 17 #[.slice (some ⟨b, 0, none⟩) n n, .int .i32 63] w fun e w' => ∃ r : Int, e = .returned (.int .i64 r) ∧ (hasQ z n = true → 0 ≤ r) ∧ (hasQ z n = false → r < 0) ∧ w = w' := by
  have hc : ∀ i, i < n → w.cell? ⟨b, i, none⟩ = some (.int .i32 (z i)) := fun i hi => hr.cell hi
  have HC : Hid (∀ i, i < n → w.cell? ⟨b, i, none⟩ = some (.int .i32 (z i))) := hc
  clear hr hc
  go_enter Try.func17, Try.ntmps17
  go_wp2
  go_loop [8] (fun i => ∃ k : Nat, k ≤ n ∧ i = .int .i64 k ∧ Hid (hasQ z k = false)) (fun i => n - (intOf i).toNat)
  case atStart => exact ⟨0, Nat.zero_le _, rfl, rfl⟩
  case round =>
    obtain ⟨k, hk, rfl, hq⟩ := hrel
    by_cases hlt : k < n
    · have hcell := HC.out k hlt
      cases hz : (z k == 63) with
      | true =>
        have hz' : (63 == z k) = true := by rw [BEq.comm]; exact hz
        have HQ : Hid (hasQ z n = true) := hasQ_hit z n k hlt hz
        go_wp2
        go_ret
        exact ⟨(k : Int), rfl, fun _ => by omega, fun h => absurd (HQ.out.symm.trans h) (by decide), rfl⟩
      | false =>
        have hz' : (63 == z k) = false := by rw [BEq.comm]; exact hz
        have HQ : Hid (hasQ z (k + 1) = false) := hasQ_miss z k hq.out hz
        go_wp2
        go_round
        case rel => exact ⟨k + 1, by omega, by go_num, HQ⟩
        case measure => simp [intOf]; omega
    · have hkn : k = n := by omega
      subst hkn
      go_wp2
      go_ret
      exact ⟨-1, rfl, fun h => absurd (hq.out.symm.trans h) (by decide), fun _ => by omega, rfl⟩

theorem index_nil (w : World) : Calls Try.prog 17 #[.slice none 0 0, .int .i32 63] w fun e w' => e = .returned (.int .i64 (-1)) ∧ w = w' := by
  go_enter Try.func17, Try.ntmps17
  go_wp2
  refine wp_loop_rounds 1 ?_
  rw [rounds_succ]
  go_wp2
  go_ret
  exact ⟨rfl, rfl⟩

/-- slices.Contains at '?'. -/
theorem contains_any (v : Value) (n : Nat) (z : Nat → Int) (w : World) (hn : n ≤ 4096) (h : Sl w v n z) :
    Calls Try.prog 16 #[v, .int .i32 63] w fun e w' => e = .returned (.bool (hasQ z n)) ∧ w = w' := by
  rcases h with ⟨rfl, rfl⟩ | ⟨b, rfl, hr⟩
  · go_enter Try.func16, Try.ntmps16
    go_wp2_with (go_at_call 17; refine (index_nil _).mono ?_; rintro e w' ⟨rfl, rfl⟩)
    go_ret
    exact ⟨rfl, rfl⟩
  · have HR : Hid (w.rowIs b 21 n (fun i => .int .i32 (z i))) := hr
    clear hr
    cases hq : hasQ z n with
    | true =>
      have HQ : Hid (hasQ z n = true) := hq
      clear hq
      go_enter Try.func16, Try.ntmps16
      go_wp2_with fail
      refine (index_row b n z w hn HR.out).mono ?_
      rintro e w' ⟨r, rfl, h1, _, rfl⟩
      have h1' := h1 HQ.out
      clear h1
      go_wp2
      go_ret
      exact ⟨rfl, rfl⟩
    | false =>
      have HQ : Hid (hasQ z n = false) := hq
      clear hq
      go_enter Try.func16, Try.ntmps16
      go_wp2_with fail
      refine (index_row b n z w hn HR.out).mono ?_
      rintro e w' ⟨r, rfl, _, h2, rfl⟩
      have h2' := h2 HQ.out
      have h3 : decide (0 ≤ r) = false := decide_eq_false (by omega)
      clear h2
      go_wp2
      go_ret
      exact ⟨rfl, rfl⟩
end Go.Proofs.Qxb6603612a
