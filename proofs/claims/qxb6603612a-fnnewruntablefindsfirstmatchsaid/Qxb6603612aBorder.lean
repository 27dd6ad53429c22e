/-
  Seat b6603612a: the walks of zzPrefixIsSuffix and zzLongestBorder.
-/
import Derived.Test.Qxb6603612aScan
namespace Go.Proofs.Qxb6603612a
open Go.RowKit
open Go.Proofs.Qxb6603612a.Plain (pis pis_true pis_false of_pis lb lbTo lbTo_le)

set_option maxHeartbeats 400000 in
theorem prefix_any (b N n k : Nat) (z : Nat → Int) (w : World) (hN : N ≤ 4096) (hn : n ≤ N) (hk : k ≤ n) (hr : w.rowIs b 21 N (fun i => .int .i32 (z i))) :
    Calls Try.prog 15 #[.slice (some ⟨b, 0, none⟩) N N, .int .i64 (n : Int), .int .i64 (k : Int)] w fun e w' => e = .returned (.bool (pis z n k)) ∧ ∃ q, w' = w.drewN q := by
  have HC : Hid (∀ i, i < N → w.cell? ⟨b, i, none⟩ = some (.int .i32 (z i))) := fun i hi => hr.cell hi
  clear hr
  go_enter Try.func15, Try.ntmps15
  go_wp2
  go_loopw [7] (fun i wr => ∃ j q : Nat, j ≤ k ∧ i = .int .i64 j ∧ wr = w.drewN q ∧ Hid (∀ i, i < j → z i = z (n - k + i))) (fun i _ => k - (intOf i).toNat)
  case atStart => exact ⟨0, 0, Nat.zero_le _, rfl, rfl, fun i hi => absurd hi (Nat.not_lt_zero _)⟩
  case round =>
    obtain ⟨j, q, hj, rfl, rfl, hpre⟩ := hrel
    by_cases hlt : j < k
    · have c1 := HC.out j (by omega)
      have c2 := HC.out (n - k + j) (by omega)
      have i1 : (j : Int) < (N : Int) := by omega
      have i2 : (n : Int) - (k : Int) + (j : Int) < (N : Int) := by omega
      have i3 : 0 ≤ (n : Int) - (k : Int) + (j : Int) := by omega
      have i4 : ((n : Int) - (k : Int) + (j : Int)).toNat = n - k + j := by omega
      cases hz : (z j == z (n - k + j)) with
      | true =>
        have hne : (z j != z (n - k + j)) = false := by simp [bne, hz]
        have HE : Hid (z j = z (n - k + j)) := beq_iff_eq.1 hz
        clear hz
        go_wp2
        go_quiet (fail)
        go_wp2
        go_roundw
        case rel =>
          exact ⟨j + 1, q + nq, by omega, by go_num, rfl, fun i hi => by
            rcases Nat.lt_or_ge i j with g | g
            · exact hpre.out i g
            · have e : i = j := by omega
              rw [e]; exact HE.out⟩
        case measure => simp [intOf]; omega
      | false =>
        have hne : (z j != z (n - k + j)) = true := by simp [bne, hz]
        have HE : Hid (pis z n k = false) := pis_false hlt (by simpa using hz)
        clear hz
        go_wp2
        go_quiet (fail)
        go_wp2
        go_ret
        exact ⟨by rw [HE.out]; rfl, q + nq, World.drewN_drewN _ _ _⟩
    · have hjk : j = k := by omega
      subst hjk
      have HE : Hid (pis z n j = true) := pis_true hpre.out
      go_wp2
      go_ret
      exact ⟨by rw [HE.out]; rfl, q, rfl⟩

theorem prefix_int (b N n k : Nat) (nI kI : Int) (z : Nat → Int) (w : World) (en : nI = (n : Int)) (ek : kI = (k : Int)) (hN : N ≤ 4096) (hn : n ≤ N) (hk : k ≤ n) (hr : w.rowIs b 21 N (fun i => .int .i32 (z i))) :
    Calls Try.prog 15 #[.slice (some ⟨b, 0, none⟩) N N, .int .i64 nI, .int .i64 kI] w fun e w' => e = .returned (.bool (pis z n k)) ∧ ∃ q, w' = w.drewN q := by
  subst en ek
  exact prefix_any b N n k z w hN hn hk hr

theorem lbTo_hit (z : Nat → Int) (n k : Nat) (h : pis z n (k + 1) = true) : lbTo z n (k + 1) = k + 1 := by unfold lbTo; rw [if_pos h]
theorem lbTo_miss (z : Nat → Int) (n k : Nat) (h : pis z n (k + 1) = false) : lbTo z n (k + 1) = lbTo z n k := by
  rw [lbTo, if_neg (by rw [h]; decide)]

set_option maxHeartbeats 400000 in
/-- zzLongestBorder at 1 ≤ n: 'lb'. -/
theorem longest_any (b N m : Nat) (z : Nat → Int) (w : World) (hN : N ≤ 4096) (hn : m < N) (hr : w.rowIs b 21 N (fun i => .int .i32 (z i))) :
    Calls Try.prog 10 #[.slice (some ⟨b, 0, none⟩) N N, .int .i64 ((m : Int) + 1)] w fun e w' => e = .returned (.int .i64 (lb z (m + 1) : Int)) ∧ ∃ q, w' = w.drewN q := by
  have HR : Hid (w.rowIs b 21 N (fun i => .int .i32 (z i))) := hr
  clear hr
  go_enter Try.func10, Try.ntmps10
  go_wp2
  go_loopw [5] (fun i wr => ∃ k q : Nat, k ≤ m ∧ i = .int .i64 k ∧ wr = w.drewN q ∧ Hid (lbTo z (m + 1) k = lb z (m + 1))) (fun i _ => (intOf i).toNat)
  case atStart => exact ⟨m, 0, Nat.le_refl _, by go_num, rfl, rfl⟩
  case round =>
    obtain ⟨k, q, hk, rfl, rfl, hlb⟩ := hrel
    rcases Nat.eq_zero_or_pos k with h0 | h0
    · subst h0
      have HE : Hid (lb z (m + 1) = 0) := hlb.out.symm
      go_wp2
      go_ret
      exact ⟨by rw [HE.out]; rfl, q, rfl⟩
    · obtain ⟨j, rfl⟩ : ∃ j, k = j + 1 := ⟨k - 1, by omega⟩
      go_wp2_with fail
      refine (prefix_int b N (m + 1) (j + 1) ((m : Int) + 1) ((j : Int) + 1) z (w.drewN q) (by omega) (by omega) hN (by omega) (by omega) (by exact HR.out)).mono ?_
      rintro e w' ⟨rfl, q2, rfl⟩
      cases hp : pis z (m + 1) (j + 1) with
      | true =>
        have HE : Hid (lb z (m + 1) = j + 1) := hlb.out.symm.trans (lbTo_hit z (m + 1) j hp)
        clear hp
        go_wp2
        go_ret
        exact ⟨by rw [HE.out]; rfl, q + q2, rfl⟩
      | false =>
        have HE : Hid (lbTo z (m + 1) j = lb z (m + 1)) := (lbTo_miss z (m + 1) j hp).symm.trans hlb.out
        clear hp
        go_wp2
        go_roundw
        case rel => exact ⟨j, q + q2, by omega, by go_num, by first | rfl | exact World.drewN_drewN _ _ _, HE⟩
        case measure => simp [intOf]
end Go.Proofs.Qxb6603612a
