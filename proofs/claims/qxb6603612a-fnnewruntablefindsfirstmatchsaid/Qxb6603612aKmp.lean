/-
  Seat b6603612a: the walks of zzKMPIndex and zzNaiveIndex.
-/
import Derived.Test.Qxb6603612aScan
import Derived.WalkSmall
namespace Go.Proofs.Qxb6603612a
open Go.RowKit
open Go.Proofs.Qxb6603612a.Plain

theorem ret_i64 {a b : Int} (h : a = b) : Ending.returned (.int .i64 a) = .returned (.int .i64 b) := by rw [h]

set_option maxHeartbeats 2000000 in
set_option maxRecDepth 100000 in
/-- zzKMPIndex over a text in a block of its own: the first place where the run stands, or -1. -/
theorem kmp_row (bt N bp L bb : Nat) (t p : Nat → Int) (w : World) (hN : N ≤ 4096) (hL : L ≤ 4096) (hL0 : 0 < L) (ht : w.rowIs bt 21 N (fun i => .int .i32 (t i))) (hp : w.rowIs bp 21 L (fun i => .int .i32 (p i))) (hbb : w.rowIs bb 3 L (fun j => .int .i64 (lb p (j + 1) : Int))) :
    Calls Try.prog 12 #[.slice (some ⟨bt, 0, none⟩) N N, .slice (some ⟨bp, 0, none⟩) L L, .slice (some ⟨bb, 0, none⟩) L L] w fun e w' => ∃ r : Int, e = .returned (.int .i64 r) ∧ IsFirst t N p L r ∧ ∃ q, w' = w.drewN q := by
  have HT : Hid (∀ i, i < N → w.cell? ⟨bt, i, none⟩ = some (.int .i32 (t i))) := fun i hi => ht.cell hi
  have HP : Hid (∀ i, i < L → w.cell? ⟨bp, i, none⟩ = some (.int .i32 (p i))) := fun i hi => hp.cell hi
  have HB : Hid (∀ m, 0 < m → m ≤ L → w.cell? ⟨bb, m - 1, none⟩ = some (.int .i64 (lb p m : Int))) := fun m h0 hm => by
    have := hbb.cell (i := m - 1) (by omega)
    rw [this, Nat.sub_add_cancel h0]
  clear ht hp hbb
  go_enter Try.func12, Try.ntmps12
  go_wp2
  go_loopw [7, 8] (fun vm vi wr => ∃ i m q : Nat, i ≤ N ∧ vi = .int .i64 i ∧ vm = .int .i64 m ∧ wr = w.drewN q ∧ Hid (Head t p L i m)) (fun _ vi _ => N - (intOf vi).toNat)
  case atStart => exact ⟨0, 0, 0, Nat.zero_le _, rfl, rfl, rfl, head_start t p L hL0⟩
  case round =>
    obtain ⟨i, m0, q0, hi, rfl, rfl, rfl, hH⟩ := hrel
    by_cases hlt : i < N
    · have ci := HT.out i hlt
      have hii : (i : Int) < (N : Int) := by omega
      go_wp2
      go_loopw [7] (fun vm wr2 => ∃ m q : Nat, vm = .int .i64 m ∧ wr2 = w.drewN q ∧ Hid (Kc t p L i m)) (fun vm _ => (intOf vm).toNat)
      case atStart => exact ⟨m0, q0, rfl, rfl, kc_start hH.out⟩
      case round =>
        obtain ⟨m, q, rfl, rfl, hK⟩ := hrel
        have hmL : m < L := hK.out.lt
        have cm := HP.out m hmL
        have hmLi : (m : Int) < (L : Int) := by omega
        cases hz : (t i == p m) with
        | true =>
          have hne : (t i != p m) = false := by simp [bne, hz]
          have HE : Hid (t i = p m) := beq_iff_eq.1 hz
          rcases Nat.eq_zero_or_pos m with h0 | h0
          · subst h0
            have hd : decide ((0 : Int) < ((0 : Nat) : Int)) = false := rfl
            rcases Nat.lt_or_ge (0 + 1) L with h1 | h1
            · have hL1 : ((1 : Int) == (L : Int)) = false := by rw [beq_eq_false_iff_ne]; omega
              have HH : Hid (Head t p L (i + 1) (0 + 1)) := head_hit hK.out HE.out h1
              go_wp2
              go_quiet (fail)
              go_wp2
              go_quiet (fail)
              go_wp2
              go_roundw
              case rel => exact ⟨i + 1, 0 + 1, _, by omega, by go_num, by go_num, rfl, HH⟩
              case measure => simp [intOf]; omega
            · have hL1 : ((1 : Int) == (L : Int)) = true := by rw [beq_iff_eq]; omega
              have HH : Hid (IsFirst t N p L ((i : Int) - (L : Int) + 1)) := first_hit hK.out HE.out (by omega) hlt
              go_wp2
              go_quiet (fail)
              go_wp2
              go_quiet (fail)
              go_wp2
              go_ret
              exact ⟨(i : Int) - (L : Int) + 1, rfl, HH.out, _, rfl⟩
          · have hm0 : (0 : Int) < (m : Int) := by omega
            rcases Nat.lt_or_ge (m + 1) L with h1 | h1
            · have hL1 : (((m : Int) + 1) == (L : Int)) = false := by rw [beq_eq_false_iff_ne]; omega
              have HH : Hid (Head t p L (i + 1) (m + 1)) := head_hit hK.out HE.out h1
              go_wp2
              go_quiet (fail)
              go_wp2
              go_quiet (fail)
              go_wp2
              go_roundw
              case rel => exact ⟨i + 1, m + 1, _, by omega, by go_num, by go_num, rfl, HH⟩
              case measure => simp [intOf]; omega
            · have hL1 : (((m : Int) + 1) == (L : Int)) = true := by rw [beq_iff_eq]; omega
              have HH : Hid (IsFirst t N p L ((i : Int) - (L : Int) + 1)) := first_hit hK.out HE.out (by omega) hlt
              go_wp2
              go_quiet (fail)
              go_wp2
              go_quiet (fail)
              go_wp2
              go_ret
              exact ⟨(i : Int) - (L : Int) + 1, rfl, HH.out, _, rfl⟩
        | false =>
          have hne : (t i != p m) = true := by simp [bne, hz]
          have HE : Hid (t i ≠ p m) := by simpa [Hid] using hz
          rcases Nat.eq_zero_or_pos m with h0 | h0
          · subst h0
            have hd : decide ((0 : Int) < ((0 : Nat) : Int)) = false := rfl
            have hL1 : ((0 : Int) == (L : Int)) = false := by rw [beq_eq_false_iff_ne]; omega
            have HH : Hid (Head t p L (i + 1) 0) := head_miss hK.out HE.out
            go_wp2
            go_quiet (fail)
            go_wp2
            go_quiet (fail)
            go_wp2
            go_roundw
            case rel => exact ⟨i + 1, 0, _, by omega, by go_num, rfl, rfl, HH⟩
            case measure => simp [intOf]; omega
          · have cb := HB.out m h0 (by omega)
            have hm0 : (0 : Int) < (m : Int) := by omega
            go_wp2
            go_quiet (fail)
            go_wp2
            go_roundw
            case rel => exact ⟨lb p m, q + nq, rfl, rfl, kc_step hK.out h0 HE.out⟩
            case measure => simp [intOf]; exact lb_lt p m h0
    · have hiN : i = N := by omega
      subst hiN
      go_wp2
      go_ret
      exact ⟨-1, rfl, first_none hH.out, _, rfl⟩

theorem kmp_nil (L bp bb : Nat) (t p : Nat → Int) (w : World) (hL0 : 0 < L) :
    Calls Try.prog 12 #[.slice none 0 0, .slice (some ⟨bp, 0, none⟩) L L, .slice (some ⟨bb, 0, none⟩) L L] w fun e w' => ∃ r : Int, e = .returned (.int .i64 r) ∧ IsFirst t 0 p L r ∧ ∃ q, w' = w.drewN q := by
  go_enter Try.func12, Try.ntmps12
  go_wp2
  refine wp_loop_rounds 1 ?_
  rw [rounds_succ]
  go_wp2
  go_ret
  exact ⟨-1, rfl, .inl ⟨rfl, fun s hs => absurd hs (by omega)⟩, 0, rfl⟩

theorem naive_nil (L bp : Nat) (t p : Nat → Int) (w : World) (hL : L ≤ 4096) (hL0 : 0 < L) :
    Calls Try.prog 13 #[.slice none 0 0, .slice (some ⟨bp, 0, none⟩) L L] w fun e w' => ∃ r : Int, e = .returned (.int .i64 r) ∧ IsFirst t 0 p L r ∧ ∃ q, w' = w.drewN q := by
  go_enter Try.func13, Try.ntmps13
  go_wp2
  refine wp_loop_rounds 1 ?_
  rw [rounds_succ]
  go_wp2
  go_ret
  exact ⟨-1, rfl, .inl ⟨rfl, fun s hs => absurd hs (by omega)⟩, 0, rfl⟩

set_option maxHeartbeats 2000000 in
set_option maxRecDepth 100000 in
/-- zzNaiveIndex over a text in a block of its own. -/
theorem naive_row (bt N bp L : Nat) (t p : Nat → Int) (w : World) (hN : N ≤ 4096) (hL : L ≤ 4096) (hL0 : 0 < L) (ht : w.rowIs bt 21 N (fun i => .int .i32 (t i))) (hp : w.rowIs bp 21 L (fun i => .int .i32 (p i))) :
    Calls Try.prog 13 #[.slice (some ⟨bt, 0, none⟩) N N, .slice (some ⟨bp, 0, none⟩) L L] w fun e w' => ∃ r : Int, e = .returned (.int .i64 r) ∧ IsFirst t N p L r ∧ ∃ q, w' = w.drewN q := by
  have HT : Hid (∀ i, i < N → w.cell? ⟨bt, i, none⟩ = some (.int .i32 (t i))) := fun i hi => ht.cell hi
  have HP : Hid (∀ i, i < L → w.cell? ⟨bp, i, none⟩ = some (.int .i32 (p i))) := fun i hi => hp.cell hi
  clear ht hp
  go_enter Try.func13, Try.ntmps13
  go_wp2
  go_loopw [5] (fun vs wr => ∃ s q : Nat, s ≤ N ∧ vs = .int .i64 s ∧ wr = w.drewN q ∧ Hid (∀ u, u < s → ¬ Hit t p L u)) (fun vs _ => N - (intOf vs).toNat)
  case atStart => exact ⟨0, 0, Nat.zero_le _, rfl, rfl, fun u hu => absurd hu (Nat.not_lt_zero _)⟩
  case round =>
    obtain ⟨s, q0, hs, rfl, rfl, hno⟩ := hrel
    by_cases hlt : s + L ≤ N
    · have hsl : (s : Int) + (L : Int) ≤ (N : Int) := by omega
      go_wp2
      go_loopw [6, 7] (fun vm vj wr2 => ∃ j q : Nat, j ≤ L ∧ vj = .int .i64 j ∧ vm = .bool true ∧ wr2 = w.drewN q ∧ Hid (∀ u, u < j → t (s + u) = p u)) (fun _ vj _ => L - (intOf vj).toNat)
      case atStart => exact ⟨0, q0, Nat.zero_le _, rfl, rfl, rfl, fun u hu => absurd hu (Nat.not_lt_zero _)⟩
      case round =>
        obtain ⟨j, q, hj, rfl, rfl, rfl, hpre⟩ := hrel
        by_cases hjl : j < L
        · have c1 := HT.out (s + j) (by omega)
          have c2 := HP.out j hjl
          have i1 : (s : Int) + (j : Int) < (N : Int) := by omega
          have i2 : (j : Int) < (L : Int) := by omega
          have i3 : 0 ≤ (s : Int) + (j : Int) := by omega
          have i4 : ((s : Int) + (j : Int)).toNat = s + j := by omega
          have hwr : IntKind.i64.wrap ((s : Int) + (j : Int)) = (s : Int) + (j : Int) := by rw [IntKind.wrap_i64]; omega
          cases hz : (t (s + j) == p j) with
          | true =>
            have hne : (t (s + j) != p j) = false := by simp [bne, hz]
            have HE : Hid (t (s + j) = p j) := beq_iff_eq.1 hz
            clear hz
            go_wp2
            go_quiet (fail)
            go_wp2
            go_roundw
            case rel =>
              exact ⟨j + 1, q + nq, by omega, by go_num, rfl, rfl, fun u hu => by
                rcases Nat.lt_or_ge u j with g | g
                · exact hpre.out u g
                · have e : u = j := by omega
                  rw [e]; exact HE.out⟩
            case measure => simp [intOf]; omega
          | false =>
            have hne : (t (s + j) != p j) = true := by simp [bne, hz]
            have HE : Hid (t (s + j) ≠ p j) := by simpa [Hid] using hz
            clear hz
            go_wp2
            go_quiet (fail)
            go_wp2
            go_roundw
            case rel =>
              exact ⟨s + 1, _, by omega, by go_num, rfl, fun u hu => by
                rcases Nat.lt_or_ge u s with g | g
                · exact hno.out u g
                · have e : u = s := by omega
                  subst e
                  exact fun hh => HE.out (hh j hjl)⟩
            case measure => simp [intOf]; omega
        · have hjL : j = L := by omega
          subst hjL
          go_wp2
          go_ret
          exact ⟨(s : Int), rfl, .inr ⟨s, rfl, hlt, hpre.out, hno.out⟩, _, rfl⟩
    · go_wp2
      go_ret
      exact ⟨-1, rfl, .inl ⟨rfl, fun u hu => hno.out u (by omega)⟩, _, rfl⟩
end Go.Proofs.Qxb6603612a
