/-
  Seat b6603612a: the walks of newRun and ZZnewRun: the table of borders.
-/
import Derived.Test.Qxb6603612aCopy
import Derived.WalkSmall
namespace Go.Proofs.Qxb6603612a
open Go.RowKit
open Go.Proofs.Qxb6603612a.Plain

/-- The table behind the rounds up to i: the first i entries are borders, the rest zero. -/
def tabAt (z : Nat → Int) (i j : Nat) : Value := if j < i then .int .i64 (lb z (j + 1) : Int) else .int .i64 0
theorem tabAt_one (z : Nat → Int) (j : Nat) : Value.int .i64 0 = tabAt z 1 j := by
  unfold tabAt
  by_cases h : j < 1
  · have e : j = 0 := by omega
    subst e
    rw [if_pos h, lb_one]; rfl
  · rw [if_neg h]
theorem tabAt_step (z : Nat → Int) (i j : Nat) (r : Int) (hr : r = (lb z (i + 1) : Int)) : (if j = i then Value.int .i64 r else tabAt z i j) = tabAt z (i + 1) j := by
  unfold tabAt
  by_cases h : j = i
  · subst h; rw [if_pos rfl, if_pos (Nat.lt_succ_self _), hr]
  · rw [if_neg h]
    by_cases g : j < i
    · rw [if_pos g, if_pos (by omega)]
    · rw [if_neg g, if_neg (by omega)]
theorem tabAt_below (z : Nat → Int) (i m : Nat) (hm : 0 < m) (h : m ≤ i) : tabAt z i (m - 1) = .int .i64 (lb z m : Int) := by
  unfold tabAt
  rw [if_pos (by omega), Nat.sub_add_cancel hm]

set_option maxHeartbeats 400000 in
/-- newRun where '?' is among the characters. -/
theorem newRun_q (b n : Nat) (z : Nat → Int) (w : World) (hn : n ≤ 4096) (hr : w.rowIs b 21 n (fun i => .int .i32 (z i))) (hq : hasQ z n = true) :
    Calls Try.prog 14 #[.slice (some ⟨b, 0, none⟩) n n] w fun e w' => e = .returned (.agg #[.slice (some ⟨b, 0, none⟩) n n, .slice none 0 0]) ∧ Below w.heap.size w w' := by
  have HR : Hid (w.rowIs b 21 n (fun i => .int .i32 (z i))) := hr
  have HQ : Hid (hasQ z n = true) := hq
  clear hr hq
  go_enter Try.func14, Try.ntmps14
  go_wp2_with fail
  refine (contains_any (.slice (some ⟨b, 0, none⟩) n n) n z _ hn (.inr ⟨b, rfl, HR.out.alloc _⟩)).mono ?_
  rintro e w' ⟨rfl, rfl⟩
  rw [HQ.out]
  go_wp2
  exact bodyPost_ret (v := .agg #[.slice (some ⟨b, 0, none⟩) n n, .slice none 0 0]) (by simp [results, Try.results14, go_sem]) rfl ⟨rfl, (Below.refl _ _).alloc (Nat.le_refl _) _⟩

theorem nils_row (w : World) : (w.alloc (.cells #[.slice none 0 0, .slice none 0 0] 33)).rowIs w.heap.size 33 2 (fun _ => .slice none 0 0) :=
  World.rowIs_alloc w #[.slice none 0 0, .slice none 0 0] 33 _ (fun i hi => by
    have h : i < 2 := hi
    match i, h with
    | 0, _ => rfl
    | 1, _ => rfl)

set_option maxHeartbeats 2000000 in
set_option maxRecDepth 100000 in
/-- newRun where no '?' is among the characters: the table of the longest borders, in a new block. -/
theorem newRun_t (b n : Nat) (z : Nat → Int) (w : World) (hn : n ≤ 4096) (hr : w.rowIs b 21 n (fun i => .int .i32 (z i))) (hq : hasQ z n = false) :
    Calls Try.prog 14 #[.slice (some ⟨b, 0, none⟩) n n] w fun e w' => e = .returned (.agg #[.slice (some ⟨b, 0, none⟩) n n, .slice (some ⟨w.heap.size + 1, 0, none⟩) n n]) ∧ w'.rowIs (w.heap.size + 1) 3 n (fun j => .int .i64 (lb z (j + 1) : Int)) ∧ Below w.heap.size w w' := by
  have hb : b < w.heap.size := hr.lt
  have HR : Hid (w.rowIs b 21 n (fun i => .int .i32 (z i))) := hr
  have HQ : Hid (hasQ z n = false) := hq
  have hmk := make25 n hn
  have HT : Hid (∀ o, ((w.alloc o).alloc (.cells (madeCells #[.int .i64 0] n) 3)).rowIs (w.heap.size + 1) 3 n (tabAt z 1)) := fun o => by
    have := World.rowIs_made (w.alloc o) (.int .i64 0) n 3
    simp only [World.size_alloc] at this
    exact this.congr (fun j _ => tabAt_one z j)
  clear hr hq
  go_enter Try.func14, Try.ntmps14
  go_wp2_with fail
  refine (contains_any (.slice (some ⟨b, 0, none⟩) n n) n z _ hn (.inr ⟨b, rfl, HR.out.alloc _⟩)).mono ?_
  rintro e w' ⟨rfl, rfl⟩
  rw [HQ.out]
  go_wp2
  go_loopw [4, 5] (fun vb vi wr => ∃ i : Nat, 1 ≤ i ∧ (i ≤ n ∨ i = 1) ∧ vi = .int .i64 i ∧ vb = .int .i64 (lb z i : Int) ∧ Hid (wr.rowIs (w.heap.size + 1) 3 n (tabAt z i)) ∧ Hid (wr.rowIs w.heap.size 33 2 (fun _ => .slice none 0 0)) ∧ Hid (Below w.heap.size w wr)) (fun _ vi _ => n - (intOf vi).toNat)
  case atStart => exact ⟨1, Nat.le_refl _, .inr rfl, rfl, rfl, HT.out _, (nils_row w).alloc _, ((Below.refl _ _).alloc (Nat.le_refl _) _).alloc (by simp) _⟩
  case round =>
    obtain ⟨i, hi1, hin, rfl, rfl, hT, hRr, hB⟩ := hrel
    by_cases hlt : i < n
    · have ci : wr.cell? ⟨b, i, none⟩ = some (.int .i32 (z i)) := (hB.out.cell (p := ⟨b, i, none⟩) hb).trans (HR.out.cell hlt)
      have HCm : Hid (∀ m, m < n → wr.cell? ⟨b, m, none⟩ = some (.int .i32 (z m))) := fun m hm => (hB.out.cell (p := ⟨b, m, none⟩) hb).trans (HR.out.cell hm)
      have HCt : Hid (∀ m, 0 < m → m ≤ i → wr.cell? ⟨w.heap.size + 1, m - 1, none⟩ = some (.int .i64 (lb z m : Int))) := fun m h0 hm => (hT.out.cell (by omega)).trans (congrArg some (tabAt_below z i m h0 hm))
      have cs : wr.cell? ⟨w.heap.size + 1, i, none⟩ = some (tabAt z i i) := hT.out.cell hlt
      have fs : wr.frozen? ⟨w.heap.size + 1, i, none⟩ = false := hT.out.frozen _
      have hii : (i : Int) < (n : Int) := by omega
      have NEXT : Hid (∀ (q : Nat) (r : Int), r = (lb z (i + 1) : Int) → ∃ i' : Nat, 1 ≤ i' ∧ (i' ≤ n ∨ i' = 1) ∧ Value.int .i64 ((i : Int) + 1) = .int .i64 i' ∧ Value.int .i64 r = .int .i64 (lb z i' : Int) ∧ Hid (((wr.setCell ⟨w.heap.size + 1, i, none⟩ (.int .i64 r)).drewN q).rowIs (w.heap.size + 1) 3 n (tabAt z i')) ∧ Hid (((wr.setCell ⟨w.heap.size + 1, i, none⟩ (.int .i64 r)).drewN q).rowIs w.heap.size 33 2 (fun _ => .slice none 0 0)) ∧ Hid (Below w.heap.size w ((wr.setCell ⟨w.heap.size + 1, i, none⟩ (.int .i64 r)).drewN q))) :=
        fun q r hr => ⟨i + 1, by omega, by omega, by go_num, by rw [hr], (hT.out.set _ _).congr (fun j _ => tabAt_step z i j r hr), hRr.out.setOther (by simp) _, below_drewN (hB.out.setCell (by simp) _) _⟩
      go_wp2
      go_loopw [4] (fun vb wr2 => ∃ m q : Nat, vb = .int .i64 m ∧ wr2 = wr.drewN q ∧ Hid (Cand z i m)) (fun vb _ => (intOf vb).toNat)
      case atStart => exact ⟨lb z i, 0, rfl, rfl, cand_start z i hi1⟩
      case round =>
        obtain ⟨m, q, rfl, rfl, hC⟩ := hrel
        have hmi : m < i := hC.out.lt
        have cm := HCm.out m (by omega)
        have hmn : (m : Int) < (n : Int) := by omega
        rcases Nat.eq_zero_or_pos m with h0 | h0
        · subst h0
          have hd : decide ((0 : Int) < ((0 : Nat) : Int)) = false := rfl
          cases hz : (z i == z 0) with
          | true =>
            have HL : Hid (lb z (i + 1) = 0 + 1) := cand_hit hC.out (beq_iff_eq.1 hz)
            go_wp2
            go_quiet (fail)
            go_wp2
            go_quiet (fail)
            go_wp2
            go_roundw
            case rel => exact NEXT.out _ _ (by first | (rw [HL.out]; done) | (rw [HL.out]; rfl))
            case measure => simp [intOf]; omega
          | false =>
            have HL : Hid (lb z (i + 1) = 0) := cand_miss hC.out (by simpa using hz)
            go_wp2
            go_quiet (fail)
            go_wp2
            go_quiet (fail)
            go_wp2
            go_roundw
            case rel => exact NEXT.out _ _ (by first | (rw [HL.out]; done) | (rw [HL.out]; rfl))
            case measure => simp [intOf]; omega
        · have ct := HCt.out m h0 (by omega)
          have hm0 : (0 : Int) < (m : Int) := by omega
          cases hz : (z i == z m) with
          | true =>
            have hne : (z i != z m) = false := by simp [bne, hz]
            have HL : Hid (lb z (i + 1) = m + 1) := cand_hit hC.out (beq_iff_eq.1 hz)
            go_wp2
            go_quiet (fail)
            go_wp2
            go_quiet (fail)
            go_wp2
            go_roundw
            case rel => exact NEXT.out _ _ (by first | (rw [HL.out]; done) | (rw [HL.out]; rfl))
            case measure => simp [intOf]; omega
          | false =>
            have hne : (z i != z m) = true := by simp [bne, hz]
            go_wp2
            go_quiet (fail)
            go_wp2
            go_roundw
            case rel => exact ⟨lb z m, q + nq, rfl, rfl, cand_step hC.out h0 (by simpa using hz)⟩
            case measure => simp [intOf]; exact lb_lt z m h0
    · have r0 : wr.cell? ⟨w.heap.size, 0, none⟩ = some (.slice none 0 0) := hRr.out.cell (by omega)
      have r1 : wr.cell? ⟨w.heap.size, 1, none⟩ = some (.slice none 0 0) := hRr.out.cell (by omega)
      have g0 : wr.frozen? ⟨w.heap.size, 0, none⟩ = false := hRr.out.frozen _
      have g1 : wr.frozen? ⟨w.heap.size, 1, none⟩ = false := hRr.out.frozen _
      go_wp2
      refine bodyPost_ret (v := .agg #[.slice (some ⟨b, 0, none⟩) n n, .slice (some ⟨w.heap.size + 1, 0, none⟩) n n]) (by simp [results, Try.results14, go_sem, r0, r1]) rfl ⟨rfl, ((hT.out.setOther (by simp) _).setOther (by simp) _).congr (fun j hj => ?_), (hB.out.setCell (Nat.le_refl _) _).setCell (Nat.le_refl _) _⟩
      unfold tabAt
      rw [if_pos (by omega)]
end Go.Proofs.Qxb6603612a
