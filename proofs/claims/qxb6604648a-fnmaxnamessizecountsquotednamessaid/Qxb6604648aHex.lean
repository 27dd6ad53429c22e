/-
  Seat b6604648a: the walks of encoding/hex.Encode, EncodeToString and Digest.String at the zero digest: 'Digest{}.String()' is a string of 64 bytes, each '0' (48).
-/
import Derived.Test.Qxb6604648aProg
import Derived.WalkKit
import Derived.Deep.OwnRows
import Derived.Laws.BytesArg
namespace Go.Proofs.Qxb6604648a
open Go.RowKit

/-- What the destination holds behind k rounds: 2k digits '0', then zero bytes. -/
def hexAt (k j : Nat) : Value := if j < 2 * k then .int .u8 48 else .int .u8 0

theorem hexAt_zero (j : Nat) : hexAt 0 j = .int .u8 0 := by simp [hexAt]
theorem hexAt_step (k j : Nat) : (if j = 2 * k + 1 then Value.int .u8 48 else if j = 2 * k then Value.int .u8 48 else hexAt k j) = hexAt (k + 1) j := by
  unfold hexAt
  by_cases h1 : j = 2 * k + 1
  · rw [if_pos h1, if_pos (by omega)]
  · by_cases h2 : j = 2 * k
    · rw [if_neg h1, if_pos h2, if_pos (by omega)]
    · rw [if_neg h1, if_neg h2]
      by_cases h3 : j < 2 * k
      · rw [if_pos h3, if_pos (by omega)]
      · rw [if_neg h3, if_neg (by omega)]
theorem hexAt_end (j : Nat) (h : j < 64) : hexAt 32 j = .int .u8 48 := by simp [hexAt, h]

set_option maxHeartbeats 2000000 in
set_option maxRecDepth 100000 in
theorem encode_zero (bd bs : Nat) (W w : World) (hrow : w.rowIs bd 5 64 (fun _ => .int .u8 0)) (hsrc : w.rowIs bs 23 32 (fun _ => .int .u8 0)) (hne : bd ≠ bs) (hW : Grown W w) (hbd : W.heap.size ≤ bd) :
    Calls Try.prog 9 #[.slice (some ⟨bd, 0, none⟩) 64 64, .slice (some ⟨bs, 0, none⟩) 32 32] w fun e w' => e = .returned (.int .i64 64) ∧ w'.rowIs bd 5 64 (fun _ => .int .u8 48) ∧ Grown W w' := by
  have HR : Hid (w.rowIs bd 5 64 (fun _ => .int .u8 0)) := hrow
  have HS : Hid (w.rowIs bs 23 32 (fun _ => .int .u8 0)) := hsrc
  have HG : Hid (Grown W w) := hW
  clear hrow hsrc hW
  go_enter Try.func9, Try.ntmps9
  go_wp2
  go_loopw [5, 10] (fun vj vi wr => ∃ k : Nat, k ≤ 32 ∧ vi = .int .i64 k ∧ vj = .int .i64 ((2 * k : Nat) : Int) ∧ Hid (wr.rowIs bd 5 64 (hexAt k)) ∧ Hid (wr.rowIs bs 23 32 (fun _ => .int .u8 0)) ∧ Hid (Grown W wr)) (fun _ vi _ => 32 - (RowKit.intOf vi).toNat)
  case atStart => exact ⟨0, Nat.zero_le _, rfl, rfl, HR.out.congr (fun j _ => (hexAt_zero j).symm), HS, HG⟩
  case round =>
    obtain ⟨k, hk, rfl, rfl, hrw, hsw, hgr⟩ := hrel
    have hcx : k < 32 → wr.cell? ⟨bs, k, none⟩ = some (.int .u8 0) := fun h => hsw.out.cell h
    have hf1 : wr.frozen? ⟨bd, 2 * k, none⟩ = false := hrw.out.frozen _
    have hc1 : k < 32 → wr.cell? ⟨bd, 2 * k, none⟩ = some (hexAt k (2 * k)) := fun h => hrw.out.cell (by omega)
    have hf2 : ∀ v, (wr.setCell ⟨bd, 2 * k, none⟩ v).frozen? ⟨bd, 2 * k + 1, none⟩ = false := fun v => (hrw.out.set _ v).frozen _
    have hc2 : k < 32 → ∀ v, (wr.setCell ⟨bd, 2 * k, none⟩ v).cell? ⟨bd, 2 * k + 1, none⟩ = some (hexAt k (2 * k + 1)) := fun h v => by
      have := (hrw.out.set (2 * k) v).cell (i := 2 * k + 1) (by omega)
      rwa [if_neg (by omega)] at this
    by_cases hlt : k < 32
    · replace hcx := hcx hlt
      replace hc1 := hc1 hlt
      replace hc2 := hc2 hlt
      go_wp2
      go_roundw
      case rel =>
        exact ⟨k + 1, by omega, by go_num, by first | go_num | (congr 1; omega), ((hrw.out.set _ _).set _ _).congr (fun j _ => hexAt_step k j), (hsw.out.setOther (Ne.symm hne) _).setOther (Ne.symm hne) _, (hgr.out.setCell hbd _).setCell hbd _⟩
      case measure => simp [RowKit.intOf]; omega
    · have hk2 : k = 32 := by omega
      subst hk2
      go_wp2
      go_ret
      exact ⟨rfl, hrw.out.congr (fun j hj => hexAt_end j hj), hgr.out⟩

/-- The zero digest's cells. -/
def zeros32 : Array Value := #[.int .u8 0, .int .u8 0, .int .u8 0, .int .u8 0, .int .u8 0, .int .u8 0, .int .u8 0, .int .u8 0, .int .u8 0, .int .u8 0, .int .u8 0, .int .u8 0, .int .u8 0, .int .u8 0, .int .u8 0, .int .u8 0, .int .u8 0, .int .u8 0, .int .u8 0, .int .u8 0, .int .u8 0, .int .u8 0, .int .u8 0, .int .u8 0, .int .u8 0, .int .u8 0, .int .u8 0, .int .u8 0, .int .u8 0, .int .u8 0, .int .u8 0, .int .u8 0]

theorem zeros32_eq : zeros32 = Array.replicate 32 (.int .u8 0) := rfl
theorem zeros32_row (w : World) : (w.alloc (.cells zeros32 23)).rowIs w.heap.size 23 32 (fun _ => .int .u8 0) :=
  World.rowIs_alloc w zeros32 23 _ (fun i hi => by
    rw [zeros32_eq] at hi ⊢
    simp only [Array.size_replicate] at hi
    rw [Array.getElem?_replicate, if_pos hi])

/-- Sixty-four times '0'. -/
def digits64 : List Int := List.replicate 64 48
theorem digits64_length : digits64.length = 64 := rfl
theorem digits64_at (i : Nat) (hi : i < 64) : digits64.getD i 0 = 48 := by
  rw [digits64, List.getD_eq_getElem?_getD, List.getElem?_replicate, if_pos hi]; rfl

theorem info5 : (Try.prog.info? 5).map (fun i => (i.zero, i.size, i.bytes)) = some (some (.int .u8 0), 1, 1) := by kernel_rfl

set_option maxHeartbeats 1000000 in
set_option maxRecDepth 100000 in
theorem toString_zero (bs : Nat) (W w : World) (hsrc : w.rowIs bs 23 32 (fun _ => .int .u8 0)) (hW : Grown W w) :
    Calls Try.prog 7 #[.slice (some ⟨bs, 0, none⟩) 32 32] w fun e w' => (∃ s : ByteArray, e = .returned (.string s) ∧ s.size = 64) ∧ Grown W w' := by
  have hmk : ∀ w : World, (Instr.makeSlice 29 (.int .i64 64) (.int .i64 64)).run Try.prog w = .ok (.slice (some ⟨w.heap.size, 0, none⟩) 64 64) (w.alloc (.cells (madeCells #[.int .u8 0] 64) 5)) := fun w =>
    run_make_row' (P := Try.prog) 29 5 (.int .u8 0) 1 Try.underlying29 info5 rfl .i64 .i64 64 (by omega) (by omega) w
  have hne : w.heap.size ≠ bs := by have := hsrc.lt; omega
  have HS : Hid (w.rowIs bs 23 32 (fun _ => .int .u8 0)) := hsrc
  have HG : Hid (Grown W w) := hW
  clear hsrc hW
  go_enter Try.func7, Try.ntmps7
  go_wp2_with (first | (go_at_call 8; go_in) | fail)
  refine (encode_zero w.heap.size bs W _ (World.rowIs_made w _ _ _) (HS.out.alloc _) hne (HG.out.alloc _ _) HG.out.2.2).mono ?_
  rintro e w2 ⟨rfl, hrow', hg⟩
  have g := run_convert_bytes_arg (P := Try.prog) w2 29 5 Try.underlying29 Try.underlying5 w.heap.size 0 64 64 digits64 digits64_length (fun i hi => by rw [Nat.zero_add, hrow'.cell hi, digits64_at i hi]) 9 Try.underlying9
  have HG2 : Hid (Grown W w2) := hg
  clear hrow' hg
  go_wp2
  go_ret
  exact ⟨⟨_, rfl, rfl⟩, HG2.out⟩

set_option maxHeartbeats 1000000 in
set_option maxRecDepth 100000 in
/-- 'Digest{}.String()': a string of 64 bytes; new blocks alone. -/
theorem digest_zero (w : World) :
    Calls Try.prog 5 #[.agg zeros32] w fun e w' => (∃ s : ByteArray, e = .returned (.string s) ∧ s.size = 64) ∧ Grown w w' := by
  have HR : Hid ((w.alloc (.cells zeros32 23)).rowIs w.heap.size 23 32 (fun _ => .int .u8 0)) := zeros32_row w
  go_enter Try.func5, Try.ntmps5
  go_wp2_with fail
  refine (toString_zero w.heap.size w _ HR.out ((Grown.refl _).alloc _ _)).mono ?_
  rintro e w2 ⟨⟨s, rfl, hs⟩, hg⟩
  have HG2 : Hid (Grown w w2) := hg
  have HS2 : Hid (s.size = 64) := hs
  clear hg hs
  go_wp2
  go_ret
  exact ⟨⟨s, rfl, HS2.out⟩, HG2.out⟩

/-- 'MaxNamesSize(n)': 67 * n, as an int wraps. -/
theorem maxNames (n : Int) (w : World) : Calls Try.prog 6 #[.int .i64 n] w fun e w' => e = .returned (.int .i64 (wrap64 (67 * n))) ∧ w' = w := by
  go_enter Try.func6, Try.ntmps6
  go_wp2
  go_ret
  exact ⟨rfl, rfl⟩

theorem wrap_adds (a b : Int) : (wrap64 (67 * wrap64 (a + b)) == wrap64 (wrap64 (67 * a) + wrap64 (67 * b))) = true := by
  rw [beq_iff_eq]
  unfold wrap64
  omega
end Go.Proofs.Qxb6604648a
