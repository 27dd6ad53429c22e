/-
  Seat b6601941a: the walks of ZZMakeOrigin, ZZMakeChanges and ZZRankOf (rankOf, ReadsNothing walked in place).
-/
import Derived.Test.Qxb6601941aProg
import Derived.WalkKit
namespace Go.Proofs.Qxb6601941a
open Go.RowKit

/-- The rank as a number: 0 where the transaction only adds, 1 where it reads nothing, else 2. -/
def rk (b : Bool) (s : Int) : Int := if b = true then 0 else if (s == 0) = true then 1 else 2

theorem mkC (s : Int) (w : World) :
    Calls Try.prog 11 #[.int .u64 s, .int .i64 0, .slice none 0 0, .int .i64 0, .slice none 0 0, .int .i64 0, .slice none 0 0] w fun e w' => e = .returned (.pointer (some ⟨w.heap.size, 0, none⟩)) ∧ w'.cell? ⟨w.heap.size, 0, none⟩ = some (.int .u64 s) ∧ Grown w w' := by
  go_enter Try.func11, Try.ntmps11
  go_wp2
  go_ret
  exact ⟨rfl, by simp, (Grown.refl _).alloc _ _⟩

theorem mkO (b : Bool) (w : World) :
    Calls Try.prog 10 #[.int .u64 0, .int .i64 0, .slice none 0 0, .bool b, .int .u64 0] w fun e w' => e = .returned (.agg #[.int .u64 0, .int .i64 0, .slice none 0 0, .bool b, .int .u64 0]) ∧ Grown w w' := by
  go_enter Try.func10, Try.ntmps10
  go_wp2
  exact bodyPost_ret (v := .agg #[.int .u64 0, .int .i64 0, .slice none 0 0, .bool b, .int .u64 0]) (by simp [results, Try.results10, go_sem]) rfl ⟨rfl, (Grown.refl _).alloc _ _⟩

set_option maxHeartbeats 1000000 in
theorem rank_any (b : Bool) (s r : Int) (p : Addr) (w : World) (hp : w.cell? p = some (.int .u64 s)) (hr : Hid (rk b s = r)) :
    Calls Try.prog 12 #[.agg #[.int .u64 0, .int .i64 0, .slice none 0 0, .bool b, .int .u64 0], .pointer (some p)] w fun e w' => e = .returned (.int .u8 r) ∧ Grown w w' := by
  have hpl : p.block < w.heap.size := by
    rcases Nat.lt_or_ge p.block w.heap.size with h | h
    · exact h
    · simp [World.cell?, Array.getElem?_eq_none h] at hp
  have hp2 : ∀ o1 o2, ((w.alloc o1).alloc o2).cell? p = some (.int .u64 s) := fun o1 o2 => by
    rw [World.cell?_alloc_lt _ _ p (by simp; omega), World.cell?_alloc_lt _ _ p hpl]; exact hp
  clear hp
  cases b with
  | true =>
    have e : r = 0 := hr.out.symm
    subst e
    go_enter Try.func12, Try.ntmps12
    go_wp2
    go_ret
    exact ⟨rfl, ((Grown.refl _).alloc _ _).alloc _ _⟩
  | false =>
    by_cases hs : (s == 0) = true
    · have e : r = 1 := by rw [← hr.out]; simp [rk, hs]
      subst e
      go_enter Try.func12, Try.ntmps12
      go_wp2
      go_ret
      exact ⟨rfl, ((Grown.refl _).alloc _ _).alloc _ _⟩
    · have hs' : (s == 0) = false := by simpa using hs
      have e : r = 2 := by rw [← hr.out]; simp [rk, hs']
      clear hs
      subst e
      go_enter Try.func12, Try.ntmps12
      go_wp2
      go_ret
      exact ⟨rfl, ((Grown.refl _).alloc _ _).alloc _ _⟩
end Go.Proofs.Qxb6601941a
