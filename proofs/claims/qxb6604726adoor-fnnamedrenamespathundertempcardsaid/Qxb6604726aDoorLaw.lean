/-
  Seat b6604726aD: the walk of FnNamedRenamesPathUnderTemp: it returns true; nothing that was there has turned.
-/
import Derived.Test.Qxb6604726aDoorNamed
import Derived.Laws.BytesArg
import Derived.Lib.Strings
namespace Go.Proofs.Qxb6604726aDoor
open Go.RowKit Go.Extern.Stop Go.Stop Go.Extern

theorem cut_facts (temp tail path : ByteArray) (h : path = temp ++ tail) : temp.size ≤ path.size ∧ ((path.extract 0 temp.size).toList == temp.toList) = true ∧ path.extract temp.size path.size = tail := by
  subst h
  refine ⟨by rw [ByteArray.size_append]; omega, ?_, ByteArray.extract_append_eq_right rfl ByteArray.size_append⟩
  rw [ByteArray.extract_append_eq_left rfl]
  exact beq_self_eq_true _

theorem nonempty_of (s : ByteArray) (h : 0 < s.size) : s.toList.isEmpty = false := by
  rw [Lib.toList_data]
  cases hs : s.data.toList with
  | nil =>
    have := Lib.size_eq s
    rw [hs, List.length_nil] at this
    omega
  | cons a l => rfl

theorem ren_empty (path name : ByteArray) : Renames path name ByteArray.empty name :=
  .inl ⟨by rw [ByteArray.toList_empty]; rfl, ByteArray.append_empty.symm⟩

theorem ren_sep (path name x rest : ByteArray) (hx : 0 < x.size) (h47 : ((47 : Int) == ((x[0]'hx).toNat : Int)) = true) : Renames path name (x ++ rest) (name ++ x ++ rest) := by
  have h0 : 0 < (x ++ rest).size := by rw [ByteArray.size_append]; omega
  refine .inr ⟨nonempty_of _ h0, h0, .inl ⟨?_, ByteArray.append_assoc⟩⟩
  rw [ByteArray.getElem_append_left hx]
  exact h47

theorem ren_keep (path name x rest : ByteArray) (hx : 0 < x.size) (h47 : ((47 : Int) == ((x[0]'hx).toNat : Int)) = false) : Renames path name (x ++ rest) path := by
  have h0 : 0 < (x ++ rest).size := by rw [ByteArray.size_append]; omega
  refine .inr ⟨nonempty_of _ h0, h0, .inr ⟨?_, rfl⟩⟩
  rw [ByteArray.getElem_append_left hx]
  exact h47

theorem one_byte (c : Int) (h0 : 0 ≤ c) (h1 : c ≤ 255) : ∃ hx : 0 < (strOfNums [c]).size, (((strOfNums [c])[0]'hx).toNat : Int) = c := by
  refine ⟨by rw [strOfNums_size]; exact Nat.one_pos, ?_⟩
  show (((UInt8.ofNat c.toNat).toNat : Nat) : Int) = c
  rw [UInt8.toNat_ofNat']
  omega

/-- The guard on the arguments' lengths, where they add up to at most 1 << 20. -/
theorem bytes_yes (op temp rest name : ByteArray) (c : Int) (w : World) (h : op.size + temp.size + rest.size + name.size ≤ 1048576) :
    Calls Tryd.prog 6 #[.string op, .string temp, .string rest, .string name, .int .u8 c] w fun e w' => e = .returned (.bool true) ∧ w = w' := by
  go_enter Tryd.func6, Tryd.ntmps6
  go_wp2
  go_ret
  exact ⟨rfl, rfl⟩

/-- .. and where they add up to more. -/
theorem bytes_no (op temp rest name : ByteArray) (c : Int) (w : World) (h : 1048576 < op.size + temp.size + rest.size + name.size) :
    Calls Tryd.prog 6 #[.string op, .string temp, .string rest, .string name, .int .u8 c] w fun e w' => e = .returned (.bool false) ∧ w' = w := by
  go_enter Tryd.func6, Tryd.ntmps6
  go_wp2
  all_goals (go_ret; exact ⟨rfl, rfl⟩)

theorem law_big (op temp rest name : ByteArray) (c : Int) (w : World) (h : 1048576 < op.size + temp.size + rest.size + name.size) :
    Calls Tryd.prog 3 #[.string op, .string temp, .string rest, .string name, .int .u8 c] w fun e w' => e = .returned (.bool true) ∧ Below w.heap.size w w' := by
  have H : Hid (1048576 < op.size + temp.size + rest.size + name.size) := h
  clear h
  go_enter Tryd.func3, Tryd.ntmps3
  go_wp2_with (go_at_call 6; refine (bytes_no _ _ _ _ _ _ H.out).mono ?_; rintro e w' ⟨rfl, rfl⟩)
  go_ret
  exact ⟨rfl, Below.refl _ _⟩
set_option maxHeartbeats 2000000 in
set_option maxRecDepth 100000 in
theorem core_sep (op temp rest name cs : ByteArray) (c : Int) (w : World) (h : op.size + temp.size + rest.size + name.size ≤ 1048576) (hcs : cs.size ≤ 1) (h47 : (c == 47) = true)
    (HG : Hid (w.cell? ⟨0, 0, none⟩ = some (.iface 107 (.agg #[.pointer (some ⟨5, 37, none⟩)]))))
    (hconv : (convert 23 9 (.slice (some ⟨w.heap.size, 0, none⟩) 1 1)).run Tryd.prog (w.alloc (.cells #[.int .u8 c] 5)) = .ok (.string cs) (w.alloc (.cells #[.int .u8 c] 5)))
    (C1 : Hid (temp.size ≤ temp.size ∧ ((temp.extract 0 temp.size).toList == temp.toList) = true ∧ temp.extract temp.size temp.size = ByteArray.empty)) (S1 : Hid (name.size + ByteArray.empty.size ≤ 9223372036854775807))
    (R2 : Hid (Renames (temp ++ ⟨#[47]⟩ ++ rest) name (⟨#[47]⟩ ++ rest) (name ++ ⟨#[47]⟩ ++ rest))) (S2 : Hid (name.size + (ByteArray.mk #[47] ++ rest).size ≤ 9223372036854775807)) (C2 : Hid (temp.size ≤ (temp ++ ⟨#[47]⟩ ++ rest).size ∧ (((temp ++ ⟨#[47]⟩ ++ rest).extract 0 temp.size).toList == temp.toList) = true ∧ (temp ++ ⟨#[47]⟩ ++ rest).extract temp.size (temp ++ ⟨#[47]⟩ ++ rest).size = ⟨#[47]⟩ ++ rest))
    (R3 : Hid (Renames (temp ++ cs ++ rest) name (cs ++ rest) (name ++ cs ++ rest))) (S3 : Hid (name.size + (cs ++ rest).size ≤ 9223372036854775807)) (C3 : Hid (temp.size ≤ (temp ++ cs ++ rest).size ∧ (((temp ++ cs ++ rest).extract 0 temp.size).toList == temp.toList) = true ∧ (temp ++ cs ++ rest).extract temp.size (temp ++ cs ++ rest).size = cs ++ rest)) :
    Calls Tryd.prog 3 #[.string op, .string temp, .string rest, .string name, .int .u8 c] w fun e w' => e = .returned (.bool true) ∧ Below w.heap.size w w' := by
  have hpos : 0 < w.heap.size := by
    rcases Nat.eq_zero_or_pos w.heap.size with h0 | h
    · have hg := HG.out
      simp [World.cell?, h0] at hg
    · exact h
  have H : Hid (op.size + temp.size + rest.size + name.size ≤ 1048576) := h
  go_enter Tryd.func3, Tryd.ntmps3
  go_wp2_with (go_at_call 6; refine (bytes_yes _ _ _ _ _ _ H.out).mono ?_; rintro e w' ⟨rfl, rfl⟩)
  refine (pathError_any op temp temp name ByteArray.empty name _ ?g1 C1.out.1 C1.out.2.1 C1.out.2.2 S1.out (ren_empty temp name)).mono ?_
  case g1 => rw [World.cell?_alloc_lt _ _ ⟨0, 0, none⟩ hpos]; exact HG.out
  rintro e w1 ⟨rfl, hb1⟩
  have B1 : Hid (Below w.heap.size w w1) := ((Below.refl _ w).alloc (Nat.le_refl _) _).trans (hb1.mono (by simp))
  have G1 : Hid (w1.cell? ⟨0, 0, none⟩ = some (.iface 107 (.agg #[.pointer (some ⟨5, 37, none⟩)]))) := (B1.out.cell (p := ⟨0, 0, none⟩) hpos).trans HG.out
  clear hb1
  go_wp2_with fail
  refine (pathError_any op (temp ++ ⟨#[47]⟩ ++ rest) temp name (⟨#[47]⟩ ++ rest) (name ++ ⟨#[47]⟩ ++ rest) w1 G1.out C2.out.1 C2.out.2.1 C2.out.2.2 S2.out R2.out).mono ?_
  rintro e w2 ⟨rfl, hb2⟩
  have B2 : Hid (Below w.heap.size w w2) := B1.out.trans (hb2.mono B1.out.size)
  have G2 : Hid (w2.cell? ⟨0, 0, none⟩ = some (.iface 107 (.agg #[.pointer (some ⟨5, 37, none⟩)]))) := (B2.out.cell (p := ⟨0, 0, none⟩) hpos).trans HG.out
  clear hb2
  go_wp2_with (go_at_call 8; go_in)
  refine (pathError_any op (temp ++ cs ++ rest) temp name (cs ++ rest) _ w2 G2.out C3.out.1 C3.out.2.1 C3.out.2.2 S3.out R3.out).mono ?_
  rintro e w3 ⟨rfl, hb3⟩
  have B3 : Hid (Below w.heap.size w w3) := B2.out.trans (hb3.mono B2.out.size)
  clear hb3
  go_wp2
  go_ret
  exact ⟨rfl, B3.out⟩

set_option maxHeartbeats 2000000 in
set_option maxRecDepth 100000 in
theorem core_keep (op temp rest name cs : ByteArray) (c : Int) (w : World) (h : op.size + temp.size + rest.size + name.size ≤ 1048576) (hcs : cs.size ≤ 1) (h47 : (c == 47) = false)
    (HG : Hid (w.cell? ⟨0, 0, none⟩ = some (.iface 107 (.agg #[.pointer (some ⟨5, 37, none⟩)]))))
    (hconv : (convert 23 9 (.slice (some ⟨w.heap.size, 0, none⟩) 1 1)).run Tryd.prog (w.alloc (.cells #[.int .u8 c] 5)) = .ok (.string cs) (w.alloc (.cells #[.int .u8 c] 5)))
    (C1 : Hid (temp.size ≤ temp.size ∧ ((temp.extract 0 temp.size).toList == temp.toList) = true ∧ temp.extract temp.size temp.size = ByteArray.empty)) (S1 : Hid (name.size + ByteArray.empty.size ≤ 9223372036854775807))
    (R2 : Hid (Renames (temp ++ ⟨#[47]⟩ ++ rest) name (⟨#[47]⟩ ++ rest) (name ++ ⟨#[47]⟩ ++ rest))) (S2 : Hid (name.size + (ByteArray.mk #[47] ++ rest).size ≤ 9223372036854775807)) (C2 : Hid (temp.size ≤ (temp ++ ⟨#[47]⟩ ++ rest).size ∧ (((temp ++ ⟨#[47]⟩ ++ rest).extract 0 temp.size).toList == temp.toList) = true ∧ (temp ++ ⟨#[47]⟩ ++ rest).extract temp.size (temp ++ ⟨#[47]⟩ ++ rest).size = ⟨#[47]⟩ ++ rest))
    (R3 : Hid (Renames (temp ++ cs ++ rest) name (cs ++ rest) (temp ++ cs ++ rest))) (S3 : Hid (name.size + (cs ++ rest).size ≤ 9223372036854775807)) (C3 : Hid (temp.size ≤ (temp ++ cs ++ rest).size ∧ (((temp ++ cs ++ rest).extract 0 temp.size).toList == temp.toList) = true ∧ (temp ++ cs ++ rest).extract temp.size (temp ++ cs ++ rest).size = cs ++ rest)) :
    Calls Tryd.prog 3 #[.string op, .string temp, .string rest, .string name, .int .u8 c] w fun e w' => e = .returned (.bool true) ∧ Below w.heap.size w w' := by
  have hpos : 0 < w.heap.size := by
    rcases Nat.eq_zero_or_pos w.heap.size with h0 | h
    · have hg := HG.out
      simp [World.cell?, h0] at hg
    · exact h
  have H : Hid (op.size + temp.size + rest.size + name.size ≤ 1048576) := h
  go_enter Tryd.func3, Tryd.ntmps3
  go_wp2_with (go_at_call 6; refine (bytes_yes _ _ _ _ _ _ H.out).mono ?_; rintro e w' ⟨rfl, rfl⟩)
  refine (pathError_any op temp temp name ByteArray.empty name _ ?g1 C1.out.1 C1.out.2.1 C1.out.2.2 S1.out (ren_empty temp name)).mono ?_
  case g1 => rw [World.cell?_alloc_lt _ _ ⟨0, 0, none⟩ hpos]; exact HG.out
  rintro e w1 ⟨rfl, hb1⟩
  have B1 : Hid (Below w.heap.size w w1) := ((Below.refl _ w).alloc (Nat.le_refl _) _).trans (hb1.mono (by simp))
  have G1 : Hid (w1.cell? ⟨0, 0, none⟩ = some (.iface 107 (.agg #[.pointer (some ⟨5, 37, none⟩)]))) := (B1.out.cell (p := ⟨0, 0, none⟩) hpos).trans HG.out
  clear hb1
  go_wp2_with fail
  refine (pathError_any op (temp ++ ⟨#[47]⟩ ++ rest) temp name (⟨#[47]⟩ ++ rest) (name ++ ⟨#[47]⟩ ++ rest) w1 G1.out C2.out.1 C2.out.2.1 C2.out.2.2 S2.out R2.out).mono ?_
  rintro e w2 ⟨rfl, hb2⟩
  have B2 : Hid (Below w.heap.size w w2) := B1.out.trans (hb2.mono B1.out.size)
  have G2 : Hid (w2.cell? ⟨0, 0, none⟩ = some (.iface 107 (.agg #[.pointer (some ⟨5, 37, none⟩)]))) := (B2.out.cell (p := ⟨0, 0, none⟩) hpos).trans HG.out
  clear hb2
  go_wp2_with (go_at_call 8; go_in)
  refine (pathError_any op (temp ++ cs ++ rest) temp name (cs ++ rest) _ w2 G2.out C3.out.1 C3.out.2.1 C3.out.2.2 S3.out R3.out).mono ?_
  rintro e w3 ⟨rfl, hb3⟩
  have B3 : Hid (Below w.heap.size w w3) := B2.out.trans (hb3.mono B2.out.size)
  clear hb3
  go_wp2
  go_ret
  exact ⟨rfl, B3.out⟩

theorem law_any (op temp rest name : ByteArray) (c : Int) (w : World) (hc0 : 0 ≤ c) (hc1 : c ≤ 255) (hg : w.cell? ⟨0, 0, none⟩ = some (.iface 107 (.agg #[.pointer (some ⟨5, 37, none⟩)]))) :
    Calls Tryd.prog 3 #[.string op, .string temp, .string rest, .string name, .int .u8 c] w fun e w' => e = .returned (.bool true) ∧ Below w.heap.size w w' := by
  rcases Nat.lt_or_ge 1048576 (op.size + temp.size + rest.size + name.size) with hb | h
  · exact law_big op temp rest name c w hb
  obtain ⟨hx3, e3⟩ := one_byte c hc0 hc1
  have z3 : (strOfNums [c]).size = 1 := strOfNums_size _
  have S3 : name.size + (strOfNums [c] ++ rest).size ≤ 9223372036854775807 := by rw [ByteArray.size_append, z3]; omega
  have S2 : name.size + (ByteArray.mk #[47] ++ rest).size ≤ 9223372036854775807 := by
    rw [ByteArray.size_append]
    have : (ByteArray.mk #[47]).size = 1 := rfl
    omega
  have S1 : name.size + ByteArray.empty.size ≤ 9223372036854775807 := by
    have : ByteArray.empty.size = 0 := rfl
    omega
  have hconv := run_convert_bytes_arg (P := Tryd.prog) (w.alloc (.cells #[.int .u8 c] 5)) 23 5 Tryd.underlying23 Tryd.underlying5 w.heap.size 0 1 1 [c] rfl (fun i hi => by
    have : i = 0 := by omega
    subst this
    simp) 9 Tryd.underlying9
  cases h47 : (c == 47) with
  | true =>
    have g3 : ((47 : Int) == (((strOfNums [c])[0]'hx3).toNat : Int)) = true := by rw [e3, BEq.comm]; exact h47
    exact core_sep op temp rest name (strOfNums [c]) c w h (by omega) h47 hg hconv (cut_facts _ _ _ ByteArray.append_empty.symm) S1 (ren_sep _ _ _ _ Nat.one_pos rfl) S2 (cut_facts _ _ _ ByteArray.append_assoc) (ren_sep _ _ _ _ hx3 g3) S3 (cut_facts _ _ _ ByteArray.append_assoc)
  | false =>
    have g3 : ((47 : Int) == (((strOfNums [c])[0]'hx3).toNat : Int)) = false := by rw [e3, BEq.comm]; exact h47
    exact core_keep op temp rest name (strOfNums [c]) c w h (by omega) h47 hg hconv (cut_facts _ _ _ ByteArray.append_empty.symm) S1 (ren_sep _ _ _ _ Nat.one_pos rfl) S2 (cut_facts _ _ _ ByteArray.append_assoc) (ren_keep _ _ _ _ hx3 g3) S3 (cut_facts _ _ _ ByteArray.append_assoc)
end Go.Proofs.Qxb6604726aDoor
