/-
  Seat b6604726aD: the walks of strings.CutPrefix, wholefile.named and wholefile.ZZnamedPathError, where the path begins with the temporary name.
-/
import Derived.Test.Qxb6604726aDoorAs
import Derived.Deep.QuietTactic
import Derived.BigQuiet
import Derived.WalkSpells
namespace Go.Proofs.Qxb6604726aDoor
open Go.RowKit Go.Extern.Stop Go.Stop Go.Extern

/-- What errors.As leaves, told by what it is good for. -/
theorem as_told (e t : Addr) (old : Value) (w : World) (hg : w.cell? ⟨0, 0, none⟩ = some (.iface 107 (.agg #[.pointer (some ⟨5, 37, none⟩)]))) (ht0 : w.cell? t = some old) (hf0 : w.frozen? t = false) :
    Calls Tryd.prog 18 #[.iface 35 (.pointer (some e)), .iface 49 (.pointer (some t))] w fun ev w' => ev = .returned (.bool true) ∧ w'.cell? t = some (.pointer (some e)) ∧ Below t.block w w' ∧ (∀ a : Addr, a.block < w.heap.size → a ≠ t → w'.cell? a = w.cell? a) ∧ ∀ a : Addr, a.block < w.heap.size → w'.frozen? a = w.frozen? a := by
  have htl : t.block < w.heap.size := by
    rcases Nat.lt_or_ge t.block w.heap.size with h | h
    · exact h
    · simp [World.cell?, Array.getElem?_eq_none h] at ht0
  refine (as_hit e t old w hg ht0 hf0).mono fun ev w' ⟨he, hw⟩ => ⟨he, ?_⟩
  have hb : ∀ o1 o2 o3 o4, Below w.heap.size w ((((w.alloc o1).alloc o2).alloc o3).alloc o4) := fun o1 o2 o3 o4 =>
    ((((Below.refl _ _).alloc (Nat.le_refl _) _).alloc (by simp) _).alloc (by simp; omega) _).alloc (by simp; omega) _
  generalize hW : (((w.alloc (.cells #[.pointer (some t)] 49)).alloc (.cells #[.pointer (some ⟨5, 49, none⟩), .pointer (some ⟨w.heap.size, 0, none⟩), .int .u64 150] 58)).alloc (.cells #[.pointer (some ⟨5, 49, none⟩), .pointer (some ⟨w.heap.size, 0, none⟩), .int .u64 150] 58)).alloc (.cells #[.pointer (some e)] 35) = W4 at hw
  have hb4 : Below w.heap.size w W4 := hW ▸ hb _ _ _ _
  subst hw
  have hc4 : W4.cell? t = some old := (hb4.cell htl).trans ht0
  refine ⟨World.cell?_setCell_same _ _ _ hc4, (hb4.mono (Nat.le_of_lt htl)).setCell (Nat.le_refl _) _, fun a ha hne => ?_, fun a ha => ?_⟩
  · rw [World.cell?_setCell_other _ _ _ _ (Ne.symm hne)]; exact hb4.cell ha
  · rw [World.frozen?_setCell]; exact hb4.frozen ha

/-- strings.CutPrefix where s begins with p. -/
theorem cut_hit (s p tail : ByteArray) (w : World) (hle : p.size ≤ s.size) (h1 : ((s.extract 0 p.size).toList == p.toList) = true) (h2 : s.extract p.size s.size = tail) :
    Calls Tryd.prog 19 #[.string s, .string p] w fun e w' => e = .returned (.tuple #[.string tail, .bool true]) ∧ w' = w := by
  go_enter Tryd.func19, Tryd.ntmps19
  go_wp2
  go_ret2
  exact ⟨rfl, rfl⟩

/-- wholefile.named at a *fs.PathError in block b whose Path is temp: the Path becomes name. -/
theorem named_empty (b : Nat) (path temp name tail : ByteArray) (w : World) (hg : w.cell? ⟨0, 0, none⟩ = some (.iface 107 (.agg #[.pointer (some ⟨5, 37, none⟩)])))
    (hb0 : 0 < b) (hb : b < w.heap.size) (hc : w.cell? ⟨b, 1, none⟩ = some (.string path)) (hf : w.frozen? ⟨b, 1, none⟩ = false) (hle : temp.size ≤ path.size) (h1 : ((path.extract 0 temp.size).toList == temp.toList) = true) (h2 : path.extract temp.size path.size = tail)
    (hsz : name.size + tail.size ≤ 9223372036854775807) (he : tail.toList.isEmpty = true) :
    Calls Tryd.prog 16 #[.iface 35 (.pointer (some ⟨b, 0, none⟩)), .string temp, .string name] w fun e w' => e = .returned (.iface 35 (.pointer (some ⟨b, 0, none⟩))) ∧ w'.cell? ⟨b, 1, none⟩ = some (.string (name ++ tail)) ∧ w'.cell? ⟨b, 0, none⟩ = w.cell? ⟨b, 0, none⟩ ∧ Below b w w' := by
  have H1 : Hid (((path.extract 0 temp.size).toList == temp.toList) = true) := h1
  have H2 : Hid (path.extract temp.size path.size = tail) := h2
  have HL : Hid (temp.size ≤ path.size) := hle
  have HG : Hid (w.cell? ⟨0, 0, none⟩ = some (.iface 107 (.agg #[.pointer (some ⟨5, 37, none⟩)]))) := hg
  have HC : Hid (w.cell? ⟨b, 1, none⟩ = some (.string path)) := hc
  have HF : Hid (w.frozen? ⟨b, 1, none⟩ = false) := hf
  clear h1 h2 hle hg hc hf
  go_enter Tryd.func16, Tryd.ntmps16
  go_wp2_with fail
  refine (as_told ⟨b, 0, none⟩ ⟨w.heap.size, 0, none⟩ (.pointer none) _ ?g1 (by simp) (by simp)).mono ?_
  case g1 => rw [World.cell?_alloc_lt _ _ ⟨0, 0, none⟩ (by simp; omega)]; exact HG.out
  rintro e w1 ⟨rfl, ct, hbel, hold, hfz⟩
  have c1 : w1.cell? ⟨b, 1, none⟩ = some (.string path) := by
    rw [hold ⟨b, 1, none⟩ (by first | (simp; done) | (simp; omega)) (by first | (simp; done) | (simp; omega)), World.cell?_alloc_lt _ _ ⟨b, 1, none⟩ hb]; exact HC.out
  have c0 : w1.cell? ⟨b, 0, none⟩ = w.cell? ⟨b, 0, none⟩ := by
    rw [hold ⟨b, 0, none⟩ (by first | (simp; done) | (simp; omega)) (by first | (simp; done) | (simp; omega)), World.cell?_alloc_lt _ _ ⟨b, 0, none⟩ hb]
  have f1 : w1.frozen? ⟨b, 1, none⟩ = false := by
    rw [hfz ⟨b, 1, none⟩ (by simp; omega), World.frozen?_alloc_old _ _ ⟨b, 1, none⟩ (by simp; omega)]; exact HF.out
  have C0 : Hid (w1.cell? ⟨b, 0, none⟩ = w.cell? ⟨b, 0, none⟩) := c0
  have HB : Hid (Below w.heap.size w w1) := ((Below.refl _ _).alloc (Nat.le_refl _) _).trans hbel
  clear hold hfz hbel c0
  go_wp2_with fail
  refine (cut_hit path temp tail _ HL.out H1.out H2.out).mono ?_
  rintro e w2 ⟨rfl, rfl⟩
  go_wp2
  go_ret
  exact ⟨rfl, World.cell?_setCell_same _ _ _ c1, by rw [World.cell?_setCell_other _ _ _ _ (by simp)]; exact C0.out, (HB.out.mono (Nat.le_of_lt hb)).setCell (Nat.le_refl _) _⟩

/-- .. whose Path is temp followed by tail, which begins with a separator: the Path becomes name followed by tail. -/
theorem named_sep (b : Nat) (path temp name tail : ByteArray) (w : World) (hg : w.cell? ⟨0, 0, none⟩ = some (.iface 107 (.agg #[.pointer (some ⟨5, 37, none⟩)])))
    (hb0 : 0 < b) (hb : b < w.heap.size) (hc : w.cell? ⟨b, 1, none⟩ = some (.string path)) (hf : w.frozen? ⟨b, 1, none⟩ = false) (hle : temp.size ≤ path.size) (h1 : ((path.extract 0 temp.size).toList == temp.toList) = true) (h2 : path.extract temp.size path.size = tail)
    (hsz : name.size + tail.size ≤ 9223372036854775807) (he : tail.toList.isEmpty = false) (h0 : 0 < tail.size) (h47 : ((47 : Int) == ((tail[0]'h0).toNat : Int)) = true) :
    Calls Tryd.prog 16 #[.iface 35 (.pointer (some ⟨b, 0, none⟩)), .string temp, .string name] w fun e w' => e = .returned (.iface 35 (.pointer (some ⟨b, 0, none⟩))) ∧ w'.cell? ⟨b, 1, none⟩ = some (.string (name ++ tail)) ∧ w'.cell? ⟨b, 0, none⟩ = w.cell? ⟨b, 0, none⟩ ∧ Below b w w' := by
  have H1 : Hid (((path.extract 0 temp.size).toList == temp.toList) = true) := h1
  have H2 : Hid (path.extract temp.size path.size = tail) := h2
  have HL : Hid (temp.size ≤ path.size) := hle
  have HG : Hid (w.cell? ⟨0, 0, none⟩ = some (.iface 107 (.agg #[.pointer (some ⟨5, 37, none⟩)]))) := hg
  have HC : Hid (w.cell? ⟨b, 1, none⟩ = some (.string path)) := hc
  have HF : Hid (w.frozen? ⟨b, 1, none⟩ = false) := hf
  clear h1 h2 hle hg hc hf
  go_enter Tryd.func16, Tryd.ntmps16
  go_wp2_with fail
  refine (as_told ⟨b, 0, none⟩ ⟨w.heap.size, 0, none⟩ (.pointer none) _ ?g1 (by simp) (by simp)).mono ?_
  case g1 => rw [World.cell?_alloc_lt _ _ ⟨0, 0, none⟩ (by simp; omega)]; exact HG.out
  rintro e w1 ⟨rfl, ct, hbel, hold, hfz⟩
  have c1 : w1.cell? ⟨b, 1, none⟩ = some (.string path) := by
    rw [hold ⟨b, 1, none⟩ (by first | (simp; done) | (simp; omega)) (by first | (simp; done) | (simp; omega)), World.cell?_alloc_lt _ _ ⟨b, 1, none⟩ hb]; exact HC.out
  have c0 : w1.cell? ⟨b, 0, none⟩ = w.cell? ⟨b, 0, none⟩ := by
    rw [hold ⟨b, 0, none⟩ (by first | (simp; done) | (simp; omega)) (by first | (simp; done) | (simp; omega)), World.cell?_alloc_lt _ _ ⟨b, 0, none⟩ hb]
  have f1 : w1.frozen? ⟨b, 1, none⟩ = false := by
    rw [hfz ⟨b, 1, none⟩ (by simp; omega), World.frozen?_alloc_old _ _ ⟨b, 1, none⟩ (by simp; omega)]; exact HF.out
  have C0 : Hid (w1.cell? ⟨b, 0, none⟩ = w.cell? ⟨b, 0, none⟩) := c0
  have HB : Hid (Below w.heap.size w w1) := ((Below.refl _ _).alloc (Nat.le_refl _) _).trans hbel
  clear hold hfz hbel c0
  go_wp2_with fail
  refine (cut_hit path temp tail _ HL.out H1.out H2.out).mono ?_
  rintro e w2 ⟨rfl, rfl⟩
  go_wp2
  go_ret
  exact ⟨rfl, World.cell?_setCell_same _ _ _ c1, by rw [World.cell?_setCell_other _ _ _ _ (by simp)]; exact C0.out, (HB.out.mono (Nat.le_of_lt hb)).setCell (Nat.le_refl _) _⟩

/-- .. whose Path is temp followed by tail, which begins with another byte: the Path stays. -/
theorem named_keep (b : Nat) (path temp name tail : ByteArray) (w : World) (hg : w.cell? ⟨0, 0, none⟩ = some (.iface 107 (.agg #[.pointer (some ⟨5, 37, none⟩)])))
    (hb0 : 0 < b) (hb : b < w.heap.size) (hc : w.cell? ⟨b, 1, none⟩ = some (.string path)) (hf : w.frozen? ⟨b, 1, none⟩ = false) (hle : temp.size ≤ path.size) (h1 : ((path.extract 0 temp.size).toList == temp.toList) = true) (h2 : path.extract temp.size path.size = tail)
    (he : tail.toList.isEmpty = false) (h0 : 0 < tail.size) (h47 : ((47 : Int) == ((tail[0]'h0).toNat : Int)) = false) :
    Calls Tryd.prog 16 #[.iface 35 (.pointer (some ⟨b, 0, none⟩)), .string temp, .string name] w fun e w' => e = .returned (.iface 35 (.pointer (some ⟨b, 0, none⟩))) ∧ w'.cell? ⟨b, 1, none⟩ = some (.string path) ∧ w'.cell? ⟨b, 0, none⟩ = w.cell? ⟨b, 0, none⟩ ∧ Below b w w' := by
  have H1 : Hid (((path.extract 0 temp.size).toList == temp.toList) = true) := h1
  have H2 : Hid (path.extract temp.size path.size = tail) := h2
  have HL : Hid (temp.size ≤ path.size) := hle
  have HG : Hid (w.cell? ⟨0, 0, none⟩ = some (.iface 107 (.agg #[.pointer (some ⟨5, 37, none⟩)]))) := hg
  have HC : Hid (w.cell? ⟨b, 1, none⟩ = some (.string path)) := hc
  have HF : Hid (w.frozen? ⟨b, 1, none⟩ = false) := hf
  clear h1 h2 hle hg hc hf
  go_enter Tryd.func16, Tryd.ntmps16
  go_wp2_with fail
  refine (as_told ⟨b, 0, none⟩ ⟨w.heap.size, 0, none⟩ (.pointer none) _ ?g1 (by simp) (by simp)).mono ?_
  case g1 => rw [World.cell?_alloc_lt _ _ ⟨0, 0, none⟩ (by simp; omega)]; exact HG.out
  rintro e w1 ⟨rfl, ct, hbel, hold, hfz⟩
  have c1 : w1.cell? ⟨b, 1, none⟩ = some (.string path) := by
    rw [hold ⟨b, 1, none⟩ (by first | (simp; done) | (simp; omega)) (by first | (simp; done) | (simp; omega)), World.cell?_alloc_lt _ _ ⟨b, 1, none⟩ hb]; exact HC.out
  have c0 : w1.cell? ⟨b, 0, none⟩ = w.cell? ⟨b, 0, none⟩ := by
    rw [hold ⟨b, 0, none⟩ (by first | (simp; done) | (simp; omega)) (by first | (simp; done) | (simp; omega)), World.cell?_alloc_lt _ _ ⟨b, 0, none⟩ hb]
  have f1 : w1.frozen? ⟨b, 1, none⟩ = false := by
    rw [hfz ⟨b, 1, none⟩ (by simp; omega), World.frozen?_alloc_old _ _ ⟨b, 1, none⟩ (by simp; omega)]; exact HF.out
  have C0 : Hid (w1.cell? ⟨b, 0, none⟩ = w.cell? ⟨b, 0, none⟩) := c0
  have HB : Hid (Below w.heap.size w w1) := ((Below.refl _ _).alloc (Nat.le_refl _) _).trans hbel
  clear hold hfz hbel c0
  go_wp2_with fail
  refine (cut_hit path temp tail _ HL.out H1.out H2.out).mono ?_
  rintro e w2 ⟨rfl, rfl⟩
  go_wp2
  go_ret
  exact ⟨rfl, c1, C0.out, HB.out.mono (Nat.le_of_lt hb)⟩

/-- What becomes of a Path that is temp followed by tail. -/
def Renames (path name tail out : ByteArray) : Prop :=
  (tail.toList.isEmpty = true ∧ out = name ++ tail) ∨ (tail.toList.isEmpty = false ∧ ∃ h0 : 0 < tail.size, (((47 : Int) == ((tail[0]'h0).toNat : Int)) = true ∧ out = name ++ tail) ∨ (((47 : Int) == ((tail[0]'h0).toNat : Int)) = false ∧ out = path))

theorem named_any (b : Nat) (path temp name tail out : ByteArray) (w : World) (hg : w.cell? ⟨0, 0, none⟩ = some (.iface 107 (.agg #[.pointer (some ⟨5, 37, none⟩)])))
    (hb0 : 0 < b) (hb : b < w.heap.size) (hc : w.cell? ⟨b, 1, none⟩ = some (.string path)) (hf : w.frozen? ⟨b, 1, none⟩ = false) (hle : temp.size ≤ path.size) (h1 : ((path.extract 0 temp.size).toList == temp.toList) = true) (h2 : path.extract temp.size path.size = tail)
    (hsz : name.size + tail.size ≤ 9223372036854775807) (hr : Renames path name tail out) :
    Calls Tryd.prog 16 #[.iface 35 (.pointer (some ⟨b, 0, none⟩)), .string temp, .string name] w fun e w' => e = .returned (.iface 35 (.pointer (some ⟨b, 0, none⟩))) ∧ w'.cell? ⟨b, 1, none⟩ = some (.string out) ∧ w'.cell? ⟨b, 0, none⟩ = w.cell? ⟨b, 0, none⟩ ∧ Below b w w' := by
  rcases hr with ⟨he, rfl⟩ | ⟨he, h0, ⟨h47, rfl⟩ | ⟨h47, rfl⟩⟩
  · exact named_empty b path temp name tail w hg hb0 hb hc hf hle h1 h2 hsz he
  · exact named_sep b path temp name tail w hg hb0 hb hc hf hle h1 h2 hsz he h0 h47
  · exact named_keep b out temp name tail w hg hb0 hb hc hf hle h1 h2 he h0 h47

theorem Tryd.isComp : (Tryd.prog.info? 35).map (·.comparable) = some true := by kernel_rfl
theorem Tryd.isSize : (Tryd.prog.info? 39).map (·.size) = some 3 := by kernel_rfl
theorem Tryd.eqlPE (a : Addr) (w : World) : (binOp .eql 37 (.iface 35 (.pointer (some a))) (.iface 35 (.pointer (some a)))).run Tryd.prog w = .ok (.bool true) w := by
  obtain ⟨i, hi, hcmp⟩ := Option.map_eq_some_iff.1 Tryd.isComp
  obtain ⟨j, hj, _⟩ := Option.map_eq_some_iff.1 Tryd.isSize
  exact run_eql_iface_ptr_same (P := Tryd.prog) w a Tryd.underlying37 Tryd.underlying35 hi hcmp hj

set_option maxHeartbeats 1000000 in
/-- wholefile.ZZnamedPathError: the error handed in comes back, Op as it was, Path as 'Renames' says. -/
theorem pathError_any (op path temp name tail out : ByteArray) (w : World) (hg : w.cell? ⟨0, 0, none⟩ = some (.iface 107 (.agg #[.pointer (some ⟨5, 37, none⟩)])))
    (hle : temp.size ≤ path.size) (h1 : ((path.extract 0 temp.size).toList == temp.toList) = true) (h2 : path.extract temp.size path.size = tail)
    (hsz : name.size + tail.size ≤ 9223372036854775807) (hr : Renames path name tail out) :
    Calls Tryd.prog 7 #[.string op, .string path, .string temp, .string name] w fun e w' => e = .returned (.tuple #[.bool true, .string op, .string out]) ∧ Below w.heap.size w w' := by
  have hpos : 0 < w.heap.size := by
    rcases Nat.eq_zero_or_pos w.heap.size with h0 | h
    · simp [World.cell?, h0] at hg
    · exact h
  have H1 : Hid (((path.extract 0 temp.size).toList == temp.toList) = true) := h1
  have H2 : Hid (path.extract temp.size path.size = tail) := h2
  have HL : Hid (temp.size ≤ path.size) := hle
  have HG : Hid (w.cell? ⟨0, 0, none⟩ = some (.iface 107 (.agg #[.pointer (some ⟨5, 37, none⟩)]))) := hg
  have HS : Hid (name.size + tail.size ≤ 9223372036854775807) := hsz
  have HR : Hid (Renames path name tail out) := hr
  have heq := fun wx => Tryd.eqlPE ⟨w.heap.size, 0, none⟩ wx
  clear h1 h2 hle hg hsz hr
  go_enter Tryd.func7, Tryd.ntmps7
  go_wp2_with fail
  refine (named_any w.heap.size path temp name tail out _ ?g1 hpos (by simp) (by simp) (by simp) HL.out H1.out H2.out HS.out HR.out).mono ?_
  case g1 => rw [World.cell?_alloc_lt _ _ ⟨0, 0, none⟩ hpos]; exact HG.out
  rintro e w2 ⟨rfl, c1, c0, hbel⟩
  have c0' : w2.cell? ⟨w.heap.size, 0, none⟩ = some (.string op) := by rw [c0]; simp
  have HB : Hid (Below w.heap.size w w2) := ((Below.refl _ _).alloc (Nat.le_refl _) _).trans hbel
  clear hbel c0
  go_wp2_with fail
  go_quiet (fail)
  go_wp2
  go_ret3
  exact ⟨rfl, ⟨HB.out.os, HB.out.tape, HB.out.output, HB.out.size, HB.out.block⟩⟩

end Go.Proofs.Qxb6604726aDoor
