/-
  Seat b6603612a: THE PLAIN LAWS, no Go in sight: borders of a run (the table of Knuth, Morris and Pratt) and the first match in a text. A run is a function from places to numbers.
-/
namespace Go.Proofs.Qxb6603612a.Plain

/-- m is the length of the longest border of z's first n places: shorter than n, a head part that is a tail part too, and no longer one is. -/
structure IsLb (z : Nat → Int) (n m : Nat) : Prop where
  lt : m < n
  eq : ∀ j, j < m → z j = z (n - m + j)
  top : ∀ k, k < n → (∀ j, j < k → z j = z (n - k + j)) → k ≤ m

theorem IsLb.unique {z : Nat → Int} {n a b : Nat} (ha : IsLb z n a) (hb : IsLb z n b) : a = b :=
  Nat.le_antisymm (hb.top a ha.lt ha.eq) (ha.top b hb.lt hb.eq)

/-- Is the head part of length k a tail part of the first n places? -/
def pis (z : Nat → Int) (n k : Nat) : Bool := decide (∀ j, j < k → z j = z (n - k + j))

theorem pis_true {z : Nat → Int} {n k : Nat} (h : ∀ j, j < k → z j = z (n - k + j)) : pis z n k = true := decide_eq_true h
theorem pis_false {z : Nat → Int} {n k j : Nat} (hj : j < k) (h : z j ≠ z (n - k + j)) : pis z n k = false := decide_eq_false fun g => h (g j hj)
theorem of_pis {z : Nat → Int} {n k : Nat} (h : pis z n k = true) : ∀ j, j < k → z j = z (n - k + j) := of_decide_eq_true h

/-- The longest border among the lengths up to k. -/
def lbTo (z : Nat → Int) (n : Nat) : Nat → Nat
  | 0 => 0
  | k + 1 => if pis z n (k + 1) = true then k + 1 else lbTo z n k
def lb (z : Nat → Int) (n : Nat) : Nat := lbTo z n (n - 1)

theorem lbTo_le (z : Nat → Int) (n k : Nat) : lbTo z n k ≤ k := by
  induction k with
  | zero => exact Nat.le_refl _
  | succ k ih =>
    unfold lbTo
    split
    · exact Nat.le_refl _
    · omega
theorem lbTo_eq (z : Nat → Int) (n k : Nat) : ∀ j, j < lbTo z n k → z j = z (n - lbTo z n k + j) := by
  induction k with
  | zero => intro j hj; exact absurd hj (Nat.not_lt_zero _)
  | succ k ih =>
    unfold lbTo
    split
    · rename_i h; exact of_pis h
    · exact ih
theorem lbTo_top (z : Nat → Int) (n k i : Nat) (hi : i ≤ k) (h : ∀ j, j < i → z j = z (n - i + j)) : i ≤ lbTo z n k := by
  induction k with
  | zero => omega
  | succ k ih =>
    unfold lbTo
    split
    · exact hi
    · rename_i hn
      rcases Nat.lt_or_ge k i with g | g
      · have e : i = k + 1 := by omega
        subst e
        exact absurd (pis_true h) hn
      · exact ih g

theorem lb_is (z : Nat → Int) (n : Nat) (hn : 0 < n) : IsLb z n (lb z n) := by
  refine ⟨?_, lbTo_eq z n _, fun k hk h => lbTo_top z n _ k (by omega) h⟩
  have := lbTo_le z n (n - 1)
  unfold lb
  omega
theorem lb_of {z : Nat → Int} {n m : Nat} (h : IsLb z n m) : lb z n = m := (lb_is z n (by have := h.lt; omega)).unique h
theorem lb_lt (z : Nat → Int) (n : Nat) (hn : 0 < n) : lb z n < n := (lb_is z n hn).lt
theorem lb_one (z : Nat → Int) : lb z 1 = 0 := rfl

/-- m is a border of the first i places, and every border that goes on at place i is no longer. -/
structure Cand (z : Nat → Int) (i m : Nat) : Prop where
  lt : m < i
  eq : ∀ j, j < m → z j = z (i - m + j)
  top : ∀ k, k < i → (∀ j, j < k → z j = z (i - k + j)) → z k = z i → k ≤ m

theorem cand_start (z : Nat → Int) (i : Nat) (hi : 0 < i) : Cand z i (lb z i) := by
  have h := lb_is z i hi
  exact ⟨h.lt, h.eq, fun k hk he _ => h.top k hk he⟩

theorem cand_step {z : Nat → Int} {i m : Nat} (h : Cand z i m) (hm : 0 < m) (hne : z i ≠ z m) : Cand z i (lb z m) := by
  have g := lb_is z m hm
  have hlt := h.lt
  have glt := g.lt
  refine ⟨by omega, fun j hj => ?_, fun k hk he hz => ?_⟩
  · have e1 := g.eq j hj
    have e2 := h.eq (m - lb z m + j) (by omega)
    rw [e1, e2]
    congr 1
    omega
  · have h1 := h.top k hk he hz
    have h2 : k ≠ m := fun e => hne (by rw [← e, hz])
    refine g.top k (by omega) fun j hj => ?_
    have e1 := he j hj
    have e2 := h.eq (m - k + j) (by omega)
    rw [e1, e2]
    congr 1
    omega

theorem cand_hit {z : Nat → Int} {i m : Nat} (h : Cand z i m) (he : z i = z m) : lb z (i + 1) = m + 1 := by
  have hlt := h.lt
  refine lb_of ⟨by omega, fun j hj => ?_, fun k hk hb => ?_⟩
  · rcases Nat.lt_or_ge j m with g | g
    · have := h.eq j g
      rw [this]
      congr 1
      omega
    · have e : j = m := by omega
      subst e
      rw [← he]
      congr 1
      omega
  · rcases Nat.eq_zero_or_pos k with rfl | hk0
    · omega
    · obtain ⟨q, rfl⟩ : ∃ q, k = q + 1 := ⟨k - 1, by omega⟩
      have hq : q ≤ m := by
        refine h.top q (by omega) (fun j hj => ?_) ?_
        · have := hb j (by omega)
          rw [this]
          congr 1
          omega
        · have := hb q (by omega)
          rw [this]
          congr 1
          omega
      omega

theorem cand_miss {z : Nat → Int} {i : Nat} (h : Cand z i 0) (hne : z i ≠ z 0) : lb z (i + 1) = 0 := by
  have hlt := h.lt
  refine lb_of ⟨by omega, fun j hj => absurd hj (Nat.not_lt_zero _), fun k hk hb => ?_⟩
  rcases Nat.eq_zero_or_pos k with rfl | hk0
  · omega
  · obtain ⟨q, rfl⟩ : ∃ q, k = q + 1 := ⟨k - 1, by omega⟩
    have hz : z q = z i := by
      have := hb q (by omega)
      rw [this]
      congr 1
      omega
    have hq : q ≤ 0 := by
      refine h.top q (by omega) (fun j hj => ?_) hz
      have := hb j (by omega)
      rw [this]
      congr 1
      omega
    have e : q = 0 := by omega
    subst e
    exact absurd hz.symm hne

/-! ### the first match -/

/-- The run p of length L stands in the text t at place s. -/
def Hit (t p : Nat → Int) (L s : Nat) : Prop := ∀ j, j < L → t (s + j) = p j

/-- r is the first place at which p stands in the first N places of t, or -1. -/
def IsFirst (t : Nat → Int) (N : Nat) (p : Nat → Int) (L : Nat) (r : Int) : Prop :=
  (r = -1 ∧ ∀ s, s + L ≤ N → ¬ Hit t p L s) ∨ ∃ s : Nat, r = (s : Int) ∧ s + L ≤ N ∧ Hit t p L s ∧ ∀ u, u < s → ¬ Hit t p L u

theorem IsFirst.unique {t : Nat → Int} {N : Nat} {p : Nat → Int} {L : Nat} {a b : Int} (ha : IsFirst t N p L a) (hb : IsFirst t N p L b) : a = b := by
  rcases ha with ⟨rfl, h1⟩ | ⟨s, rfl, h1, h2, h3⟩
  · rcases hb with ⟨rfl, _⟩ | ⟨u, rfl, g1, g2, _⟩
    · rfl
    · exact absurd g2 (h1 u g1)
  · rcases hb with ⟨rfl, g1⟩ | ⟨u, rfl, g1, g2, g3⟩
    · exact absurd h2 (g1 s h1)
    · have h4 : ¬ s < u := fun g => g3 s g h2
      have h5 : ¬ u < s := fun g => h3 u g g2
      have : s = u := by omega
      rw [this]

/-- At the head of round i: p's first m places end the first i places of t, no more of them do (short of all L), and p stands nowhere there. -/
structure Head (t p : Nat → Int) (L i m : Nat) : Prop where
  lt : m < L
  le : m ≤ i
  eq : ∀ j, j < m → p j = t (i - m + j)
  top : ∀ k, k < L → k ≤ i → (∀ j, j < k → p j = t (i - k + j)) → k ≤ m
  no : ∀ s, s + L ≤ i → ¬ Hit t p L s

structure Kc (t p : Nat → Int) (L i m : Nat) : Prop where
  lt : m < L
  le : m ≤ i
  eq : ∀ j, j < m → p j = t (i - m + j)
  top : ∀ k, k < L → k ≤ i → (∀ j, j < k → p j = t (i - k + j)) → p k = t i → k ≤ m
  no : ∀ s, s + L ≤ i → ¬ Hit t p L s

theorem head_start (t p : Nat → Int) (L : Nat) (hL : 0 < L) : Head t p L 0 0 :=
  ⟨hL, Nat.le_refl _, fun _ hj => absurd hj (Nat.not_lt_zero _), fun _ _ hk _ => hk, fun s hs => absurd hs (by omega)⟩

theorem kc_start {t p : Nat → Int} {L i m : Nat} (h : Head t p L i m) : Kc t p L i m :=
  ⟨h.lt, h.le, h.eq, fun k hk hi he _ => h.top k hk hi he, h.no⟩

theorem kc_step {t p : Nat → Int} {L i m : Nat} (h : Kc t p L i m) (hm : 0 < m) (hne : t i ≠ p m) : Kc t p L i (lb p m) := by
  have g := lb_is p m hm
  have hlt := h.lt
  have hle := h.le
  have glt := g.lt
  refine ⟨by omega, by omega, fun j hj => ?_, fun k hk hi he hz => ?_, h.no⟩
  · have e1 := g.eq j hj
    have e2 := h.eq (m - lb p m + j) (by omega)
    rw [e1, e2]
    congr 1
    omega
  · have h1 := h.top k hk hi he hz
    have h2 : k ≠ m := fun e => hne (by rw [← e, hz])
    refine g.top k (by omega) fun j hj => ?_
    have e1 := he j hj
    have e2 := h.eq (m - k + j) (by omega)
    rw [e1, e2]
    congr 1
    omega

/-- The next place goes on, and p is not yet whole. -/
theorem head_hit {t p : Nat → Int} {L i m : Nat} (h : Kc t p L i m) (he : t i = p m) (hL : m + 1 < L) : Head t p L (i + 1) (m + 1) := by
  have hle := h.le
  have top' : ∀ k, k + 1 ≤ L → k ≤ i → (∀ j, j < k + 1 → p j = t (i + 1 - (k + 1) + j)) → k ≤ m := by
    intro k hk hki hb
    refine h.top k (by omega) hki (fun j hj => ?_) ?_
    · have := hb j (by omega)
      rw [this]
      congr 1
      omega
    · have := hb k (by omega)
      rw [this]
      congr 1
      omega
  refine ⟨hL, by omega, fun j hj => ?_, fun k hk hki hb => ?_, fun s hs hh => ?_⟩
  · rcases Nat.lt_or_ge j m with g | g
    · have := h.eq j g
      rw [this]
      congr 1
      omega
    · have e : j = m := by omega
      subst e
      rw [← he]
      congr 1
      omega
  · rcases Nat.eq_zero_or_pos k with rfl | hk0
    · omega
    · obtain ⟨q, rfl⟩ : ∃ q, k = q + 1 := ⟨k - 1, by omega⟩
      have := top' q (by omega) (by omega) hb
      omega
  · rcases Nat.lt_or_ge i (s + L) with g | g
    · obtain ⟨q, rfl⟩ : ∃ q, L = q + 1 := ⟨L - 1, by omega⟩
      have := top' q (Nat.le_refl _) (by omega) (fun j hj => by rw [← hh j hj]; congr 1; omega)
      omega
    · exact h.no s g hh

/-- The next place goes on, and p is whole: it stands at i + 1 - L, and nowhere ahead. -/
theorem first_hit {t p : Nat → Int} {L i m N : Nat} (h : Kc t p L i m) (he : t i = p m) (hL : m + 1 = L) (hN : i < N) : IsFirst t N p L ((i : Int) - (L : Int) + 1) := by
  have hle := h.le
  subst hL
  refine .inr ⟨i - m, by omega, by omega, fun j hj => ?_, fun u hu => h.no u (by omega)⟩
  rcases Nat.lt_or_ge j m with g | g
  · exact (h.eq j g).symm
  · have e : j = m := by omega
    subst e
    rw [← he]
    congr 1
    omega

theorem head_miss {t p : Nat → Int} {L i : Nat} (h : Kc t p L i 0) (hne : t i ≠ p 0) : Head t p L (i + 1) 0 := by
  have hlt := h.lt
  have top' : ∀ k, k + 1 ≤ L → k ≤ i → ¬ (∀ j, j < k + 1 → p j = t (i + 1 - (k + 1) + j)) := by
    intro k hk hki hb
    have hz : p k = t i := by
      have := hb k (by omega)
      rw [this]
      congr 1
      omega
    have hq : k ≤ 0 := by
      refine h.top k (by omega) hki (fun j hj => ?_) hz
      have := hb j (by omega)
      rw [this]
      congr 1
      omega
    have e : k = 0 := by omega
    subst e
    exact hne hz.symm
  refine ⟨hlt, Nat.zero_le _, fun j hj => absurd hj (Nat.not_lt_zero _), fun k hk hki hb => ?_, fun s hs hh => ?_⟩
  · rcases Nat.eq_zero_or_pos k with rfl | hk0
    · omega
    · obtain ⟨q, rfl⟩ : ∃ q, k = q + 1 := ⟨k - 1, by omega⟩
      exact absurd hb (top' q (by omega) (by omega))
  · rcases Nat.lt_or_ge i (s + L) with g | g
    · obtain ⟨q, rfl⟩ : ∃ q, L = q + 1 := ⟨L - 1, by omega⟩
      exact top' q (Nat.le_refl _) (by omega) (fun j hj => by rw [← hh j hj]; congr 1; omega)
    · exact h.no s g hh

theorem first_none {t p : Nat → Int} {L N m : Nat} (h : Head t p L N m) : IsFirst t N p L (-1) := .inl ⟨rfl, h.no⟩

end Go.Proofs.Qxb6603612a.Plain
