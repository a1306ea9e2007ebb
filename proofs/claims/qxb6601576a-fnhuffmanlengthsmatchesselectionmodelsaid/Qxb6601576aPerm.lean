/-
  PLAIN MATHEMATICS of rows of numbers: swaps, permutations of a range, sortedness. No Go, no program.
-/
set_option linter.unusedVariables false
namespace Go.Proofs.Qxb6601576a

abbrev Row := Nat → Int

def swp (D : Row) (i j : Nat) : Row := fun t => if t = i then D j else if t = j then D i else D t

/-- D' is D with the places from a up to b permuted -/
def PermR (D D' : Row) (a b : Nat) : Prop :=
  ∃ π : Nat → Nat, (∀ s t, π s = π t → s = t) ∧ (∀ t, ¬ (a ≤ t ∧ t < b) → π t = t) ∧ (∀ t, a ≤ t → t < b → a ≤ π t ∧ π t < b) ∧ ∀ t, D' t = D (π t)

theorem PermR.refl (D : Row) (a b : Nat) : PermR D D a b := ⟨id, fun _ _ h => h, fun _ _ => rfl, fun t h1 h2 => ⟨h1, h2⟩, fun _ => rfl⟩

theorem PermR.trans {D D' D'' : Row} {a b : Nat} (h : PermR D D' a b) (k : PermR D' D'' a b) : PermR D D'' a b := by
  obtain ⟨π, i1, o1, r1, e1⟩ := h
  obtain ⟨ρ, i2, o2, r2, e2⟩ := k
  refine ⟨fun t => π (ρ t), fun s t hst => i2 _ _ (i1 _ _ hst), fun t ht => ?_, fun t h1 h2 => ?_, fun t => ?_⟩
  · show π (ρ t) = t; rw [o2 t ht, o1 t ht]
  · have := r2 t h1 h2; exact r1 _ this.1 this.2
  · rw [e2, e1]

theorem PermR.mono {D D' : Row} {a b a' b' : Nat} (h : PermR D D' a b) (ha : a' ≤ a) (hb : b ≤ b') : PermR D D' a' b' := by
  obtain ⟨π, i1, o1, r1, e1⟩ := h
  refine ⟨π, i1, fun t ht => o1 t (fun hh => ht ⟨by omega, by omega⟩), fun t h1 h2 => ?_, e1⟩
  by_cases hin : a ≤ t ∧ t < b
  · have := r1 t hin.1 hin.2; omega
  · rw [o1 t hin]; exact ⟨h1, h2⟩

theorem PermR.swap (D : Row) {a b i j : Nat} (hi : a ≤ i ∧ i < b) (hj : a ≤ j ∧ j < b) : PermR D (swp D i j) a b := by
  refine ⟨fun t => if t = i then j else if t = j then i else t, fun s t hst => ?_, fun t ht => ?_, fun t h1 h2 => ?_, fun t => ?_⟩
  · simp only [] at hst
    split at hst <;> split at hst <;> (try split at hst) <;> (try split at hst) <;> omega
  · show (if t = i then j else if t = j then i else t) = t
    rw [if_neg (by omega), if_neg (by omega)]
  · show a ≤ (if t = i then j else if t = j then i else t) ∧ (if t = i then j else if t = j then i else t) < b
    split
    · exact hj
    · split
      · exact hi
      · exact ⟨h1, h2⟩
  · show swp D i j t = D (if t = i then j else if t = j then i else t)
    simp only [swp]
    split
    · rfl
    · split <;> rfl

theorem PermR.out {D D' : Row} {a b t : Nat} (h : PermR D D' a b) (ht : ¬ (a ≤ t ∧ t < b)) : D' t = D t := by
  obtain ⟨π, _, o1, _, e1⟩ := h
  rw [e1, o1 t ht]

theorem PermR.all {D D' : Row} {a b : Nat} {P : Int → Prop} (h : PermR D D' a b) (hp : ∀ t, a ≤ t → t < b → P (D t)) : ∀ t, a ≤ t → t < b → P (D' t) := by
  obtain ⟨π, _, _, r1, e1⟩ := h
  intro t h1 h2
  rw [e1]
  exact hp _ (r1 t h1 h2).1 (r1 t h1 h2).2

def SortedR (D : Row) (a b : Nat) : Prop := ∀ p q, a ≤ p → p < q → q < b → D p ≤ D q

/-! ### insertion sort: the inner loop: the one at j moves down -/
structure InsIn (D E : Row) (a i j b : Nat) : Prop where
  perm : PermR D E a b
  haj : a ≤ j
  hji : j ≤ i
  sorted : ∀ p q, a ≤ p → p < q → q ≤ i → q ≠ j → E p ≤ E q

theorem ins_start {D E : Row} {a i b : Nat} (hp : PermR D E a b) (hs : SortedR E a i) (hai : a ≤ i) : InsIn D E a i i b :=
  ⟨hp, hai, Nat.le_refl _, fun p q h1 h2 h3 h4 => hs p q h1 h2 (by omega)⟩

theorem ins_step {D E : Row} {a i j b : Nat} (h : InsIn D E a i (j + 1) b) (hib : i < b) (ha : a ≤ j) (hlt : E (j + 1) < E j) : InsIn D (swp E (j + 1) j) a i j b := by
  have hji := h.hji
  refine ⟨h.perm.trans (PermR.swap E ⟨by omega, by omega⟩ ⟨by omega, by omega⟩), ha, by omega, fun p q h1 h2 h3 h4 => ?_⟩
  have hs := h.sorted
  simp only [swp]
  by_cases q1 : q = j + 1
  · -- the place above the moving one now holds E j
    rw [if_pos q1]
    by_cases p1 : p = j + 1
    · omega
    · rw [if_neg p1]
      by_cases p2 : p = j
      · rw [if_pos p2]; omega
      · rw [if_neg p2]; exact hs p j h1 (by omega) (by omega) (by omega)
  · rw [if_neg q1, if_neg h4]
    by_cases p1 : p = j + 1
    · rw [if_pos p1]; exact hs j q (by omega) (by omega) h3 q1
    · rw [if_neg p1]
      by_cases p2 : p = j
      · rw [if_pos p2]; exact hs (j + 1) q (by omega) (by omega) h3 q1
      · rw [if_neg p2]; exact hs p q h1 h2 h3 q1

theorem ins_end {D E : Row} {a i j b : Nat} (h : InsIn D E a i j b) (hst : j = a ∨ ∃ k, j = k + 1 ∧ a ≤ k ∧ ¬ E (k + 1) < E k) : SortedR E a (i + 1) := by
  intro p q h1 h2 h3
  by_cases e : q = j
  · rcases hst with hst | ⟨k, hk, hak, hlt⟩
    · omega
    · subst e
      subst hk
      by_cases e2 : p = k
      · subst e2; omega
      · have := h.sorted p k h1 (by omega) (by have := h.hji; omega) (by omega)
        omega
  · exact h.sorted p q h1 h2 (by omega) e

end Go.Proofs.Qxb6601576a
