/-
  PLAIN MATHEMATICS of parting a row about a pivot. No Go.
-/
import Derived.Test.Qxb6601576aPerm
set_option linter.unusedVariables false
namespace Go.Proofs.Qxb6601576a

/-- the pivot v at a; what is behind it up to i at most v, what is behind j at least v -/
structure ParIn (E : Row) (a b i j : Nat) (v : Int) : Prop where
  ai : a < i
  ij : i ≤ j + 1
  jb : j < b
  piv : E a = v
  lo : ∀ t, a < t → t < i → E t ≤ v
  hi : ∀ t, j < t → t < b → v ≤ E t

theorem par_start {E : Row} {a b p : Nat} (hp : a ≤ p) (hb : p < b) : ParIn (swp E a p) a b (a + 1) (b - 1) (E p) :=
  ⟨by omega, by omega, by omega, by simp [swp], fun t h1 h2 => by omega, fun t h1 h2 => by omega⟩

theorem par_up {E : Row} {a b i j : Nat} {v : Int} (h : ParIn E a b i j v) (hij : i ≤ j) (hx : E i ≤ v) : ParIn E a b (i + 1) j v := by
  refine ⟨by have := h.ai; omega, by omega, h.jb, h.piv, fun t h1 h2 => ?_, h.hi⟩
  by_cases e : t = i
  · subst e; exact hx
  · exact h.lo t h1 (by omega)

theorem par_down {E : Row} {a b i j : Nat} {v : Int} (h : ParIn E a b i j v) (hij : i ≤ j) (hx : v ≤ E j) : ParIn E a b i (j - 1) v := by
  have := h.ai
  have := h.jb
  refine ⟨by omega, by omega, by omega, h.piv, h.lo, fun t h1 h2 => ?_⟩
  by_cases e : t = j
  · subst e; exact hx
  · exact h.hi t (by omega) h2

theorem par_swap {E : Row} {a b i j : Nat} {v : Int} (h : ParIn E a b i j v) (hij : i < j) (hx : v ≤ E i) (hy : E j ≤ v) : ParIn (swp E i j) a b (i + 1) (j - 1) v := by
  have h1 := h.ai
  have h2 := h.jb
  refine ⟨by omega, by omega, by omega, ?_, fun t ht1 ht2 => ?_, fun t ht1 ht2 => ?_⟩
  · simp only [swp]; rw [if_neg (by omega), if_neg (by omega)]; exact h.piv
  · simp only [swp]
    by_cases e : t = i
    · rw [if_pos e]; exact hy
    · rw [if_neg e, if_neg (by omega)]; exact h.lo t ht1 (by omega)
  · simp only [swp]
    by_cases e : t = j
    · rw [if_neg (by omega), if_pos e]; exact hx
    · rw [if_neg (by omega), if_neg e]; exact h.hi t (by omega) ht2

/-- the answer of partitionEqual -/
structure EqParted (E : Row) (a m b : Nat) (v : Int) : Prop where
  am : a < m
  mb : m ≤ b
  lo : ∀ t, a ≤ t → t < m → E t ≤ v
  hi : ∀ t, m ≤ t → t < b → v ≤ E t

theorem par_endEq {E : Row} {a b i j : Nat} {v : Int} (h : ParIn E a b i j v) (hij : j < i) : EqParted E a i b v := by
  have h1 := h.ai
  have h2 := h.jb
  have h3 := h.ij
  refine ⟨h1, by omega, fun t ht1 ht2 => ?_, fun t ht1 ht2 => h.hi t (by omega) ht2⟩
  by_cases e : t = a
  · subst e; exact Int.le_of_eq h.piv
  · exact h.lo t (by omega) ht2

/-- the answer of partition -/
structure Parted (E : Row) (a m b : Nat) (v : Int) : Prop where
  am : a ≤ m
  mb : m < b
  piv : E m = v
  lo : ∀ t, a ≤ t → t < m → E t ≤ v
  hi : ∀ t, m ≤ t → t < b → v ≤ E t

theorem par_end {E : Row} {a b i j : Nat} {v : Int} (h : ParIn E a b i j v) (hij : j < i) : Parted (swp E j a) a j b v := by
  have h1 := h.ai
  have h2 := h.jb
  have h3 := h.ij
  refine ⟨by omega, by omega, ?_, fun t ht1 ht2 => ?_, fun t ht1 ht2 => ?_⟩
  · simp only [swp]; simpa using h.piv
  · simp only [swp]
    rw [if_neg (by omega)]
    by_cases e : t = a
    · rw [if_pos e]; exact h.lo j (by omega) hij
    · rw [if_neg e]; exact h.lo t (by omega) (by omega)
  · simp only [swp]
    by_cases e : t = j
    · rw [if_pos e]; exact Int.le_of_eq h.piv.symm
    · rw [if_neg e, if_neg (by omega)]; exact h.hi t (by omega) ht2

end Go.Proofs.Qxb6601576a
