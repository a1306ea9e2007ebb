/-
  PLAIN MATHEMATICS of a heap in a row. No Go.
-/
import Derived.Test.Qxb6601576aPerm
set_option linter.unusedVariables false
namespace Go.Proofs.Qxb6601576a

/-- each child from 'lo's children on is at most its parent -/
def HeapR (E : Row) (f lo hi : Nat) : Prop := ∀ c, 0 < c → c < hi → lo ≤ (c - 1) / 2 → E (f + c) ≤ E (f + (c - 1) / 2)

structure SiftIn (E : Row) (f lo hi r : Nat) : Prop where
  le : lo ≤ r
  other : ∀ c, 0 < c → c < hi → lo ≤ (c - 1) / 2 → (c - 1) / 2 ≠ r → E (f + c) ≤ E (f + (c - 1) / 2)
  grand : ∀ c, 0 < c → c < hi → (c - 1) / 2 = r → 0 < r → lo ≤ (r - 1) / 2 → E (f + c) ≤ E (f + (r - 1) / 2)

theorem sift_start {E : Row} {f lo hi : Nat} (h : HeapR E f (lo + 1) hi) : SiftIn E f lo hi lo :=
  ⟨Nat.le_refl _, fun c h1 h2 h3 h4 => h c h1 h2 (by omega), fun c h1 h2 h3 h4 h5 => by omega⟩

theorem sift_step {E : Row} {f lo hi r ch : Nat} (h : SiftIn E f lo hi r) (hc0 : 0 < ch) (hch : ch < hi) (hp : (ch - 1) / 2 = r)
    (hsib : ∀ c, 0 < c → c < hi → (c - 1) / 2 = r → E (f + c) ≤ E (f + ch)) (hlt : E (f + r) < E (f + ch)) : SiftIn (swp E (f + r) (f + ch)) f lo hi ch := by
  have hle := h.le
  refine ⟨by omega, fun c h1 h2 h3 h4 => ?_, fun c h1 h2 h3 h4 h5 => ?_⟩
  · simp only [swp]
    by_cases e1 : (c - 1) / 2 = r
    · rw [if_pos (show f + (c - 1) / 2 = f + r by omega), if_neg (show ¬ f + c = f + r by omega)]
      split
      · omega
      · exact hsib c h1 h2 e1
    · rw [if_neg (show ¬ f + (c - 1) / 2 = f + r by omega), if_neg (show ¬ f + (c - 1) / 2 = f + ch by omega)]
      by_cases e2 : c = r
      · subst e2
        rw [if_pos rfl]
        exact h.grand ch hc0 hch hp h1 h3
      · rw [if_neg (by omega)]
        by_cases e3 : c = ch
        · subst e3; omega
        · rw [if_neg (by omega)]
          exact h.other c h1 h2 h3 e1
  · simp only [swp]
    rw [if_neg (by omega), if_neg (by omega), if_pos (by omega)]
    have := h.other c h1 h2 (by omega) (by omega)
    rw [h3] at this
    exact this

theorem sift_end {E : Row} {f lo hi r : Nat} (h : SiftIn E f lo hi r) (hst : ∀ c, 0 < c → c < hi → (c - 1) / 2 = r → E (f + c) ≤ E (f + r)) : HeapR E f lo hi := by
  intro c h1 h2 h3
  by_cases e : (c - 1) / 2 = r
  · rw [e]; exact hst c h1 h2 e
  · exact h.other c h1 h2 h3 e

theorem heap_max {E : Row} {f hi : Nat} (h : HeapR E f 0 hi) : ∀ c, c < hi → E (f + c) ≤ E f := by
  intro c
  induction c using Nat.strongRecOn with
  | ind c ih =>
    intro hc
    rcases Nat.eq_zero_or_pos c with e | e
    · subst e; exact Int.le_refl _
    · exact Int.le_trans (h c e hc (Nat.zero_le _)) (ih _ (by omega) (by omega))

/-- the heap of k, the sorted rest behind it -/
structure PopIn (E : Row) (a k b : Nat) : Prop where
  heap : HeapR E a 0 k
  sorted : SortedR E (a + k) b
  parted : ∀ p q, a ≤ p → p < a + k → a + k ≤ q → q < b → E p ≤ E q

theorem pop_start {E : Row} {a b : Nat} (h : HeapR E a 0 (b - a)) (hab : a ≤ b) : PopIn E a (b - a) b :=
  ⟨h, fun p q h1 h2 h3 => by omega, fun p q h1 h2 h3 h4 => by omega⟩

theorem pop_end {E : Row} {a b : Nat} (h : PopIn E a 0 b) : SortedR E a b := h.sorted

/-- the greatest is swapped behind; the heap is but for its root -/
theorem pop_swap {E : Row} {a k b : Nat} (h : PopIn E a (k + 1) b) (hk : a + k < b) :
    HeapR (swp E a (a + k)) a 1 k ∧ SortedR (swp E a (a + k)) (a + k) b ∧ ∀ p q, a ≤ p → p < a + k → a + k ≤ q → q < b → swp E a (a + k) p ≤ swp E a (a + k) q := by
  have hmax := heap_max h.heap
  refine ⟨fun c h1 h2 h3 => ?_, fun p q h1 h2 h3 => ?_, fun p q h1 h2 h3 h4 => ?_⟩
  · simp only [swp]
    rw [if_neg (by omega), if_neg (by omega), if_neg (by omega), if_neg (by omega)]
    exact h.heap c h1 (by omega) (Nat.zero_le _)
  · simp only [swp]
    by_cases e : p = a + k
    · subst e
      rw [if_neg (show ¬ q = a by omega), if_neg (show ¬ q = a + k by omega)]
      by_cases ek : k = 0
      · subst ek
        rw [if_pos (by omega)]
        exact h.parted (a + 0) q (by omega) (by omega) (by omega) h3
      · rw [if_neg (by omega), if_pos rfl]
        exact h.parted a q (by omega) (by omega) (by omega) h3
    · rw [if_neg (show ¬ q = a by omega), if_neg (show ¬ q = a + k by omega), if_neg (show ¬ p = a by omega), if_neg e]
      exact h.sorted p q (by omega) h2 h3
  · have hp : swp E a (a + k) p ≤ E a ∧ ∀ q, a + (k + 1) ≤ q → q < b → swp E a (a + k) p ≤ E q := by
      simp only [swp]
      by_cases e : p = a
      · rw [if_pos e]
        exact ⟨hmax k (by omega), fun q hq1 hq2 => h.parted (a + k) q (by omega) (by omega) hq1 hq2⟩
      · rw [if_neg e, if_neg (by omega)]
        refine ⟨?_, fun q hq1 hq2 => h.parted p q h1 (by omega) hq1 hq2⟩
        have := hmax (p - a) (by omega)
        rw [show a + (p - a) = p by omega] at this
        exact this
    by_cases e : q = a + k
    · subst e
      have : swp E a (a + k) (a + k) = E a := by
        simp only [swp]
        split
        · rename_i hh; rw [hh]
        · simp
      rw [this]; exact hp.1
    · have : swp E a (a + k) q = E q := by
        simp only [swp]
        rw [if_neg (by omega), if_neg e]
      rw [this]; exact hp.2 q (by omega) h4

theorem pop_next {E E' : Row} {a k b : Nat} (hp : PermR E E' a (a + k)) (hh : HeapR E' a 0 k) (hs : SortedR E (a + k) b)
    (hx : ∀ p q, a ≤ p → p < a + k → a + k ≤ q → q < b → E p ≤ E q) : PopIn E' a k b := by
  refine ⟨hh, fun p q h1 h2 h3 => ?_, fun p q h1 h2 h3 h4 => ?_⟩
  · rw [hp.out (by omega), hp.out (by omega)]; exact hs p q h1 h2 h3
  · rw [hp.out (t := q) (by omega)]
    exact hp.all (P := fun x => x ≤ E q) (fun t ht1 ht2 => hx t q ht1 ht2 h3 h4) p h1 h2

end Go.Proofs.Qxb6601576a
