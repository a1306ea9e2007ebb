/-
  PLAIN MATHEMATICS of the Huffman tree: sums, depths, the three laws. No Go.
-/
import Derived.Test.Qxb6601576aSel
set_option linter.unusedVariables false
namespace Go.Proofs.Qxb6601576a

/-! ### Sums -/
def sumTo (g : Nat → Int) : Nat → Int
  | 0 => 0
  | k + 1 => sumTo g k + g k

theorem sumTo_congr {g h : Nat → Int} {k : Nat} (e : ∀ t, t < k → g t = h t) : sumTo g k = sumTo h k := by
  induction k with
  | zero => rfl
  | succ k ih => simp only [sumTo]; rw [ih (fun t ht => e t (by omega)), e k (by omega)]

theorem sumTo_nonneg {g : Nat → Int} {k : Nat} (e : ∀ t, t < k → 0 ≤ g t) : 0 ≤ sumTo g k := by
  induction k with
  | zero => exact Int.le_refl _
  | succ k ih =>
    simp only [sumTo]
    have := ih (fun t ht => e t (by omega))
    have := e k (by omega)
    omega

theorem sumTo_one (k : Nat) : sumTo (fun _ => 1) k = k := by
  induction k with
  | zero => rfl
  | succ k ih => simp only [sumTo]; rw [ih]; omega

theorem sumTo_upd (g : Nat → Int) (t0 : Nat) (v : Int) (k : Nat) : sumTo (fun t => if t = t0 then v else g t) k = sumTo g k + (if t0 < k then v - g t0 else 0) := by
  induction k with
  | zero => simp [sumTo]
  | succ k ih =>
    simp only [sumTo]
    rw [ih]
    by_cases e : k = t0
    · subst e
      rw [if_pos rfl, if_neg (by omega), if_pos (by omega)]; omega
    · rw [if_neg e]
      by_cases e2 : t0 < k
      · rw [if_pos e2, if_pos (by omega)]; omega
      · rw [if_neg e2, if_neg (by omega)]; omega

theorem sumTo_split (g : Nat → Int) (a k : Nat) : sumTo g (a + k) = sumTo g a + sumTo (fun t => g (a + t)) k := by
  induction k with
  | zero => simp [sumTo]
  | succ k ih => rw [← Nat.add_assoc]; simp only [sumTo]; rw [ih]; omega

theorem sumTo_pairs (g : Nat → Int) (k : Nat) : sumTo g (2 * k) = sumTo (fun t => g (2 * t) + g (2 * t + 1)) k := by
  induction k with
  | zero => rfl
  | succ k ih =>
    rw [show 2 * (k + 1) = 2 * k + 1 + 1 by omega]
    simp only [sumTo]
    rw [ih]; omega

/-- distinct places within the first m: their sum is at most the whole -/
theorem sum_inj (m : Nat) : ∀ (c : Nat) (T : Nat → Nat) (g : Nat → Int), (∀ x, 0 ≤ g x) → (∀ t, t < c → T t < m) → (∀ s t, s < c → t < c → T s = T t → s = t) → sumTo (fun t => g (T t)) c ≤ sumTo g m := by
  induction m with
  | zero =>
    intro c T g hg hT hi
    cases c with
    | zero => exact Int.le_refl _
    | succ c => exact absurd (hT 0 (by omega)) (by omega)
  | succ m ih =>
    intro c T g hg hT hi
    by_cases ex : ∃ t0, t0 < c ∧ T t0 = m
    · obtain ⟨t0, ht0, e0⟩ := ex
      obtain ⟨c, rfl⟩ : ∃ k, c = k + 1 := ⟨c - 1, by omega⟩
      have key := ih c (fun t => if t = t0 then T c else T t) g hg (fun t ht => ?_) (fun s t hs ht e => ?_)
      · have e1 : sumTo (fun t => g (if t = t0 then T c else T t)) c = sumTo (fun t => if t = t0 then g (T c) else g (T t)) c :=
          sumTo_congr (fun t _ => by split <;> rfl)
        rw [e1, sumTo_upd (fun t => g (T t)) t0 (g (T c)) c] at key
        simp only [sumTo]
        by_cases e2 : t0 < c
        · rw [if_pos e2, e0] at key; omega
        · have : t0 = c := by omega
          subst this
          rw [if_neg (by omega)] at key
          rw [e0]; omega
      · show (if t = t0 then T c else T t) < m
        by_cases e : t = t0
        · rw [if_pos e]
          have h1 := hT c (by omega)
          have h2 : T c ≠ m := fun h => by
            have := hi c t0 (by omega) ht0 (h.trans e0.symm)
            omega
          omega
        · rw [if_neg e]
          have h1 := hT t (by omega)
          have h2 : T t ≠ m := fun h => e (hi t t0 (by omega) ht0 (h.trans e0.symm))
          omega
      · have e' : (if s = t0 then T c else T s) = (if t = t0 then T c else T t) := e
        by_cases es : s = t0
        · by_cases et : t = t0
          · omega
          · rw [if_pos es, if_neg et] at e'
            have := hi c t (by omega) (by omega) e'
            omega
        · by_cases et : t = t0
          · rw [if_neg es, if_pos et] at e'
            have := hi s c (by omega) (by omega) e'
            omega
          · rw [if_neg es, if_neg et] at e'
            exact hi s t (by omega) (by omega) e'
    · have key := ih c T g hg (fun t ht => by
        have h1 := hT t ht
        have h2 : T t ≠ m := fun h => ex ⟨t, ht, h⟩
        omega) hi
      simp only [sumTo]
      have := hg m
      omega

/-- distinct places, as many as there are: each is met -/
theorem surj_of_inj {N : Nat} {T : Nat → Nat} (hT : ∀ t, t < N → T t < N) (hi : ∀ s t, s < N → t < N → T s = T t → s = t) : ∀ x, x < N → ∃ t, t < N ∧ T t = x := by
  intro x hx
  apply Classical.byContradiction
  intro hne
  have key := sum_inj N N T (fun y => if y = x then 0 else 1) (fun y => by split <;> omega) hT hi
  have e1 : sumTo (fun t => (if T t = x then (0 : Int) else 1)) N = sumTo (fun _ => 1) N :=
    sumTo_congr (fun t ht => if_neg (fun h => hne ⟨t, ht, h⟩))
  rw [e1, sumTo_one, sumTo_upd (fun _ => 1) x 0 N, sumTo_one, if_pos hx] at key
  omega

theorem sum_bij {N : Nat} {T : Nat → Nat} {g : Nat → Int} (hg : ∀ x, 0 ≤ g x) (hT : ∀ t, t < N → T t < N) (hi : ∀ s t, s < N → t < N → T s = T t → s = t) : sumTo (fun t => g (T t)) N = sumTo g N := by
  apply Int.le_antisymm
  · exact sum_inj N N T g hg hT hi
  · have hs := surj_of_inj hT hi
    have hU : ∀ x, ∃ t, x < N → t < N ∧ T t = x := fun x => by
      by_cases e : x < N
      · obtain ⟨t, h⟩ := hs x e; exact ⟨t, fun _ => h⟩
      · exact ⟨0, fun h => absurd h e⟩
    obtain ⟨U, hU⟩ := Classical.axiomOfChoice hU
    have key := sum_inj N N U (fun t => g (T t)) (fun t => hg _) (fun x hx => (hU x hx).1) (fun x y hx hy e => by
      rw [← (hU x hx).2, ← (hU y hy).2, e])
    rw [sumTo_congr (h := g) (fun x hx => by rw [(hU x hx).2])] at key
    exact key

/-! ### The weights stay within the total -/
theorem Sel.total {n m : Nat} {wt W : Row} {T : Nat → Nat} (h : Sel n wt T W m (2 * (m - n) + 2)) : W (T (2 * (m - n))) + W (T (2 * (m - n) + 1)) ≤ sumTo wt n := by
  have hnm := h.nm
  have hpos := h.wpos
  let g : Nat → Int := fun x => if x < m then W x else 0
  have key := sum_inj m (2 * (m - n) + 2) T g (fun x => by
      show 0 ≤ (if x < m then W x else 0)
      split
      · rename_i hx; have := hpos x hx; omega
      · omega)
    (fun t ht => by have := (h.take t ht).lt; omega) (fun s t hs ht e => h.inj hs ht e)
  have e1 : sumTo (fun t => g (T t)) (2 * (m - n) + 2) = sumTo (fun t => W (T t)) (2 * (m - n) + 2) := sumTo_congr (fun t ht => by
    show (if T t < m then W (T t) else 0) = W (T t)
    rw [if_pos]
    have := (h.take t ht).lt; omega)
  have e2 : sumTo g m = sumTo W m := sumTo_congr (fun x hx => if_pos hx)
  rw [e1, e2] at key
  have e3 : sumTo W m = sumTo wt n + sumTo (fun k => W (n + k)) (m - n) := by
    rw [show m = n + (m - n) by omega, sumTo_split, show n + (m - n) - n = m - n by omega]
    rw [sumTo_congr (fun s hs => h.leaf s hs)]
  have e4 : sumTo (fun k => W (n + k)) (m - n) = sumTo (fun t => W (T t)) (2 * (m - n)) := by
    rw [sumTo_pairs]
    exact sumTo_congr (fun k hk => h.join k (by omega))
  rw [e3, e4] at key
  simp only [sumTo] at key
  omega

theorem sumTo_le {g : Nat → Int} {k : Nat} {B : Int} (e : ∀ t, t < k → g t ≤ B) : sumTo g k ≤ k * B := by
  induction k with
  | zero => simp [sumTo]
  | succ k ih =>
    simp only [sumTo]
    have h1 := ih (fun t ht => e t (by omega))
    have h2 := e k (by omega)
    have : ((k + 1 : Nat) : Int) * B = k * B + B := by rw [Int.natCast_add, Int.add_mul]; simp
    omega

end Go.Proofs.Qxb6601576a
