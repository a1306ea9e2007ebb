/-
  PLAIN MATHEMATICS: the depths of the Huffman tree. No Go.
-/
import Derived.Test.Qxb6601576aTree
set_option linter.unusedVariables false
namespace Go.Proofs.Qxb6601576a

/-- d is the depth of each node of the tree that selection builds -/
structure TreeT (n : Nat) (wt : Row) (T : Nat → Nat) (W : Row) (d : Nat → Nat) : Prop where
  sel : Sel n wt T W (2 * n - 1) (2 * n - 2)
  root : d (2 * n - 2) = 0
  deep : ∀ t, t < 2 * n - 2 → d (T t) = d (n + t / 2) + 1

namespace TreeT
variable {n : Nat} {wt W : Row} {T : Nat → Nat} {d : Nat → Nat}

theorem surj (h : TreeT n wt T W d) : ∀ x, x < 2 * n - 2 → ∃ t, t < 2 * n - 2 ∧ T t = x :=
  surj_of_inj (fun t ht => by have := (h.sel.take t ht).lt; omega) (fun s t hs ht e => h.sel.inj hs ht e)

/-- whoever comes first in (weight, number), both being there, is taken first -/
theorem first (h : TreeT n wt T W d) {x y s t : Nat} (hs : s < 2 * n - 2) (ht : t < 2 * n - 2) (ex : T s = x) (ey : T t = y) (hx : x < n + t / 2) (hl : W x < W y ∨ (W x = W y ∧ x < y)) : s < t := by
  rcases Nat.lt_trichotomy s t with h1 | h1 | h1
  · exact h1
  · subst h1; rw [ex] at ey; subst ey; omega
  · exfalso
    have := (h.sel.take t ht).least x hx (fun u hu e => by
      have := h.sel.inj (s := u) (t := s) (by omega) hs (e.trans ex.symm)
      omega)
    rw [ey] at this
    unfold LexLe at this
    omega

theorem chain (N s : Nat) (hN : ∀ u, s ≤ u → u + 1 < N → d (T (u + 1)) ≤ d (T u)) : ∀ t, s ≤ t → t < N → d (T t) ≤ d (T s) := by
  intro t
  induction t with
  | zero => intro h1 h2; rw [show s = 0 by omega]; exact Nat.le_refl _
  | succ t ih =>
    intro h1 h2
    by_cases e : s = t + 1
    · subst e; exact Nat.le_refl _
    · exact Nat.le_trans (hN t (by omega) h2) (ih (by omega) (by omega))

/-- depths never grow along the takes -/
theorem falls (h : TreeT n wt T W d) : ∀ r t, 2 * n - 2 - t ≤ r → t + 1 < 2 * n - 2 → d (T (t + 1)) ≤ d (T t) := by
  intro r
  induction r with
  | zero => intro t h1 h2; omega
  | succ r ih =>
    intro t hr ht
    rw [h.deep t (by omega), h.deep (t + 1) ht]
    by_cases e : (t + 1) / 2 = t / 2
    · rw [e]; exact Nat.le_refl _
    · obtain ⟨k, hk⟩ : ∃ k, t = 2 * k + 1 := ⟨t / 2, by omega⟩
      subst hk
      rw [show (2 * k + 1 + 1) / 2 = k + 1 by omega, show (2 * k + 1) / 2 = k by omega]
      by_cases e2 : n + (k + 1) = 2 * n - 2
      · rw [e2, h.root]; omega
      · obtain ⟨s, hs, es⟩ := h.surj (n + k) (by omega)
        obtain ⟨s', hs', es'⟩ := h.surj (n + (k + 1)) (by omega)
        have l1 := (h.sel.take s hs).lt
        have l2 := (h.sel.take s' hs').lt
        have hj := h.sel.joined (x := n + k) (y := n + (k + 1)) (by omega) (by omega) (by omega)
        have hlt := h.first hs hs' es es' (by omega) (by omega)
        have := chain (T := T) (d := d) (2 * n - 2) s (fun u hu hu2 => ih u (by omega) hu2) s' (by omega) hs'
        rw [es, es'] at this
        omega

theorem falls' (h : TreeT n wt T W d) {s t : Nat} (hst : s ≤ t) (ht : t < 2 * n - 2) : d (T t) ≤ d (T s) :=
  chain (T := T) (d := d) (2 * n - 2) s (fun u _ hu2 => h.falls _ u (Nat.le_refl _) hu2) t hst ht

/-- LAW (a): a heavier symbol, or one as heavy of a higher number, lies no deeper -/
theorem heavier (h : TreeT n wt T W d) {i j : Nat} (hi : i < n) (hj : j < n) (hl : wt i < wt j ∨ (wt i = wt j ∧ i < j)) : d j ≤ d i := by
  have hij : i ≠ j := fun e => by subst e; omega
  obtain ⟨s, hs, es⟩ := h.surj i (by omega)
  obtain ⟨t, ht, et⟩ := h.surj j (by omega)
  have hlt := h.first hs ht es et (by omega) (by rw [h.sel.leaf i hi, h.sel.leaf j hj]; exact hl)
  have := h.falls' (Nat.le_of_lt hlt) ht
  rw [es, et] at this
  exact this

theorem inner (h : TreeT n wt T W d) : ∀ r k, n - 2 - k ≤ r → k ≤ n - 2 → 2 ≤ n → d (n + k) ≤ n - 2 - k := by
  intro r
  induction r with
  | zero =>
    intro k h1 h2 h3
    rw [show n + k = 2 * n - 2 by omega, h.root]; omega
  | succ r ih =>
    intro k h1 h2 h3
    by_cases e : n + k = 2 * n - 2
    · rw [e, h.root]; omega
    · obtain ⟨s, hs, es⟩ := h.surj (n + k) (by omega)
      have l1 := (h.sel.take s hs).lt
      have := h.deep s hs
      rw [es] at this
      have := ih (s / 2) (by omega) (by omega) h3
      omega

/-- LAW (b), first part: every code has at least one bit and at most n - 1 -/
theorem bounds (h : TreeT n wt T W d) (hn : 2 ≤ n) {s : Nat} (hs : s < n) : 1 ≤ d s ∧ d s ≤ n - 1 := by
  obtain ⟨t, ht, et⟩ := h.surj s (by omega)
  have h1 := h.deep t ht
  rw [et] at h1
  have h2 := h.inner _ (t / 2) (Nat.le_refl _) (by omega) hn
  omega

theorem allle (h : TreeT n wt T W d) (B : Nat) (hB : ∀ s, s < n → d s ≤ B) : ∀ x, x < 2 * n - 1 → d x ≤ B := by
  intro x
  induction x using Nat.strongRecOn with
  | ind x ih =>
    intro hx
    by_cases e : x < n
    · exact hB x e
    · obtain ⟨k, rfl⟩ : ∃ k, x = n + k := ⟨x - n, by omega⟩
      have h1 := (h.sel.take (2 * k) (by omega)).lt
      have h2 := h.deep (2 * k) (by omega)
      rw [show n + 2 * k / 2 = n + k by omega] at h2
      have := ih (T (2 * k)) (by omega) (by omega)
      omega

/-- LAW (b), second part: the code is full -/
theorem full (h : TreeT n wt T W d) (hn : 1 ≤ n) (B : Nat) (hB : ∀ s, s < n → d s ≤ B) : sumTo (fun s => ((2 ^ (B - d s) : Nat) : Int)) n = ((2 ^ B : Nat) : Int) := by
  have hall := h.allle B hB
  let f : Nat → Int := fun x => ((2 ^ (B - d x) : Nat) : Int)
  have hb := sum_bij (N := 2 * n - 2) (T := T) (g := f) (fun x => Int.natCast_nonneg _) (fun t ht => by have := (h.sel.take t ht).lt; omega) (fun s t hs ht e => h.sel.inj hs ht e)
  have e1 : sumTo (fun t => f (T t)) (2 * n - 2) = sumTo (fun k => f (n + k)) (n - 1) := by
    rw [show 2 * n - 2 = 2 * (n - 1) by omega, sumTo_pairs]
    refine sumTo_congr (fun k hk => ?_)
    have d1 := h.deep (2 * k) (by omega)
    have d2 := h.deep (2 * k + 1) (by omega)
    rw [show n + 2 * k / 2 = n + k by omega] at d1
    rw [show n + (2 * k + 1) / 2 = n + k by omega] at d2
    have l1 := (h.sel.take (2 * k) (by omega)).lt
    have b1 := hall (T (2 * k)) (by omega)
    show ((2 ^ (B - d (T (2 * k))) : Nat) : Int) + ((2 ^ (B - d (T (2 * k + 1))) : Nat) : Int) = ((2 ^ (B - d (n + k)) : Nat) : Int)
    rw [d1, d2]
    have : B - d (n + k) = (B - (d (n + k) + 1)) + 1 := by omega
    rw [this, Nat.pow_succ]
    omega
  have e2 : sumTo f (2 * n - 2) = sumTo f n + sumTo (fun k => f (n + k)) (n - 2) ∨ n = 1 := by
    by_cases e : n = 1
    · exact .inr e
    · left
      rw [show 2 * n - 2 = n + (n - 2) by omega, sumTo_split]
  by_cases e : n = 1
  · subst e
    have : d 0 = 0 := h.root
    simp [sumTo, this]
  · have e2 : sumTo f (2 * n - 2) = sumTo f n + sumTo (fun k => f (n + k)) (n - 2) := by
      rcases e2 with h | h
      · exact h
      · exact absurd h e
    rw [e1, e2] at hb
    have e3 : sumTo (fun k => f (n + k)) (n - 1) = sumTo (fun k => f (n + k)) (n - 2) + f (n + (n - 2)) := by
      rw [show n - 1 = (n - 2) + 1 by omega]; rfl
    have e4 : f (n + (n - 2)) = ((2 ^ B : Nat) : Int) := by
      show ((2 ^ (B - d (n + (n - 2))) : Nat) : Int) = _
      rw [show n + (n - 2) = 2 * n - 2 by omega, h.root, Nat.sub_zero]
    show sumTo f n = _
    rw [e3, e4] at hb
    omega

/-- LAW (c): the depths are fixed by the weights -/
theorem unique {W' : Row} {T' : Nat → Nat} {d' : Nat → Nat} (h : TreeT n wt T W d) (h' : TreeT n wt T' W' d') (hn : 1 ≤ n) : ∀ x, x < 2 * n - 1 → d x = d' x := by
  obtain ⟨hT, _⟩ := sel_unique h.sel h'.sel (by omega)
  have key : ∀ r x, 2 * n - 2 - x ≤ r → x < 2 * n - 1 → d x = d' x := by
    intro r
    induction r with
    | zero =>
      intro x h1 h2
      rw [show x = 2 * n - 2 by omega, h.root, h'.root]
    | succ r ih =>
      intro x h1 h2
      by_cases e : x = 2 * n - 2
      · rw [e, h.root, h'.root]
      · obtain ⟨t, ht, et⟩ := h.surj x (by omega)
        have l1 := (h.sel.take t ht).lt
        have a1 := h.deep t ht
        have a2 := h'.deep t ht
        rw [← hT t ht] at a2
        rw [et] at a1 a2 l1
        rw [a1, a2, ih (n + t / 2) (by omega) (by omega)]
  exact fun x hx => key _ x (Nat.le_refl _) hx
end TreeT

/-- some tree of selection has these depths (no symbols: nothing is said) -/
def Tree (n : Nat) (wt : Row) (d : Nat → Nat) : Prop := 1 ≤ n → ∃ T W, TreeT n wt T W d

end Go.Proofs.Qxb6601576a
