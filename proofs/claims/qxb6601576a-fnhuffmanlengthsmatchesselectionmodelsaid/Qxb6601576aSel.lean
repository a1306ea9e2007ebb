/-
  PLAIN MATHEMATICS of Huffman's construction: which node is taken when. No Go.
  Leaves 0 .. n-1; node n + k joins the takes 2k and 2k + 1; each take is the least (weight, number) of the nodes that are there and not taken.
-/
import Derived.Test.Qxb6601576aPerm
set_option linter.unusedVariables false
namespace Go.Proofs.Qxb6601576a

/-- by weight, then by number -/
def LexLe (W : Row) (x y : Nat) : Prop := W x < W y ∨ (W x = W y ∧ x ≤ y)

/-- the t-th take is the least node left -/
structure Least (n : Nat) (T : Nat → Nat) (W : Row) (t : Nat) : Prop where
  lt : T t < n + t / 2
  new : ∀ s, s < t → T s ≠ T t
  least : ∀ x, x < n + t / 2 → (∀ s, s < t → T s ≠ x) → LexLe W (T t) x

structure Sel (n : Nat) (wt : Row) (T : Nat → Nat) (W : Row) (m c : Nat) : Prop where
  nm : n ≤ m
  cm : 2 * (m - n) ≤ c
  leaf : ∀ s, s < n → W s = wt s
  pos : ∀ s, s < n → 1 ≤ wt s
  join : ∀ k, n + k < m → W (n + k) = W (T (2 * k)) + W (T (2 * k + 1))
  take : ∀ t, t < c → Least n T W t

namespace Sel
variable {n m c : Nat} {wt W : Row} {T : Nat → Nat}

theorem wpos (h : Sel n wt T W m c) : ∀ x, x < m → 1 ≤ W x := by
  intro x
  induction x using Nat.strongRecOn with
  | ind x ih =>
    intro hx
    by_cases e : x < n
    · rw [h.leaf x e]; exact h.pos x e
    · obtain ⟨k, rfl⟩ : ∃ k, x = n + k := ⟨x - n, by omega⟩
      have h1 := (h.take (2 * k) (by have := h.cm; omega)).lt
      have h2 := (h.take (2 * k + 1) (by have := h.cm; omega)).lt
      rw [h.join k hx]
      have := ih (T (2 * k)) (by omega) (by omega)
      have := ih (T (2 * k + 1)) (by omega) (by omega)
      omega

theorem inj (h : Sel n wt T W m c) {s t : Nat} (hs : s < c) (ht : t < c) (e : T s = T t) : s = t := by
  rcases Nat.lt_trichotomy s t with h1 | h1 | h1
  · exact absurd e ((h.take t ht).new s h1)
  · exact h1
  · exact absurd e.symm ((h.take s hs).new t h1)

/-- what is taken later is no lighter -/
theorem step (h : Sel n wt T W m c) {t : Nat} (ht : t + 1 < c) (hm : n + (t + 1) / 2 ≤ m) : W (T t) ≤ W (T (t + 1)) := by
  have h1 := h.take t (by omega)
  have h2 := h.take (t + 1) ht
  by_cases e : T (t + 1) < n + t / 2
  · have := h1.least (T (t + 1)) e (fun s hs => h2.new s (by omega))
    rcases this with h | h <;> omega
  · -- the node just joined
    have h3 := h2.lt
    obtain ⟨k, hk⟩ : ∃ k, t = 2 * k + 1 := ⟨t / 2, by omega⟩
    subst hk
    have e2 : T (2 * k + 1 + 1) = n + k := by omega
    rw [e2, h.join k (by omega)]
    have h4 := (h.take (2 * k) (by omega)).lt
    have := h.wpos (T (2 * k)) (by omega)
    omega

theorem mono (h : Sel n wt T W m c) {s t : Nat} (hst : s ≤ t) (ht : t < c) (hm : n + t / 2 ≤ m) : W (T s) ≤ W (T t) := by
  induction t with
  | zero => rw [show s = 0 by omega]; exact Int.le_refl _
  | succ t ih =>
    by_cases e : s = t + 1
    · subst e; exact Int.le_refl _
    · exact Int.le_trans (ih (by omega) (by omega) (by omega)) (h.step ht hm)

/-- joined nodes come in the order of their weights -/
theorem joined (h : Sel n wt T W m c) {x y : Nat} (hx : n ≤ x) (hxy : x ≤ y) (hy : y < m) : W x ≤ W y := by
  have hc := h.cm
  obtain ⟨k, rfl⟩ : ∃ k, x = n + k := ⟨x - n, by omega⟩
  obtain ⟨l, rfl⟩ : ∃ l, y = n + l := ⟨y - n, by omega⟩
  rw [h.join k (by omega), h.join l hy]
  have h1 := h.mono (s := 2 * k) (t := 2 * l) (by omega) (by omega) (by omega)
  have h2 := h.mono (s := 2 * k + 1) (t := 2 * l + 1) (by omega) (by omega) (by omega)
  omega

theorem start (n : Nat) (wt : Row) (T : Nat → Nat) (hp : ∀ s, s < n → 1 ≤ wt s) {W : Row} (hW : ∀ s, s < n → W s = wt s) : Sel n wt T W n 0 :=
  ⟨Nat.le_refl _, by omega, hW, hp, fun k hk => by omega, fun t ht => by omega⟩

/-- one more take -/
theorem more (h : Sel n wt T W m c) {x : Nat} (hx : x < n + c / 2) (hn : ∀ s, s < c → T s ≠ x)
    (hl : ∀ y, y < n + c / 2 → (∀ s, s < c → T s ≠ y) → LexLe W x y) : Sel n wt (fun t => if t = c then x else T t) W m (c + 1) := by
  refine ⟨h.nm, by have := h.cm; omega, h.leaf, h.pos, fun k hk => ?_, fun t ht => ?_⟩
  · have := h.cm
    rw [if_neg (by omega), if_neg (by omega)]
    exact h.join k hk
  · by_cases e : t = c
    · subst e
      refine ⟨by simpa using hx, fun s hs => ?_, fun y hy hs => ?_⟩
      · simp only [if_true]; rw [if_neg (by omega)]; exact hn s hs
      · simp only [if_true]
        exact hl y hy (fun s hs' => by have := hs s hs'; rwa [if_neg (by omega)] at this)
    · have h1 := h.take t (by omega)
      refine ⟨by simpa [e] using h1.lt, fun s hs => ?_, fun y hy hs => ?_⟩
      · rw [if_neg (by omega), if_neg e]; exact h1.new s hs
      · rw [if_neg e]
        exact h1.least y hy (fun s hs' => by have := hs s hs'; rwa [if_neg (by omega)] at this)

/-- the two last takes are joined -/
theorem joinup (h : Sel n wt T W m (2 * (m - n) + 2)) {W' : Row} (hW : ∀ x, x < m → W' x = W x) (hj : W' m = W (T (2 * (m - n))) + W (T (2 * (m - n) + 1))) :
    Sel n wt T W' (m + 1) (2 * (m + 1 - n)) := by
  have hnm := h.nm
  refine ⟨by omega, Nat.le_refl _, fun s hs => by rw [hW s (by omega)]; exact h.leaf s hs, h.pos, fun k hk => ?_, fun t ht => ?_⟩
  · have h1 := (h.take (2 * k) (by omega)).lt
    have h2 := (h.take (2 * k + 1) (by omega)).lt
    rw [hW (T (2 * k)) (by omega), hW (T (2 * k + 1)) (by omega)]
    by_cases e : n + k = m
    · have : k = m - n := by omega
      rw [e, hj, this]
    · rw [hW (n + k) (by omega)]; exact h.join k (by omega)
  · have h1 := h.take t (by omega)
    refine ⟨h1.lt, h1.new, fun x hx hs => ?_⟩
    have := h1.least x hx hs
    have h2 := h1.lt
    unfold LexLe at this ⊢
    rw [hW (T t) (by omega), hW x (by omega)]
    exact this

end Sel

/-- two that select by the same rule select alike -/
theorem sel_unique {n : Nat} {wt W W' : Row} {T T' : Nat → Nat} {m c : Nat} (h : Sel n wt T W m c) (h' : Sel n wt T' W' m c) (hc : c = 2 * (m - n)) :
    (∀ t, t < c → T t = T' t) ∧ ∀ x, x < m → W x = W' x := by
  have key : ∀ t, t ≤ c → (∀ s, s < t → T s = T' s) ∧ ∀ x, x < n + t / 2 → x < m → W x = W' x := by
    intro t
    induction t with
    | zero =>
      intro _
      refine ⟨fun s hs => by omega, fun x hx _ => ?_⟩
      rw [h.leaf x (by omega), h'.leaf x (by omega)]
    | succ t ih =>
      intro ht
      obtain ⟨h1, h2⟩ := ih (by omega)
      have k1 := h.take t (by omega)
      have k2 := h'.take t (by omega)
      have l1 := k1.lt
      have l2 := k2.lt
      have hT : T t = T' t := by
        have a1 := k1.least (T' t) l2 (fun s hs => by rw [h1 s hs]; exact k2.new s hs)
        have a2 := k2.least (T t) l1 (fun s hs => by rw [← h1 s hs]; exact k1.new s hs)
        have e1 := h2 (T t) l1 (by omega)
        have e2 := h2 (T' t) l2 (by omega)
        unfold LexLe at a1 a2
        omega
      have hs : ∀ s, s < t + 1 → T s = T' s := by
        intro s hs
        by_cases e : s = t
        · subst e; exact hT
        · exact h1 s (by omega)
      refine ⟨hs, fun x hx hxm => ?_⟩
      by_cases e : x < n + t / 2
      · exact h2 x e hxm
      · obtain ⟨k, hk⟩ : ∃ k, t = 2 * k + 1 := ⟨t / 2, by omega⟩
        subst hk
        have ex : x = n + k := by omega
        subst ex
        rw [h.join k hxm, h'.join k hxm, ← hs (2 * k) (by omega), ← hs (2 * k + 1) (by omega)]
        have b1 := (h.take (2 * k) (by omega)).lt
        rw [h2 (T (2 * k)) (by omega) (by omega), h2 (T (2 * k + 1)) (by omega) (by omega)]
  obtain ⟨h1, h2⟩ := key c (Nat.le_refl _)
  exact ⟨h1, fun x hx => h2 x (by have := h.nm; omega) hx⟩

end Go.Proofs.Qxb6601576a
