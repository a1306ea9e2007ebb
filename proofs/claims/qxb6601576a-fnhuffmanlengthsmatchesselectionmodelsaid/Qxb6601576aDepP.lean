/-
  PLAIN: the least of those alive; one round of the plain selection. No Go.
-/
import Derived.Test.Qxb6601576aMain
set_option linter.unusedVariables false
namespace Go.Proofs.Qxb6601576a

/-- the least alive of the first i, or none -/
def BestR (W : Row) (A : Nat → Bool) (i : Nat) (v : Int) : Prop :=
  (v = -1 ∧ ∀ x, x < i → A x = false) ∨ ∃ b : Nat, v = b ∧ b < i ∧ A b = true ∧ ∀ x, x < i → A x = true → LexLe W b x

theorem BestR.start (W : Row) (A : Nat → Bool) : BestR W A 0 (-1) := .inl ⟨rfl, fun x hx => by omega⟩

theorem BestR.dead {W : Row} {A : Nat → Bool} {i : Nat} {v : Int} (h : BestR W A i v) (hA : A i = false) : BestR W A (i + 1) v := by
  rcases h with ⟨e, h⟩ | ⟨b, e, hb, hA', hl⟩
  · refine .inl ⟨e, fun x hx => ?_⟩
    by_cases ex : x = i
    · subst ex; exact hA
    · exact h x (by omega)
  · refine .inr ⟨b, e, by omega, hA', fun x hx hax => ?_⟩
    by_cases ex : x = i
    · subst ex; rw [hA] at hax; cases hax
    · exact hl x (by omega) hax

theorem BestR.firstOne {W : Row} {A : Nat → Bool} {i : Nat} (h : BestR W A i (-1)) (hA : A i = true) : BestR W A (i + 1) i := by
  rcases h with ⟨e, h⟩ | ⟨b, e, hb, hA', hl⟩
  · refine .inr ⟨i, rfl, by omega, hA, fun x hx hax => ?_⟩
    by_cases ex : x = i
    · subst ex; exact .inr ⟨rfl, Nat.le_refl _⟩
    · rw [h x (by omega)] at hax; cases hax
  · omega

theorem BestR.better {W : Row} {A : Nat → Bool} {i b : Nat} (h : BestR W A i b) (hA : A i = true) (hw : W i < W b) : BestR W A (i + 1) i := by
  rcases h with ⟨e, h⟩ | ⟨b', e, hb, hA', hl⟩
  · omega
  · have : b = b' := by omega
    subst this
    refine .inr ⟨i, rfl, by omega, hA, fun x hx hax => ?_⟩
    by_cases ex : x = i
    · subst ex; exact .inr ⟨rfl, Nat.le_refl _⟩
    · rcases hl x (by omega) hax with h1 | h1
      · exact .inl (by omega)
      · exact .inl (by omega)

theorem BestR.worse {W : Row} {A : Nat → Bool} {i b : Nat} (h : BestR W A i b) (hA : A i = true) (hw : ¬ W i < W b) : BestR W A (i + 1) b := by
  rcases h with ⟨e, h⟩ | ⟨b', e, hb, hA', hl⟩
  · omega
  · have : b = b' := by omega
    subst this
    refine .inr ⟨b, rfl, by omega, hA', fun x hx hax => ?_⟩
    by_cases ex : x = i
    · subst ex
      by_cases e2 : W b = W x
      · exact .inr ⟨e2, by omega⟩
      · exact .inl (by omega)
    · exact hl x (by omega) hax

/-- who is alive: the nodes there that are not taken -/
def Alive (T : Nat → Nat) (m c : Nat) (A : Nat → Bool) : Prop := ∀ x, x < m → (A x = true ↔ ∀ s, s < c → T s ≠ x)

theorem alive_one {n m c : Nat} {wt W : Row} {T : Nat → Nat} {A : Nat → Bool} (h : Sel n wt T W m c) (ha : Alive T m c A) (hc : c < m) : ∃ x, x < m ∧ A x = true := by
  refine Classical.byContradiction (fun hno => ?_)
  have hall : ∀ x, x < m → ∃ s, s < c ∧ T s = x := by
    intro x hx
    refine Classical.byContradiction (fun h2 => hno ⟨x, hx, (ha x hx).2 (fun s hs e => h2 ⟨s, hs, e⟩)⟩)
  -- c takes cannot reach m nodes
  have key := sum_inj c m (fun x => if hx : x < m then Classical.choose (hall x hx) else 0) (fun _ => 1) (fun _ => by decide) (fun x hx => by
    simp only [hx, dif_pos]; exact (Classical.choose_spec (hall x hx)).1) (fun x y hx hy e => by
    simp only [hx, hy, dif_pos] at e
    have h1 := (Classical.choose_spec (hall x hx)).2
    have h2 := (Classical.choose_spec (hall y hy)).2
    rw [e, h2] at h1; exact h1.symm)
  rw [sumTo_one, sumTo_one] at key
  omega

/-- the best is taken -/
theorem take_best {n m c : Nat} {wt W : Row} {T : Nat → Nat} {A : Nat → Bool} {v : Int} (h : Sel n wt T W m c) (ha : Alive T m c A) (hc : c < m) (hm : m = n + c / 2) (hb : BestR W A m v) :
    ∃ x : Nat, v = x ∧ x < m ∧ Sel n wt (upT T c x) W m (c + 1) ∧ Alive (upT T c x) m (c + 1) (fun y => if y = x then false else A y) := by
  obtain ⟨x0, hx0, hA0⟩ := alive_one h ha hc
  rcases hb with ⟨_, h2⟩ | ⟨x, e, hx, hAx, hl⟩
  · rw [h2 x0 hx0] at hA0; cases hA0
  · refine ⟨x, e, hx, ?_, fun y hy => ?_⟩
    · exact h.more (by omega) ((ha x hx).1 hAx) (fun y hy hy2 => hl y (by omega) ((ha y (by omega)).2 hy2))
    · by_cases e2 : y = x
      · subst e2
        simp only [if_pos]
        constructor
        · intro h; cases h
        · intro h; exact absurd (by simp [upT]) (h c (by omega))
      · simp only [if_neg e2]
        rw [ha y hy]
        constructor
        · intro h s hs
          unfold upT
          by_cases e3 : s = c
          · subst e3; rw [if_pos rfl]; exact fun e => e2 e.symm
          · rw [if_neg e3]; exact h s (by omega)
        · intro h s hs
          have := h s (by omega)
          unfold upT at this
          rw [if_neg (by omega)] at this
          exact this

/-- the state of the plain selection's loop -/
structure PSel (n : Nat) (wt : Row) (T : Nat → Nat) (m : Nat) (W P : Row) (A : Nat → Bool) : Prop where
  sel : Sel n wt T W m (2 * (m - n))
  alive : Alive T m (2 * (m - n)) A
  par : ∀ t, t < 2 * (m - n) → P (T t) = ((n + t / 2 : Nat) : Int)

theorem psel_start {n : Nat} {wt W P : Row} {A : Nat → Bool} (hp : ∀ s, s < n → 1 ≤ wt s) (hW : ∀ s, s < n → W s = wt s) (hA : ∀ s, s < n → A s = true) : PSel n wt (fun _ => 0) n W P A := by
  have e : 2 * (n - n) = 0 := by omega
  refine ⟨?_, ?_, fun t ht => by omega⟩
  · rw [e]; exact Sel.start n wt _ hp hW
  · rw [e]; exact fun x hx => ⟨fun _ s hs => by omega, fun _ => hA x hx⟩

/-- after two takes x, y -/
structure PTwo (n : Nat) (wt : Row) (T : Nat → Nat) (m x y : Nat) (W : Row) (A : Nat → Bool) : Prop where
  sel : Sel n wt (T2 T (2 * (m - n)) x y) W m (2 * (m - n) + 2)
  alive : Alive (T2 T (2 * (m - n)) x y) m (2 * (m - n) + 2) (fun z => if z = y then false else if z = x then false else A z)

theorem PTwo.lt {n m x y : Nat} {wt W : Row} {T : Nat → Nat} {A : Nat → Bool} (h : PTwo n wt T m x y W A) : x < m ∧ y < m ∧ x ≠ y ∧ W x + W y ≤ sumTo wt n ∧ 1 ≤ W x ∧ 1 ≤ W y := by
  have hnm := h.sel.nm
  have s := h.sel
  have l1 := s.take (2 * (m - n)) (by omega)
  have l2 := s.take (2 * (m - n) + 1) (by omega)
  have b1 := l1.lt
  have b2 := l2.lt
  have ne := l2.new (2 * (m - n)) (by omega)
  have tot := s.total
  rw [T2_x] at b1 ne tot
  rw [T2_y] at b2 ne tot
  have p1 := s.wpos x (by omega)
  have p2 := s.wpos y (by omega)
  exact ⟨by omega, by omega, ne, tot, p1, p2⟩

theorem psel_step {n m x y : Nat} {wt W P : Row} {T : Nat → Nat} {A : Nat → Bool} (h : PSel n wt T m W P A) (h2 : PTwo n wt T m x y W A) :
    PSel n wt (T2 T (2 * (m - n)) x y) (m + 1) (fun t => if t = m then W x + W y else W t) (fun t => if t = y then (m : Int) else if t = x then (m : Int) else P t)
      (fun z => if z = m then true else if z = y then false else if z = x then false else A z) := by
  have hnm := h.sel.nm
  obtain ⟨hx, hy, hxy, _⟩ := h2.lt
  have s := h2.sel
  have e : 2 * (m + 1 - n) = 2 * (m - n) + 2 := by omega
  refine ⟨?_, ?_, fun t ht => ?_⟩
  · refine s.joinup (fun z hz => if_neg (by omega)) ?_
    rw [T2_x, T2_y]; simp
  · rw [e]
    intro z hz
    by_cases ez : z = m
    · subst ez
      simp only [if_pos]
      refine ⟨fun _ t ht => ?_, fun _ => trivial⟩
      have := (s.take t ht).lt
      omega
    · simp only [if_neg ez]
      exact h2.alive z (by omega)
  · have hin := s.inj (s := t) (t := 2 * (m - n)) (by omega) (by omega)
    have hin2 := s.inj (s := t) (t := 2 * (m - n) + 1) (by omega) (by omega)
    rw [T2_x] at hin
    rw [T2_y] at hin2
    by_cases e1 : t = 2 * (m - n)
    · subst e1
      rw [T2_x]
      show (if x = y then (m : Int) else if x = x then (m : Int) else P x) = _
      rw [if_neg hxy, if_pos rfl]; omega
    · by_cases e2 : t = 2 * (m - n) + 1
      · subst e2
        rw [T2_y]
        show (if y = y then (m : Int) else if y = x then (m : Int) else P y) = _
        rw [if_pos rfl]; omega
      · have e3 := T2_o T (2 * (m - n)) x y t (by omega)
        show (if T2 T (2 * (m - n)) x y t = y then (m : Int) else if T2 T (2 * (m - n)) x y t = x then (m : Int) else P (T2 T (2 * (m - n)) x y t)) = _
        rw [if_neg (fun e => e2 (hin2 e)), if_neg (fun e => e1 (hin e)), e3]
        exact h.par t (by omega)

/-- at the end: the parents climb the one tree -/
theorem psel_end {n : Nat} {wt W P W0 : Row} {T T0 : Nat → Nat} {A : Nat → Bool} {d : Nat → Nat} (h : PSel n wt T (2 * n - 1) W P A) (h0 : TreeT n wt T0 W0 d) (hn : 1 ≤ n) :
    ∀ x, x < 2 * n - 2 → ∃ p : Nat, P x = p ∧ x < p ∧ p ≤ 2 * n - 2 ∧ d x = d p + 1 := by
  have e : 2 * (2 * n - 1 - n) = 2 * n - 2 := by omega
  have hs := h.sel
  have hp := h.par
  rw [e] at hs hp
  obtain ⟨hT, _⟩ := sel_unique hs h0.sel (by omega)
  intro x hx
  obtain ⟨t, ht, et⟩ := surj_of_inj (N := 2 * n - 2) (T := T) (fun t ht => by have := (hs.take t ht).lt; omega) (fun s t hs' ht e => hs.inj hs' ht e) x hx
  have l := (hs.take t ht).lt
  have hd := h0.deep t ht
  rw [← hT t ht, et] at hd
  exact ⟨n + t / 2, by rw [← et, hp t ht], by omega, by omega, hd⟩

end Go.Proofs.Qxb6601576a
