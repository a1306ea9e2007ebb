/-
  PLAIN MATHEMATICS: two queues select as plain selection does. No Go.
-/
import Derived.Test.Qxb6601576aDepth
set_option linter.unusedVariables false
namespace Go.Proofs.Qxb6601576a

/-- the leaves in the order of (weight, symbol) -/
structure Order (n : Nat) (wt : Row) (sig : Nat → Nat) : Prop where
  lt : ∀ q, q < n → sig q < n
  inj : ∀ p q, p < n → q < n → sig p = sig q → p = q
  le : ∀ p q, p ≤ q → q < n → wt (sig p) < wt (sig q) ∨ (wt (sig p) = wt (sig q) ∧ sig p ≤ sig q)

theorem Order.surj {n : Nat} {wt : Row} {sig : Nat → Nat} (h : Order n wt sig) : ∀ x, x < n → ∃ q, q < n ∧ sig q = x := surj_of_inj h.lt h.inj

def key (wt : Row) : Row := fun t => wt t * 512 + t

theorem order_of {n : Nat} {wt K : Row} (hn : n ≤ 512) (hp : PermR (key wt) K 0 n) (hs : SortedR K 0 n) : ∃ sig, Order n wt sig ∧ ∀ q, q < n → K q = wt (sig q) * 512 + sig q := by
  obtain ⟨π, i1, o1, r1, e1⟩ := hp
  have hlt : ∀ q, q < n → π q < n := fun q hq => (r1 q (by omega) hq).2
  have hK : ∀ q, K q = wt (π q) * 512 + π q := fun q => by rw [e1]; rfl
  refine ⟨π, ⟨hlt, fun p q _ _ e => i1 p q e, fun p q hpq hq => ?_⟩, fun q _ => hK q⟩
  have h1 := hlt p (by omega)
  have h2 := hlt q hq
  rcases Nat.eq_or_lt_of_le hpq with e | e
  · subst e; exact .inr ⟨rfl, Nat.le_refl _⟩
  · have := hs p q (by omega) e hq
    rw [hK, hK] at this
    omega

/-- the state of the two queues -/
structure Queue (n : Nat) (sig T : Nat → Nat) (i j m c : Nat) : Prop where
  i_le : i ≤ n
  nj : n ≤ j
  jm : j ≤ m
  cnt : i + (j - n) = c
  leafL : ∀ x, x < n → (∀ s, s < c → T s ≠ x) → ∃ q, i ≤ q ∧ q < n ∧ x = sig q
  joinL : ∀ x, n ≤ x → x < m → (∀ s, s < c → T s ≠ x) → j ≤ x
  leafN : ∀ q, i ≤ q → q < n → ∀ s, s < c → T s ≠ sig q
  joinN : ∀ x, j ≤ x → ∀ s, s < c → T s ≠ x

theorem queue_start {n : Nat} {wt : Row} {sig T : Nat → Nat} (h : Order n wt sig) : Queue n sig T 0 n n 0 :=
  ⟨Nat.zero_le _, Nat.le_refl _, Nat.le_refl _, by omega, fun x hx _ => by obtain ⟨q, h1, h2⟩ := h.surj x hx; exact ⟨q, Nat.zero_le _, h1, h2.symm⟩,
    fun x h1 h2 _ => by omega, fun q _ _ s hs => by omega, fun x _ s hs => by omega⟩

def upT (T : Nat → Nat) (c x : Nat) : Nat → Nat := fun t => if t = c then x else T t

variable {n : Nat} {wt W : Row} {sig T : Nat → Nat} {i j m c : Nat}

theorem upT_alive {x y : Nat} (h : ∀ s, s < c + 1 → upT T c x s ≠ y) : (∀ s, s < c → T s ≠ y) ∧ x ≠ y := by
  refine ⟨fun s hs => ?_, ?_⟩
  · have := h s (by omega)
    unfold upT at this
    rwa [if_neg (by omega)] at this
  · have := h c (by omega)
    unfold upT at this
    rwa [if_pos rfl] at this

theorem upT_not {x y : Nat} (h : ∀ s, s < c → T s ≠ y) (hx : x ≠ y) : ∀ s, s < c + 1 → upT T c x s ≠ y := by
  intro s hs
  unfold upT
  by_cases e : s = c
  · rw [if_pos e]; exact hx
  · rw [if_neg e]; exact h s (by omega)

/-- the first leaf left is taken -/
theorem take_leaf (ho : Order n wt sig) (hs : Sel n wt T W m c) (hq : Queue n sig T i j m c) (hm : n + c / 2 = m) (hi : i < n) (hw : j = m ∨ wt (sig i) ≤ W j) :
    Sel n wt (upT T c (sig i)) W m (c + 1) ∧ Queue n sig (upT T c (sig i)) (i + 1) j m (c + 1) := by
  have h1 := ho.lt i hi
  refine ⟨hs.more (by omega) (hq.leafN i (Nat.le_refl _) hi) (fun y hy hya => ?_), ⟨by omega, hq.nj, hq.jm, by have := hq.cnt; omega, fun x hx ha => ?_, fun x hx1 hx2 ha => ?_, fun q hq1 hq2 => ?_, fun x hx => ?_⟩⟩
  · unfold LexLe
    rw [hs.leaf (sig i) h1]
    by_cases e : y < n
    · obtain ⟨q, q1, q2, rfl⟩ := hq.leafL y e hya
      rw [hs.leaf (sig q) e]
      exact ho.le i q q1 q2
    · have hjy := hq.joinL y (by omega) (by omega) hya
      have hjW := hs.joined (x := j) (y := y) hq.nj hjy (by omega)
      rcases hw with hw | hw
      · omega
      · omega
  · obtain ⟨ha1, ha2⟩ := upT_alive ha
    obtain ⟨q, q1, q2, rfl⟩ := hq.leafL x hx ha1
    refine ⟨q, ?_, q2, rfl⟩
    rcases Nat.eq_or_lt_of_le q1 with e | e
    · subst e; exact absurd rfl ha2
    · exact e
  · exact hq.joinL x hx1 hx2 (upT_alive ha).1
  · exact upT_not (hq.leafN q (by omega) hq2) (fun e => by have := ho.inj i q hi hq2 e; omega)
  · exact upT_not (hq.joinN x hx) (by have := hq.nj; omega)

/-- the first joined node left is taken -/
theorem take_joined (ho : Order n wt sig) (hs : Sel n wt T W m c) (hq : Queue n sig T i j m c) (hm : n + c / 2 = m) (hj : j < m) (hw : i = n ∨ W j < wt (sig i)) :
    Sel n wt (upT T c j) W m (c + 1) ∧ Queue n sig (upT T c j) i (j + 1) m (c + 1) := by
  have h1 := hq.nj
  refine ⟨hs.more (by omega) (hq.joinN j (Nat.le_refl _)) (fun y hy hya => ?_), ⟨hq.i_le, by omega, by omega, by have := hq.cnt; omega, fun x hx ha => ?_, fun x hx1 hx2 ha => ?_, fun q hq1 hq2 => ?_, fun x hx => ?_⟩⟩
  · unfold LexLe
    by_cases e : y < n
    · obtain ⟨q, q1, q2, rfl⟩ := hq.leafL y e hya
      rw [hs.leaf (sig q) e]
      have := ho.le i q q1 q2
      omega
    · have hjy := hq.joinL y (by omega) (by omega) hya
      have hjW := hs.joined (x := j) (y := y) hq.nj hjy (by omega)
      omega
  · exact hq.leafL x hx (upT_alive ha).1
  · obtain ⟨ha1, ha2⟩ := upT_alive ha
    have := hq.joinL x hx1 hx2 ha1
    omega
  · exact upT_not (hq.leafN q hq1 hq2) (by have := ho.lt q hq2; omega)
  · exact upT_not (hq.joinN x (by omega)) (by omega)

/-- the two are joined -/
theorem queue_join (hq : Queue n sig T i j m c) : Queue n sig T i j (m + 1) c := by
  refine ⟨hq.i_le, hq.nj, by have := hq.jm; omega, hq.cnt, hq.leafL, fun x h1 h2 ha => ?_, hq.leafN, hq.joinN⟩
  by_cases e : x = m
  · subst e; exact hq.jm
  · exact hq.joinL x h1 (by omega) ha

/-- one step of the two queues: which node, and the queues behind it -/
def StepQ (n : Nat) (wt W : Row) (sig : Nat → Nat) (i j m x i' j' : Nat) : Prop :=
  (i < n ∧ (j = m ∨ wt (sig i) ≤ W j) ∧ x = sig i ∧ i' = i + 1 ∧ j' = j) ∨ (j < m ∧ (i = n ∨ W j < wt (sig i)) ∧ x = j ∧ i' = i ∧ j' = j + 1)

theorem step_queue {x i' j' : Nat} (ho : Order n wt sig) (hs : Sel n wt T W m c) (hq : Queue n sig T i j m c) (hm : n + c / 2 = m) (h : StepQ n wt W sig i j m x i' j') :
    Sel n wt (upT T c x) W m (c + 1) ∧ Queue n sig (upT T c x) i' j' m (c + 1) := by
  rcases h with ⟨h1, h2, rfl, rfl, rfl⟩ | ⟨h1, h2, rfl, rfl, rfl⟩
  · exact take_leaf ho hs hq hm h1 h2
  · exact take_joined ho hs hq hm h1 h2

end Go.Proofs.Qxb6601576a
