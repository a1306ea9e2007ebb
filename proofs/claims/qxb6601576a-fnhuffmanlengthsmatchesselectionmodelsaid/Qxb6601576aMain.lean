/-
  PLAIN: one round of the main loop of huffmanLengths. No Go.
-/
import Derived.Test.Qxb6601576aQueue
set_option linter.unusedVariables false
namespace Go.Proofs.Qxb6601576a

/-- the plain state of the main loop -/
structure Plain (n : Nat) (wt : Row) (sig T : Nat → Nat) (i j m : Nat) (W : Row) (P : Row) : Prop where
  sel : Sel n wt T W m (2 * (m - n))
  que : Queue n sig T i j m (2 * (m - n))
  par : ∀ t, t < 2 * (m - n) → P (T t) = ((n + t / 2 : Nat) : Int)

def T2 (T : Nat → Nat) (c x y : Nat) : Nat → Nat := upT (upT T c x) (c + 1) y

theorem T2_x (T : Nat → Nat) (c x y : Nat) : T2 T c x y c = x := by simp [T2, upT]
theorem T2_y (T : Nat → Nat) (c x y : Nat) : T2 T c x y (c + 1) = y := by simp [T2, upT]
theorem T2_o (T : Nat → Nat) (c x y t : Nat) (ht : t < c) : T2 T c x y t = T t := by
  unfold T2 upT
  rw [if_neg (by omega), if_neg (by omega)]

variable {n : Nat} {wt W P : Row} {sig T : Nat → Nat} {i j m x y i1 j1 i2 j2 : Nat}

theorem plain_start (ho : Order n wt sig) (hp : ∀ s, s < n → 1 ≤ wt s) (hW : ∀ s, s < n → W s = wt s) : Plain n wt sig (fun _ => 0) 0 n n W P := by
  have e : 2 * (n - n) = 0 := by omega
  refine ⟨?_, ?_, fun t ht => by omega⟩
  · rw [e]; exact Sel.start n wt _ hp hW
  · rw [e]; exact queue_start ho

theorem two_takes (ho : Order n wt sig) (h : Plain n wt sig T i j m W P) (h1 : StepQ n wt W sig i j m x i1 j1) (h2 : StepQ n wt W sig i1 j1 m y i2 j2) :
    Sel n wt (T2 T (2 * (m - n)) x y) W m (2 * (m - n) + 2) ∧ Queue n sig (T2 T (2 * (m - n)) x y) i2 j2 m (2 * (m - n) + 2) := by
  have hnm := h.sel.nm
  have a1 := step_queue ho h.sel h.que (by omega) h1
  exact step_queue ho a1.1 a1.2 (by omega) h2

theorem takes_lt (ho : Order n wt sig) (h : Plain n wt sig T i j m W P) (h1 : StepQ n wt W sig i j m x i1 j1) (h2 : StepQ n wt W sig i1 j1 m y i2 j2) :
    x < m ∧ y < m ∧ x ≠ y ∧ W x + W y ≤ sumTo wt n ∧ 1 ≤ W x ∧ 1 ≤ W y := by
  have hnm := h.sel.nm
  obtain ⟨s, _⟩ := two_takes ho h h1 h2
  have l1 := s.take (2 * (m - n)) (by omega)
  have l2 := s.take (2 * (m - n) + 1) (by omega)
  have b1 := l1.lt
  have b2 := l2.lt
  have ne := l2.new (2 * (m - n)) (by omega)
  have tot := s.total
  rw [T2_x] at b1 ne tot
  rw [T2_y] at b2 ne tot
  have p1 := s.wpos x (by omega)
  have p2 := s.wpos y (by omega)
  exact ⟨by omega, by omega, ne, tot, p1, p2⟩

theorem plain_step (ho : Order n wt sig) (h : Plain n wt sig T i j m W P) (h1 : StepQ n wt W sig i j m x i1 j1) (h2 : StepQ n wt W sig i1 j1 m y i2 j2) :
    Plain n wt sig (T2 T (2 * (m - n)) x y) i2 j2 (m + 1) (fun t => if t = m then W x + W y else W t) (fun t => if t = y then (m : Int) else if t = x then (m : Int) else P t) := by
  have hnm := h.sel.nm
  obtain ⟨s, q⟩ := two_takes ho h h1 h2
  obtain ⟨hx, hy, hxy, _⟩ := takes_lt ho h h1 h2
  refine ⟨?_, ?_, fun t ht => ?_⟩
  · refine s.joinup (fun z hz => if_neg (by omega)) ?_
    rw [T2_x, T2_y]; simp
  · have := queue_join q
    rw [show 2 * (m + 1 - n) = 2 * (m - n) + 2 by omega]
    exact this
  · have hin := s.inj (s := t) (t := 2 * (m - n)) (by omega) (by omega)
    have hin2 := s.inj (s := t) (t := 2 * (m - n) + 1) (by omega) (by omega)
    rw [T2_x] at hin
    rw [T2_y] at hin2
    by_cases e1 : t = 2 * (m - n)
    · subst e1
      rw [T2_x]
      show (if x = y then (m : Int) else if x = x then (m : Int) else P x) = _
      rw [if_neg hxy, if_pos rfl]; omega
    · by_cases e2 : t = 2 * (m - n) + 1
      · subst e2
        rw [T2_y]
        show (if y = y then (m : Int) else if y = x then (m : Int) else P y) = _
        rw [if_pos rfl]; omega
      · have e3 := T2_o T (2 * (m - n)) x y t (by omega)
        show (if T2 T (2 * (m - n)) x y t = y then (m : Int) else if T2 T (2 * (m - n)) x y t = x then (m : Int) else P (T2 T (2 * (m - n)) x y t)) = _
        rw [if_neg (fun e => e2 (hin2 e)), if_neg (fun e => e1 (hin e)), e3]
        exact h.par t (by omega)

theorem avail1 (h : Plain n wt sig T i j m W P) (hm : m + 1 < 2 * n) : j = m → i < n := by
  have := h.que.cnt
  have := h.que.nj
  have := h.sel.nm
  omega

theorem avail2 (h : Plain n wt sig T i j m W P) (hm : m + 1 < 2 * n) (h1 : StepQ n wt W sig i j m x i1 j1) : (j1 = m → i1 < n) ∧ i1 ≤ n ∧ j1 ≤ m := by
  have := h.que.cnt
  have := h.que.nj
  have := h.sel.nm
  have := h.que.jm
  have := h.que.i_le
  unfold StepQ at h1
  omega

theorem left_count (h : Plain n wt sig T i j m W P) : i + j + m = 3 * m - n ∧ i ≤ n ∧ j ≤ m ∧ n ≤ j := by
  have := h.que.cnt
  have := h.que.nj
  have := h.sel.nm
  have := h.que.jm
  have := h.que.i_le
  omega

/-- at the end: the tree, for whoever gives each node one more than its parent -/
theorem plain_end {d : Nat → Nat} (h : Plain n wt sig T i j (2 * n - 1) W P) (hn : 1 ≤ n) (hroot : d (2 * n - 2) = 0) (hd : ∀ x, x < 2 * n - 2 → d x = d (P x).toNat + 1) : TreeT n wt T W d := by
  have e : 2 * (2 * n - 1 - n) = 2 * n - 2 := by omega
  have hs := h.sel
  have hp := h.par
  rw [e] at hs hp
  refine ⟨hs, hroot, fun t ht => ?_⟩
  have l := (hs.take t ht).lt
  rw [hd (T t) (by omega), hp t ht, Int.toNat_natCast]

theorem par_range (h : Plain n wt sig T i j (2 * n - 1) W P) (hn : 1 ≤ n) : ∀ x, x < 2 * n - 2 → ∃ p : Nat, P x = p ∧ x < p ∧ p ≤ 2 * n - 2 := by
  have e : 2 * (2 * n - 1 - n) = 2 * n - 2 := by omega
  have hs := h.sel
  have hp := h.par
  rw [e] at hs hp
  intro x hx
  obtain ⟨t, ht, et⟩ := surj_of_inj (N := 2 * n - 2) (T := T) (fun t ht => by have := (hs.take t ht).lt; omega) (fun s t hs' ht e => hs.inj hs' ht e) x hx
  have l := (hs.take t ht).lt
  refine ⟨n + t / 2, by rw [← et, hp t ht], by omega, by omega⟩

end Go.Proofs.Qxb6601576a
