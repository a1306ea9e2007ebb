/-
  PLAIN MATHEMATICS of the quick sort's loop: what lies outside the range in hand is in its place. No Go.
-/
import Derived.Test.Qxb6601576aPartP
set_option linter.unusedVariables false
namespace Go.Proofs.Qxb6601576a

/-- what lies ahead of a is at most what lies from a to b -/
def Ahead (D : Row) (a b : Nat) : Prop := ∀ t, a ≤ t → t < b → 0 < a → D (a - 1) ≤ D t

theorem Ahead.perm {D D' : Row} {a b : Nat} (h : Ahead D a b) (hp : PermR D D' a b) : Ahead D' a b := by
  intro t h1 h2 h3
  rw [hp.out (t := a - 1) (by omega)]
  exact hp.all (P := fun x => D (a - 1) ≤ x) (fun t h1 h2 => h t h1 h2 h3) t h1 h2

/-- of the range from A to B the part from a to b is still in hand -/
structure Hand (E : Row) (A a b B : Nat) : Prop where
  Aa : A ≤ a
  ab : a ≤ b
  bB : b ≤ B
  sl : SortedR E A a
  sr : SortedR E b B
  pl : ∀ p q, A ≤ p → p < a → a ≤ q → q < B → E p ≤ E q
  pr : ∀ p q, A ≤ p → p < b → b ≤ q → q < B → E p ≤ E q
  ahead : Ahead E A B

theorem hand_start {E : Row} {A B : Nat} (h : A ≤ B) (ha : Ahead E A B) : Hand E A A B B :=
  ⟨Nat.le_refl _, h, Nat.le_refl _, fun p q h1 h2 h3 => by omega, fun p q h1 h2 h3 => by omega, fun p q h1 h2 h3 h4 => by omega, fun p q h1 h2 h3 h4 => by omega, ha⟩

theorem Hand.ahead' {E : Row} {A a b B : Nat} (h : Hand E A a b B) : Ahead E a b := by
  intro t h1 h2 h3
  have hA := h.Aa
  have hB := h.bB
  by_cases e : A = a
  · subst e; exact h.ahead t h1 (by omega) h3
  · exact h.pl (a - 1) t (by omega) (by omega) h1 (by omega)

theorem Hand.perm {E F : Row} {A a b B : Nat} (h : Hand E A a b B) (hp : PermR E F a b) : Hand F A a b B := by
  have hA := h.Aa
  have hB := h.bB
  have hab := h.ab
  refine ⟨hA, hab, hB, fun p q h1 h2 h3 => ?_, fun p q h1 h2 h3 => ?_, fun p q h1 h2 h3 h4 => ?_, fun p q h1 h2 h3 h4 => ?_, h.ahead.perm (hp.mono hA hB)⟩
  · rw [hp.out (by omega), hp.out (by omega)]; exact h.sl p q h1 h2 h3
  · rw [hp.out (by omega), hp.out (by omega)]; exact h.sr p q h1 h2 h3
  · rw [hp.out (t := p) (by omega)]
    by_cases e : q < b
    · exact hp.all (P := fun x => E p ≤ x) (fun t t1 t2 => h.pl p t h1 h2 t1 (by omega)) q h3 e
    · rw [hp.out (by omega)]; exact h.pl p q h1 h2 h3 h4
  · rw [hp.out (t := q) (by omega)]
    by_cases e : a ≤ p
    · exact hp.all (P := fun x => x ≤ E q) (fun t t1 t2 => h.pr t q (by omega) t2 h3 h4) p e h2
    · rw [hp.out (by omega)]; exact h.pr p q h1 h2 h3 h4

theorem Hand.done {E : Row} {A a b B : Nat} (h : Hand E A a b B) (hs : SortedR E a b) : SortedR E A B := by
  have hA := h.Aa
  have hB := h.bB
  have hab := h.ab
  intro p q h1 h2 h3
  by_cases e1 : q < a
  · exact h.sl p q h1 h2 e1
  · by_cases e2 : p < a
    · exact h.pl p q h1 e2 (by omega) h3
    · by_cases e3 : q < b
      · exact hs p q (by omega) h2 e3
      · by_cases e4 : p < b
        · exact h.pr p q h1 e4 (by omega) h3
        · exact h.sr p q (by omega) h2 h3

/-- behind partition: the left part has been sorted -/
theorem Hand.left {E F : Row} {A a b B m : Nat} {v : Int} (h : Hand E A a b B) (hP : Parted E a m b v) (hp : PermR E F a m) (hs : SortedR F a m) : Hand F A (m + 1) b B := by
  have hA := h.Aa
  have hB := h.bB
  have h1 := hP.am
  have h2 := hP.mb
  have hF := h.perm (hp.mono (Nat.le_refl _) (by omega))
  have hlo : ∀ t, a ≤ t → t < m → F t ≤ v := hp.all (P := fun x => x ≤ v) hP.lo
  have hm : F m = v := by rw [hp.out (by omega)]; exact hP.piv
  have hhi : ∀ t, m ≤ t → t < b → v ≤ F t := fun t t1 t2 => by rw [hp.out (by omega)]; exact hP.hi t t1 t2
  refine ⟨by omega, by omega, hB, ?_, hF.sr, ?_, hF.pr, hF.ahead⟩
  · intro p q h1 h2 h3
    by_cases e : q < a
    · exact hF.sl p q h1 h2 e
    · by_cases e2 : p < a
      · exact hF.pl p q h1 e2 (by omega) (by omega)
      · by_cases e3 : q = m
        · subst e3; rw [hm]; exact hlo p (by omega) (by omega)
        · exact hs p q (by omega) h2 (by omega)
  · intro p q p1 p2 p3 p4
    by_cases e : p < a
    · exact hF.pl p q p1 e (by omega) p4
    · by_cases e2 : q < b
      · refine Int.le_trans ?_ (hhi q (by omega) e2)
        by_cases e3 : p = m
        · subst e3; exact Int.le_of_eq hm
        · exact hlo p (by omega) (by omega)
      · exact hF.pr p q p1 (by omega) (by omega) p4

/-- behind partition: the right part has been sorted -/
theorem Hand.right {E F : Row} {A a b B m : Nat} {v : Int} (h : Hand E A a b B) (hP : Parted E a m b v) (hp : PermR E F (m + 1) b) (hs : SortedR F (m + 1) b) : Hand F A a m B := by
  have hA := h.Aa
  have hB := h.bB
  have h1 := hP.am
  have h2 := hP.mb
  have hF := h.perm (hp.mono (by omega) (Nat.le_refl _))
  have hlo : ∀ t, a ≤ t → t < m → F t ≤ v := fun t t1 t2 => by rw [hp.out (by omega)]; exact hP.lo t t1 t2
  have hm : F m = v := by rw [hp.out (by omega)]; exact hP.piv
  have hhi : ∀ t, m + 1 ≤ t → t < b → v ≤ F t := hp.all (P := fun x => v ≤ x) (fun t t1 t2 => hP.hi t (by omega) t2)
  refine ⟨hA, by omega, by omega, hF.sl, ?_, hF.pl, ?_, hF.ahead⟩
  · intro p q h1 h2 h3
    by_cases e : b ≤ p
    · exact hF.sr p q e h2 h3
    · by_cases e2 : b ≤ q
      · exact hF.pr p q (by omega) (by omega) e2 h3
      · by_cases e3 : p = m
        · subst e3; rw [hm]; exact hhi q (by omega) (by omega)
        · exact hs p q (by omega) h2 (by omega)
  · intro p q p1 p2 p3 p4
    by_cases e : b ≤ q
    · exact hF.pr p q p1 (by omega) e p4
    · by_cases e2 : p < a
      · exact hF.pl p q p1 e2 (by omega) p4
      · refine Int.le_trans (hlo p (by omega) p2) ?_
        by_cases e3 : q = m
        · subst e3; exact Int.le_of_eq hm.symm
        · exact hhi q (by omega) (by omega)

/-- behind partitionEqual: the pivot is the least -/
theorem Hand.equal {E : Row} {A a b B m : Nat} {v : Int} (h : Hand E A a b B) (hP : EqParted E a m b v) (h0 : 0 < a) (hv : v ≤ E (a - 1)) : Hand E A m b B := by
  have hA := h.Aa
  have hB := h.bB
  have h1 := hP.am
  have h2 := hP.mb
  have hah := h.ahead'
  have heq : ∀ t, a ≤ t → t < m → E t = v := fun t t1 t2 => by
    have := hP.lo t t1 t2
    have := hah t t1 (by omega) h0
    omega
  refine ⟨by omega, by omega, hB, ?_, h.sr, ?_, h.pr, h.ahead⟩
  · intro p q p1 p2 p3
    by_cases e : q < a
    · exact h.sl p q p1 p2 e
    · by_cases e2 : p < a
      · exact h.pl p q p1 e2 (by omega) (by omega)
      · rw [heq p (by omega) (by omega), heq q (by omega) p3]; exact Int.le_refl _
  · intro p q p1 p2 p3 p4
    by_cases e : p < a
    · exact h.pl p q p1 e (by omega) p4
    · by_cases e2 : q < b
      · rw [heq p (by omega) p2]; exact hP.hi q p3 e2
      · exact h.pr p q p1 (by omega) (by omega) p4

theorem Parted.aheadL {E : Row} {a m b : Nat} {v : Int} (hP : Parted E a m b v) (h : Ahead E a b) : Ahead E a m :=
  fun t h1 h2 h3 => h t h1 (by have := hP.mb; omega) h3

theorem Parted.aheadR {E : Row} {a m b : Nat} {v : Int} (hP : Parted E a m b v) : Ahead E (m + 1) b := by
  intro t h1 h2 h3
  rw [Nat.add_sub_cancel, hP.piv]
  exact hP.hi t (by omega) h2

end Go.Proofs.Qxb6601576a
