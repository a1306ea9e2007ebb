/-
  PLAIN: what one call of step does.
-/
import Derived.Test.Qxb6601018aGrow
set_option linter.unusedVariables false
namespace Go.Proofs.Qxb6601018a

def winB (x : Ix) (i : Nat) : Bool := liveB x.O (x.nx + i)

/-- inside step: x: as it began; y: as it stands; mv: how many have moved -/
structure StInv (x y : Ix) (mv : Nat) (M : Nat → Nat) (c : Nat) : Prop where
  core : Core y M c
  sz : y.sz = x.sz
  om : y.om = x.om
  nx0 : x.nx ≤ y.nx
  nx1 : y.nx ≤ x.nx + 32
  nx2 : y.nx ≤ x.om
  mvE : mv = cnt (winB x) (y.nx - x.nx)
  mv4 : mv ≤ 4
  n : y.n = x.n + mv
  O : ∀ q, y.O q = if x.nx ≤ q ∧ q < y.nx ∧ liveB x.O q = true then ((x.O q).1, gone) else x.O q
  early : ∀ j, j < y.nx - x.nx → cnt (winB x) j < 4

theorem st_start {x : Ix} {M : Nat → Nat} {c : Nat} (hC : Core x M c) (h0 : x.om ≠ 0) : StInv x x 0 M c := by
  refine ⟨hC, rfl, rfl, Nat.le_refl _, by omega, (hC.old h0).nx, ?_, by omega, rfl, fun q => ?_, fun j hj => by omega⟩
  · rw [Nat.sub_self]; rfl
  · rw [if_neg (by omega)]

theorem st_at {x y : Ix} {mv : Nat} {M : Nat → Nat} {c : Nat} (h : StInv x y mv M c) : y.O y.nx = x.O y.nx := by
  rw [h.O, if_neg (by omega)]

theorem st_live {x y : Ix} {mv : Nat} {M : Nat → Nat} {c : Nat} (h : StInv x y mv M c) : winB x (y.nx - x.nx) = liveB y.O y.nx := by
  have := h.nx0
  unfold winB liveB
  rw [show x.nx + (y.nx - x.nx) = y.nx by omega, st_at h]

theorem st_skip {x y : Ix} {mv : Nat} {M : Nat → Nat} {c : Nat} (h : StInv x y mv M c) (h0 : x.om ≠ 0) (h1 : y.nx < x.nx + 32) (h2 : y.nx < x.om) (h4 : mv < 4) (hd : liveB y.O y.nx = false) :
    StInv x { y with nx := y.nx + 1 } mv M c := by
  have hnx := h.nx0
  have hom := h.om
  have hw := st_live h
  rw [hd] at hw
  refine ⟨core_skip h.core (by rw [hom]; exact h0) (by rw [hom]; exact h2) hd, h.sz, h.om, show x.nx ≤ y.nx + 1 by omega, show y.nx + 1 ≤ x.nx + 32 by omega, h2, ?_, h.mv4, h.n, fun q => ?_, fun j hj => ?_⟩
  · show mv = cnt (winB x) (y.nx + 1 - x.nx)
    rw [show y.nx + 1 - x.nx = (y.nx - x.nx) + 1 by omega]
    simp only [cnt, hw]; have := h.mvE; simpa using this
  · show y.O q = if x.nx ≤ q ∧ q < y.nx + 1 ∧ liveB x.O q = true then ((x.O q).1, gone) else x.O q
    rw [h.O q]
    by_cases e : q = y.nx
    · subst e
      have hl : liveB x.O y.nx = false := by have := hd; unfold liveB at this ⊢; rw [st_at h] at this; exact this
      rw [if_neg (by omega), if_neg (by rw [hl]; simp)]
    · by_cases e2 : x.nx ≤ q ∧ q < y.nx ∧ liveB x.O q = true
      · rw [if_pos e2, if_pos ⟨e2.1, by omega, e2.2.2⟩]
      · rw [if_neg e2, if_neg (fun hh => e2 ⟨hh.1, by omega, hh.2.2⟩)]
  · have hj' : j < y.nx + 1 - x.nx := hj
    by_cases e : j = y.nx - x.nx
    · subst e; rw [← h.mvE]; exact h4
    · exact h.early j (by omega)

theorem st_move {x y : Ix} {mv r : Nat} {M : Nat → Nat} {c : Nat} (h : StInv x y mv M c) (h0 : x.om ≠ 0) (h1 : y.nx < x.nx + 32) (h2 : y.nx < x.om) (h4 : mv < 4) (hl : liveB y.O y.nx = true)
    (hp : IsProbe (stopE y.P) y.sz ((y.O y.nx).1 % y.sz) r) :
    StInv x { y with nx := y.nx + 1, O := upd y.O y.nx ((y.O y.nx).1, gone), P := upd y.P r (y.O y.nx), n := y.n + 1 } (mv + 1) M c := by
  have hnx := h.nx0
  have hom := h.om
  have hw := st_live h
  rw [hl] at hw
  refine ⟨core_move h.core (by rw [hom]; exact h0) (by rw [hom]; exact h2) hl hp, h.sz, h.om, show x.nx ≤ y.nx + 1 by omega, show y.nx + 1 ≤ x.nx + 32 by omega, h2, ?_, h4, ?_, fun q => ?_, fun j hj => ?_⟩
  · show mv + 1 = cnt (winB x) (y.nx + 1 - x.nx)
    rw [show y.nx + 1 - x.nx = (y.nx - x.nx) + 1 by omega]
    simp only [cnt, hw]; have := h.mvE; simpa using this
  · show y.n + 1 = x.n + (mv + 1)
    have := h.n; omega
  · show upd y.O y.nx ((y.O y.nx).1, gone) q = if x.nx ≤ q ∧ q < y.nx + 1 ∧ liveB x.O q = true then ((x.O q).1, gone) else x.O q
    by_cases e : q = y.nx
    · subst e
      have hl' : liveB x.O y.nx = true := by have := hl; unfold liveB at this ⊢; rw [st_at h] at this; exact this
      rw [upd_self, if_pos ⟨hnx, by omega, hl'⟩, st_at h]
    · rw [upd_other _ _ _ _ e, h.O q]
      by_cases e2 : x.nx ≤ q ∧ q < y.nx ∧ liveB x.O q = true
      · rw [if_pos e2, if_pos ⟨e2.1, by omega, e2.2.2⟩]
      · rw [if_neg e2, if_neg (fun hh => e2 ⟨hh.1, by omega, hh.2.2⟩)]
  · have hj' : j < y.nx + 1 - x.nx := hj
    by_cases e : j = y.nx - x.nx
    · subst e; rw [← h.mvE]; exact h4
    · exact h.early j (by omega)

/-- what step leaves, where there is an old table -/
def StepPost (x x' : Ix) (M : Nat → Nat) (c : Nat) : Prop :=
  ∃ y mv, StInv x y mv M c ∧ ¬ (y.nx < x.nx + 32 ∧ y.nx < x.om ∧ mv < 4) ∧ ((y.nx = x.om ∧ x' = { y with om := 0 }) ∨ (y.nx ≠ x.om ∧ x' = y))

theorem StepPost.core {x x' : Ix} {M : Nat → Nat} {c : Nat} (h : StepPost x x' M c) (h0 : x.om ≠ 0) : Core x' M c := by
  obtain ⟨y, mv, hS, _, ⟨e, rfl⟩ | ⟨e, rfl⟩⟩ := h
  · exact core_close hS.core (by rw [hS.om]; exact h0) (by rw [hS.om]; exact e)
  · exact hS.core

theorem StepPost.sz {x x' : Ix} {M : Nat → Nat} {c : Nat} (h : StepPost x x' M c) : x'.sz = x.sz := by
  obtain ⟨y, mv, hS, _, ⟨e, rfl⟩ | ⟨e, rfl⟩⟩ := h
  · exact hS.sz
  · exact hS.sz

/-- each call ends the move, or lowers the bound on the calls to come -/
theorem StepPost.less {x x' : Ix} {M : Nat → Nat} {c : Nat} (h : StepPost x x' M c) (hC : Core x M c) (h0 : x.om ≠ 0) :
    x'.om = 0 ∨ (x'.om = x.om ∧ (x'.om - x'.nx) / 32 + cnt (liveB x'.O) x'.om / 4 + 1 ≤ (x.om - x.nx) / 32 + cnt (liveB x.O) x.om / 4) := by
  obtain ⟨y, mv, hS, hend, ⟨e, rfl⟩ | ⟨e, rfl⟩⟩ := h
  · exact .inl rfl
  · right
    have hom := hS.om
    refine ⟨hom, ?_⟩
    have h1 := (hC.old h0).cnt
    have h2 := (hS.core.old (by rw [hom]; exact h0)).cnt
    have h3 := hS.n
    have a1 := hS.nx0
    have a2 := hS.nx1
    have a3 := hS.nx2
    have a4 := hS.mv4
    generalize cnt (liveB x.O) x.om = V at *
    generalize cnt (liveB x'.O) x'.om = V' at *
    have hV : V' + mv = V := by omega
    rw [hom]
    by_cases h4 : mv < 4
    · have : x'.nx = x.nx + 32 := by omega
      omega
    · have : mv = 4 := by omega
      omega

theorem StepPost.load {x x' : Ix} {M : Nat → Nat} {c s : Nat} (h : StepPost x x' M c) (hC : Core x M c) (h0 : x.om ≠ 0) (hL : Load x c s) (hs : s ≤ 1) : Load x' c 0 := by
  have h1 := hL.old h0
  have ho8 := (hC.old h0).o8
  have h2 := (hC.old h0).two
  have hsz := h.sz
  rcases h.less hC h0 with e | ⟨e, hl⟩
  · refine ⟨fun _ => by rw [hsz]; omega, fun hh => absurd e hh⟩
  · refine ⟨fun hh => by omega, fun _ => by rw [e] at hl ⊢; omega⟩

/-- the sizes that step asks -/
theorem Load.room {x : Ix} {M : Nat → Nat} {c s : Nat} (hL : Load x c s) (hC : Core x M c) (hs : s ≤ 1) : c < x.sz := by
  by_cases h0 : x.om = 0
  · have := hL.nil h0; have := hC.sz8; omega
  · have := hL.old h0; have := (hC.old h0).o8; have := (hC.old h0).two; omega

end Go.Proofs.Qxb6601018a
