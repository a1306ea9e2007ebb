/-
  PLAIN MATHEMATICS of shiftBack: no Go, no program.
-/
import Derived.Test.Qxb6601018aPlain
set_option linter.unusedVariables false
namespace Go.Proofs.Qxb6601018a

def pos (n i o : Nat) : Nat := if i + o < n then i + o else i + o - n

theorem pos_cases (n i o : Nat) : (i + o < n ∧ pos n i o = i + o) ∨ (n ≤ i + o ∧ pos n i o = i + o - n) := by
  unfold pos; split <;> omega

/-- shiftBack behind o places that were looked at: where the hole is, and the table -/
def sbk (A : Tab) (n i0 : Nat) : Nat → Nat × Tab
  | 0 => (i0, upd A i0 (0, 0))
  | o + 1 =>
    if dist n (sbk A n i0 o).1 (pos n i0 (o + 1)) ≤ dist n (((sbk A n i0 o).2 (pos n i0 (o + 1))).1 % n) (pos n i0 (o + 1)) then
      (pos n i0 (o + 1), upd (upd (sbk A n i0 o).2 (sbk A n i0 o).1 ((sbk A n i0 o).2 (pos n i0 (o + 1)))) (pos n i0 (o + 1)) (0, 0))
    else sbk A n i0 o

/-- the first free place behind i0 -/
structure FirstFree (A : Tab) (n i0 f : Nat) : Prop where
  gt0 : 0 < f
  lt : f < n
  free : (A (pos n i0 f)).2 = 0
  taken : ∀ t, 0 < t → t < f → (A (pos n i0 t)).2 ≠ 0

structure Mid (A : Tab) (n i0 f o hl : Nat) (T : Tab) : Prop where
  hle : hl ≤ o
  hole : T (pos n i0 hl) = (0, 0)
  occ : ∀ q, q < n → q ≠ pos n i0 hl → ((T q).2 ≠ 0 ↔ (A q).2 ≠ 0)
  from_ : ∀ q, q < n → q ≠ pos n i0 hl → (T q).2 ≠ 0 → ∃ q', q' < n ∧ q' ≠ i0 ∧ A q' = T q
  onto : ∀ q', q' < n → q' ≠ i0 → (A q').2 ≠ 0 → ∃ q, q < n ∧ q ≠ pos n i0 hl ∧ T q = A q'
  uniq : ∀ q r, q < n → r < n → (T q).2 ≠ 0 → (T r).2 ≠ 0 → (T q).1 = (T r).1 → q = r
  rest : ∀ t, o < t → t < n → T (pos n i0 t) = A (pos n i0 t)
  path : ∀ q c, q < n → c < n → (T q).2 ≠ 0 → dist n ((T q).1 % n) c ≤ dist n ((T q).1 % n) q →
    (T c).2 ≠ 0 ∨ (c = pos n i0 hl ∧ ∃ t, o < t ∧ t < f ∧ q = pos n i0 t)
  far : ∀ q, q < n → q ≠ pos n i0 hl → (∀ t, t ≤ o → q ≠ pos n i0 t) → T q = A q

theorem pos_lt {n i o : Nat} (hi : i < n) (ho : o < n) : pos n i o < n := by
  have := pos_cases n i o; omega
theorem pos_inj {n i o o' : Nat} (hi : i < n) (ho : o < n) (ho' : o' < n) (h : pos n i o = pos n i o') : o = o' := by
  have := pos_cases n i o; have := pos_cases n i o'; omega
theorem pos_dist {n i q : Nat} (hi : i < n) (hq : q < n) : pos n i (dist n i q) = q := by
  have := dist_cases n i q; have := pos_cases n i (dist n i q); omega
theorem dist_lt {n i q : Nat} (hi : i < n) (hq : q < n) : dist n i q < n := by
  have := dist_cases n i q; omega

theorem mid_start {A : Tab} {n i0 f : Nat} (hI : Inv A n) (hi : i0 < n) (hocc : (A i0).2 ≠ 0) (hf : FirstFree A n i0 f) : Mid A n i0 f 0 0 (upd A i0 (0, 0)) := by
  have p0 : pos n i0 0 = i0 := by have := pos_cases n i0 0; omega
  have p0' : ∀ q, q ≠ i0 → upd A i0 (0, 0) q = A q := fun q h => upd_other _ _ _ _ h
  constructor
  · exact Nat.le_refl _
  · rw [p0, upd_self]
  · intro q hq hne; rw [p0] at hne; rw [p0' q hne]
  · intro q hq hne ho; rw [p0] at hne; exact ⟨q, hq, hne, (p0' q hne).symm⟩
  · intro q' hq' hne ho; exact ⟨q', hq', by rw [p0]; exact hne, p0' q' hne⟩
  · intro q r hq hr ho ho' he
    have h1 : q ≠ i0 := fun e => by subst e; rw [upd_self] at ho; exact ho rfl
    have h2 : r ≠ i0 := fun e => by subst e; rw [upd_self] at ho'; exact ho' rfl
    rw [p0' _ h1] at ho he; rw [p0' _ h2] at ho' he
    exact hI.uniq q r hq hr ho ho' he
  · intro t ht htn
    refine p0' _ (fun e => ?_)
    have := pos_inj hi (by omega) (by omega) (e.trans p0.symm)
    omega
  · intro q c hq hc ho hd
    have h1 : q ≠ i0 := fun e => by subst e; rw [upd_self] at ho; exact ho rfl
    rw [p0' _ h1] at ho hd
    have hp := hI.path q c hq hc ho hd
    by_cases hci : c = i0
    · right
      refine ⟨by rw [p0]; exact hci, dist n i0 q, ?_, ?_, (pos_dist hi hq).symm⟩
      · have := dist_cases n i0 q; omega
      · subst hci
        have hpf := hI.path q (pos n c f) hq (pos_lt hi hf.lt) ho
        have hfr := hf.free
        have hnot : ¬ dist n ((A q).1 % n) (pos n c f) ≤ dist n ((A q).1 % n) q := fun h => hpf h hfr
        have hm : (A q).1 % n < n := Nat.mod_lt _ (by omega)
        have d1 := dist_cases n ((A q).1 % n) (pos n c f)
        have d2 := dist_cases n ((A q).1 % n) q
        have d3 := dist_cases n ((A q).1 % n) c
        have d4 := dist_cases n c q
        have d5 := pos_cases n c f
        have := hf.lt
        omega
    · left; rw [p0' _ hci]; exact hp
  · intro q hq hne _; rw [p0] at hne; exact p0' q hne

theorem mid_stay {A : Tab} {n i0 f o hl : Nat} {T : Tab} (hi : i0 < n) (hf : FirstFree A n i0 f) (ho : o + 1 < f) (hM : Mid A n i0 f o hl T)
    (hmv : ¬ dist n (pos n i0 hl) (pos n i0 (o + 1)) ≤ dist n ((T (pos n i0 (o + 1))).1 % n) (pos n i0 (o + 1))) : Mid A n i0 f (o + 1) hl T := by
  have hfl := hf.lt
  have hhl := hM.hle
  refine ⟨by omega, hM.hole, hM.occ, hM.from_, hM.onto, hM.uniq, fun t h1 h2 => hM.rest t (by omega) h2, ?_, fun q hq hne h => hM.far q hq hne (fun t ht => h t (by omega))⟩
  intro q c hq hc hoc hd
  rcases hM.path q c hq hc hoc hd with h | ⟨rfl, t, h1, h2, rfl⟩
  · exact .inl h
  · refine .inr ⟨rfl, t, ?_, h2, rfl⟩
    rcases Nat.lt_or_ge (o + 1) t with h | h
    · exact h
    · exfalso
      have : t = o + 1 := by omega
      subst this
      have hm : (T (pos n i0 (o + 1))).1 % n < n := Nat.mod_lt _ (by omega)
      generalize (T (pos n i0 (o + 1))).1 % n = hh at *
      have d1 := dist_cases n (pos n i0 hl) (pos n i0 (o + 1))
      have d2 := dist_cases n hh (pos n i0 (o + 1))
      have d3 := dist_cases n hh (pos n i0 hl)
      omega

theorem mid_move {A : Tab} {n i0 f o hl : Nat} {T : Tab} (hI : Inv A n) (hi : i0 < n) (hf : FirstFree A n i0 f) (ho : o + 1 < f) (hM : Mid A n i0 f o hl T)
    (hmv : dist n (pos n i0 hl) (pos n i0 (o + 1)) ≤ dist n ((T (pos n i0 (o + 1))).1 % n) (pos n i0 (o + 1))) :
    Mid A n i0 f (o + 1) (o + 1) (upd (upd T (pos n i0 hl) (T (pos n i0 (o + 1)))) (pos n i0 (o + 1)) (0, 0)) := by
  have hfl := hf.lt
  have hhl := hM.hle
  have hjl : pos n i0 (o + 1) < n := pos_lt hi (by omega)
  have hhn : pos n i0 hl < n := pos_lt hi (by omega)
  have hne : pos n i0 hl ≠ pos n i0 (o + 1) := fun e => by have := pos_inj hi (by omega) (by omega) e; omega
  have hTj : T (pos n i0 (o + 1)) = A (pos n i0 (o + 1)) := hM.rest _ (by omega) (by omega)
  have hoj : (T (pos n i0 (o + 1))).2 ≠ 0 := by rw [hTj]; exact hf.taken _ (by omega) ho
  have hj0 : pos n i0 (o + 1) ≠ i0 := by have := pos_cases n i0 (o + 1); omega
  generalize hj : pos n i0 (o + 1) = j at *
  generalize hh : pos n i0 hl = h at *
  have eh : upd (upd T h (T j)) j (0, 0) h = T j := by rw [upd_other _ _ _ _ hne, upd_self]
  have ej : upd (upd T h (T j)) j (0, 0) j = (0, 0) := upd_self _ _ _
  have eo : ∀ q, q ≠ h → q ≠ j → upd (upd T h (T j)) j (0, 0) q = T q := fun q h1 h2 => by rw [upd_other _ _ _ _ h2, upd_other _ _ _ _ h1]
  generalize upd (upd T h (T j)) j (0, 0) = U at *
  constructor
  · exact Nat.le_refl _
  · rw [hj]; exact ej
  · intro q hq hqj
    rw [hj] at hqj
    by_cases e : q = h
    · subst e
      rw [eh]
      refine ⟨fun _ => ?_, fun _ => hoj⟩
      by_cases h0 : hl = 0
      · subst h0
        have : q = i0 := by rw [← hh]; have := pos_cases n i0 0; omega
        subst this
        intro hz
        have hp := hI.path j q hjl hq (by rw [← hTj]; exact hoj)
        rw [← hTj] at hp
        refine hp ?_ hz
        have hm : (T j).1 % n < n := Nat.mod_lt _ (by omega)
        have d1 := dist_cases n q j
        have d2 := dist_cases n ((T j).1 % n) j
        have d3 := dist_cases n ((T j).1 % n) q
        omega
      · rw [← hh]; exact hf.taken hl (by omega) (by omega)
    · rw [eo q e hqj]; exact hM.occ q hq (by rw [hh]; exact e)
  · intro q hq hqj hoc
    rw [hj] at hqj
    by_cases e : q = h
    · subst e; rw [eh]; exact ⟨j, hjl, hj0, hTj.symm⟩
    · rw [eo q e hqj] at hoc ⊢; exact hM.from_ q hq (by rw [hh]; exact e) hoc
  · intro q' hq' hq0 hoc
    obtain ⟨q, hq, hqh, e⟩ := hM.onto q' hq' hq0 hoc
    rw [hh] at hqh
    by_cases eq : q = j
    · subst eq; exact ⟨h, hhn, by rw [hj]; exact hne, by rw [eh]; exact e⟩
    · exact ⟨q, hq, by rw [hj]; exact eq, by rw [eo q hqh eq]; exact e⟩
  · intro q r hq hr h1 h2 he
    have hqj : q ≠ j := fun e => by subst e; rw [ej] at h1; exact h1 rfl
    have hrj : r ≠ j := fun e => by subst e; rw [ej] at h2; exact h2 rfl
    by_cases e1 : q = h <;> by_cases e2 : r = h
    · omega
    · subst e1; rw [eh] at he; rw [eo r e2 hrj] at h2 he
      have := hM.uniq j r hjl hr hoj h2 he; omega
    · subst e2; rw [eh] at he; rw [eo q e1 hqj] at h1 he
      have := hM.uniq q j hq hjl h1 hoj he; omega
    · rw [eo q e1 hqj] at h1 he; rw [eo r e2 hrj] at h2 he
      exact hM.uniq q r hq hr h1 h2 he
  · intro t h1 h2
    have a1 : pos n i0 t ≠ h := fun e => by rw [← hh] at e; have := pos_inj hi (by omega) (by omega) e; omega
    have a2 : pos n i0 t ≠ j := fun e => by rw [← hj] at e; have := pos_inj hi (by omega) (by omega) e; omega
    rw [eo _ a1 a2]; exact hM.rest t (by omega) h2
  · intro q c hq hc hoc hd
    have hqj : q ≠ j := fun e => by subst e; rw [ej] at hoc; exact hoc rfl
    -- the free place f
    have hff : (T (pos n i0 f)).2 = 0 := by rw [hM.rest f (by omega) hfl]; exact hf.free
    have hfn : pos n i0 f < n := pos_lt hi hfl
    have hm : (U q).1 % n < n := Nat.mod_lt _ (by omega)
    by_cases ecj : c = j
    · -- c is the new hole
      subst ecj
      right
      refine ⟨hj.symm, dist n i0 q, ?_, ?_, (pos_dist hi hq).symm⟩
      all_goals
        by_cases eqh : q = h
        · -- the moved one: its path does not come to j
          exfalso
          subst eqh
          rw [eh] at hd hm
          have d1 := dist_cases n ((T c).1 % n) c
          have d2 := dist_cases n ((T c).1 % n) q
          have d3 := dist_cases n q c
          omega
        · rw [eo q eqh hqj] at hd hm hoc
          -- q's path in T passes c = pos (o+1); it cannot pass f
          have hnf : ¬ dist n ((T q).1 % n) (pos n i0 f) ≤ dist n ((T q).1 % n) q := by
            intro hle
            rcases hM.path q (pos n i0 f) hq hfn hoc hle with h' | ⟨h', _⟩
            · exact h' hff
            · have := pos_inj hi (by omega) (by omega) h'; omega
          have d1 := dist_cases n ((T q).1 % n) (pos n i0 f)
          have d2 := dist_cases n ((T q).1 % n) q
          have d3 := dist_cases n ((T q).1 % n) c
          have d4 := dist_cases n i0 q
          have d5 := pos_cases n i0 f
          have d6 := pos_cases n i0 (o + 1)
          rw [hj] at d6
          omega
    · left
      by_cases ech : c = h
      · subst ech; rw [eh]; exact hoj
      · rw [eo c ech ecj]
        by_cases eqh : q = h
        · subst eqh
          rw [eh] at hd hm
          have hle : dist n ((T j).1 % n) c ≤ dist n ((T j).1 % n) j := by
            have d1 := dist_cases n ((T j).1 % n) j
            have d2 := dist_cases n ((T j).1 % n) q
            have d3 := dist_cases n q j
            have d4 := dist_cases n ((T j).1 % n) c
            omega
          rcases hM.path j c hjl hc hoj hle with h' | ⟨h', _⟩
          · exact h'
          · rw [hh] at h'; exact absurd h' ech
        · rw [eo q eqh hqj] at hd hoc
          rcases hM.path q c hq hc hoc hd with h' | ⟨h', _⟩
          · exact h'
          · rw [hh] at h'; exact absurd h' ech
  · intro q hq hqj hfar
    rw [hj] at hqj
    have a1 : q ≠ h := by rw [← hh]; exact hfar hl (by omega)
    rw [eo q a1 hqj]
    exact hM.far q hq (by rw [hh]; exact a1) (fun t ht => hfar t (by omega))

theorem mid_all {A : Tab} {n i0 f : Nat} (hI : Inv A n) (hi : i0 < n) (hocc : (A i0).2 ≠ 0) (hf : FirstFree A n i0 f) :
    ∀ o, o < f → ∃ hl, (sbk A n i0 o).1 = pos n i0 hl ∧ Mid A n i0 f o hl (sbk A n i0 o).2 := by
  intro o
  induction o with
  | zero =>
    intro _
    exact ⟨0, by simp only [sbk]; have := pos_cases n i0 0; omega, mid_start hI hi hocc hf⟩
  | succ o ih =>
    intro ho
    obtain ⟨hl, e, hM⟩ := ih (by omega)
    simp only [sbk]
    rw [e]
    split
    · exact ⟨o + 1, rfl, mid_move hI hi hf ho hM (by assumption)⟩
    · exact ⟨hl, e, mid_stay hi hf ho hM (by assumption)⟩

/-- WHAT shiftBack LEAVES -/
theorem sbk_done {A : Tab} {n i0 f : Nat} (hI : Inv A n) (hi : i0 < n) (hocc : (A i0).2 ≠ 0) (hf : FirstFree A n i0 f) :
    Inv (sbk A n i0 (f - 1)).2 n ∧
    (∀ q, q < n → ((sbk A n i0 (f - 1)).2 q).2 ≠ 0 → ∃ q', q' < n ∧ q' ≠ i0 ∧ A q' = (sbk A n i0 (f - 1)).2 q) ∧
    (∀ q', q' < n → q' ≠ i0 → (A q').2 ≠ 0 → ∃ q, q < n ∧ (sbk A n i0 (f - 1)).2 q = A q') := by
  have hp := hf.gt0
  obtain ⟨hl, e, hM⟩ := mid_all hI hi hocc hf (f - 1) (by omega)
  generalize (sbk A n i0 (f - 1)).2 = T at *
  refine ⟨⟨fun q c hq hc ho hd => ?_, hM.uniq⟩, fun q hq ho => ?_, fun q' hq' hne ho => ?_⟩
  · rcases hM.path q c hq hc ho hd with h | ⟨_, t, h1, h2, _⟩
    · exact h
    · omega
  · refine hM.from_ q hq (fun e => ?_) ho
    rw [e, hM.hole] at ho; exact ho rfl
  · obtain ⟨q, hq, _, e⟩ := hM.onto q' hq' hne ho
    exact ⟨q, hq, e⟩

end Go.Proofs.Qxb6601018a
