/-
  PLAIN: an index that grows: its invariant, and what each piece of put and step does to it.
-/
import Derived.Test.Qxb6601018aRem
set_option linter.unusedVariables false
namespace Go.Proofs.Qxb6601018a

structure OldOk (x : Ix) (M : Nat → Nat) (c : Nat) : Prop where
  two : x.om * 2 = x.sz
  pwO : Pw x.om
  o8 : 8 ≤ x.om
  nx : x.nx ≤ x.om
  invO : Inv x.O x.om
  oM : ∀ q, q < x.om → liveB x.O q = true → (x.O q).2 = M (x.O q).1
  disj : ∀ q r, q < x.om → r < x.sz → liveB x.O q = true → (x.P r).2 ≠ 0 → (x.O q).1 ≠ (x.P r).1
  dead : ∀ q, q < x.nx → q < x.om → liveB x.O q = false
  free : ∃ q, q < x.om ∧ (x.O q).2 = 0
  cnt : x.n + cnt (liveB x.O) x.om = c

structure Core (x : Ix) (M : Nat → Nat) (c : Nat) : Prop where
  pw : Pw x.sz
  sz8 : 8 ≤ x.sz
  mod8 : x.sz % 8 = 0
  cle : c ≤ 4096
  szc : x.sz = 8 ∨ 3 * x.sz < 8 * c
  invP : Inv x.P x.sz
  pM : ∀ q, q < x.sz → (x.P q).2 ≠ 0 → (x.P q).2 = M (x.P q).1
  nP : x.n = cnt (occB x.P) x.sz
  nog : ∀ h, M h < gone
  onto : ∀ h, M h ≠ 0 → (∃ q, q < x.sz ∧ x.P q = (h, M h)) ∨ (x.om ≠ 0 ∧ ∃ q, q < x.om ∧ x.O q = (h, M h))
  nil : x.om = 0 → x.n = c
  old : x.om ≠ 0 → OldOk x M c

/-- the load, with s to spare -/
structure Load (x : Ix) (c s : Nat) : Prop where
  nil : x.om = 0 → 4 * c ≤ 3 * x.sz
  old : x.om ≠ 0 → c + (x.om - x.nx) / 32 + cnt (liveB x.O) x.om / 4 ≤ x.om + 2 + s

theorem Core.sz_le {x : Ix} {M : Nat → Nat} {c : Nat} (h : Core x M c) : x.sz ≤ 10922 := by
  have := h.cle; rcases h.szc with e | e <;> omega
theorem Core.om_le {x : Ix} {M : Nat → Nat} {c : Nat} (h : Core x M c) : x.om ≤ 10922 := by
  by_cases h0 : x.om = 0
  · omega
  · have := (h.old h0).two; have := h.sz_le; omega
theorem Core.n_le {x : Ix} {M : Nat → Nat} {c : Nat} (h : Core x M c) : x.n ≤ c := by
  by_cases h0 : x.om = 0
  · have := h.nil h0; omega
  · have := (h.old h0).cnt; omega
theorem Core.free {x : Ix} {M : Nat → Nat} {c : Nat} (h : Core x M c) (hlt : x.n < x.sz) : ∃ q, q < x.sz ∧ (x.P q).2 = 0 := by
  refine free_of_cnt (T := x.P) ?_
  rw [← h.nP]; exact hlt

theorem Core.pnog {x : Ix} {M : Nat → Nat} {c : Nat} (h : Core x M c) : ∀ q, q < x.sz → (x.P q).2 ≠ gone := by
  intro q hq e
  have h0 : (x.P q).2 ≠ 0 := by rw [e]; decide
  have := h.pM q hq h0
  have := h.nog (x.P q).1
  omega

theorem Core.shape {x : Ix} {M : Nat → Nat} {c : Nat} (h : Core x M c) (hlt : x.n < x.sz) : Shape x :=
  ⟨h.pw, by have := h.sz_le; omega, h.free hlt, fun h0 => (h.old h0).pwO, by have := h.om_le; omega, fun h0 => (h.old h0).free⟩

/-- what Lookup answers -/
theorem Core.look {x : Ix} {M : Nat → Nat} {c h m : Nat} (hC : Core x M c) (hl : LookR x h m) : m = M h := by
  obtain ⟨r, hr, hc⟩ := hl
  rcases hc with ⟨h0, e⟩ | ⟨h0, hc⟩
  · have h1 := (hr.at_.resolve_left h0).1
    rw [e, hC.pM r hr.lt h0, h1]
  · have hnP : ∀ q, q < x.sz → (x.P q).1 = h → (x.P q).2 = 0 := by
      intro q hq e
      by_cases hz : (x.P q).2 = 0
      · exact hz
      · exact absurd (hC.invP.absent hr h0 q hq e hz) (hC.pnog q hq)
    rcases hc with ⟨h1, e⟩ | ⟨h1, r', hr', e⟩
    · by_cases hm : M h = 0
      · omega
      · rcases hC.onto h hm with ⟨q, hq, eq⟩ | ⟨h2, _⟩
        · have := hnP q hq (by rw [eq]); rw [eq] at this; exact absurd this hm
        · exact absurd h1 h2
    · have hO := hC.old h1
      by_cases hz : (x.O r').2 = 0
      · by_cases hm : M h = 0
        · omega
        · rcases hC.onto h hm with ⟨q, hq, eq⟩ | ⟨_, q, hq, eq⟩
          · have := hnP q hq (by rw [eq]); rw [eq] at this; exact absurd this hm
          · have := hO.invO.absent hr' hz q hq (by rw [eq]) (by rw [eq]; exact hm)
            rw [eq] at this
            have hg := hC.nog h
            exact absurd this (by show M h ≠ gone; omega)
      · have h3 := hr'.at_.resolve_left hz
        rw [e, hO.oM r' hr'.lt (liveB_true.2 ⟨hz, h3.2⟩), h3.1]

/-! ### release and put -/
def RelR (x : Ix) (h : Nat) (x1 : Ix) : Prop :=
  (x.om = 0 ∧ x1 = x) ∨ (x.om ≠ 0 ∧ ∃ r, IsProbe (stopF x.O h) x.om (h % x.om) r ∧ (((x.O r).2 = 0 ∧ x1 = x) ∨ ((x.O r).2 ≠ 0 ∧ x1 = { x with O := upd x.O r ((x.O r).1, gone) })))

theorem live_gone {O : Tab} {r h q : Nat} : liveB (upd O r (h, gone)) q = true ↔ q ≠ r ∧ liveB O q = true := by
  by_cases e : q = r
  · subst e; simp [liveB, upd_self]
  · simp [liveB, upd_other _ _ _ _ e, e]

theorem cnt_gone {O : Tab} {m r h : Nat} (hr : r < m) (hl : liveB O r = true) : cnt (liveB (upd O r (h, gone))) m + 1 = cnt (liveB O) m := by
  refine (cnt_add hr ?_ hl (fun i hi hne => ?_)).symm
  · simp [liveB, upd_self]
  · simp [liveB, upd_other _ _ _ _ hne]

theorem inv_gone {O : Tab} {m r : Nat} (hI : Inv O m) (hr : r < m) (h0 : (O r).2 ≠ 0) : Inv (upd O r ((O r).1, gone)) m :=
  hI.reloc hr h0 rfl (by decide)

theorem core_put {x x1 : Ix} {M : Nat → Nat} {c h loc r : Nat} (hC : Core x M c) (hloc : loc < 18446744073709551614) (hR : RelR x h x1) (hp : IsProbe (stopP x1.P h) x1.sz (h % x1.sz) r)
    (hc' : c + (if M h = 0 then 1 else 0) ≤ 4096) : Core (putIx x1 r h loc) (setM M h (loc + 1)) (c + (if M h = 0 then 1 else 0)) ∧ cnt (liveB x1.O) x.om ≤ cnt (liveB x.O) x.om := by
  -- what release leaves
  obtain ⟨O1, e1, hO1⟩ : ∃ O1, x1 = { x with O := O1 } ∧ (x.om = 0 ∨ (x.om ≠ 0 ∧ ((O1 = x.O ∧ ∀ q, q < x.om → liveB x.O q = true → (x.O q).1 ≠ h) ∨ ∃ s, s < x.om ∧ liveB x.O s = true ∧ (x.O s).1 = h ∧ O1 = upd x.O s (h, gone)))) := by
    rcases hR with ⟨h0, rfl⟩ | ⟨h0, s, hs, ⟨hz, rfl⟩ | ⟨hz, rfl⟩⟩
    · exact ⟨x1.O, rfl, .inl h0⟩
    · refine ⟨x1.O, rfl, .inr ⟨h0, .inl ⟨rfl, fun q hq hl e => ?_⟩⟩⟩
      have hl := liveB_true.1 hl
      exact hl.2 ((hC.old h0).invO.absent hs hz q hq e hl.1)
    · have h3 := hs.at_.resolve_left hz
      exact ⟨_, rfl, .inr ⟨h0, .inr ⟨s, hs.lt, liveB_true.2 ⟨hz, h3.2⟩, h3.1, by rw [h3.1]⟩⟩⟩
  subst e1
  have hp' : IsProbe (stopP x.P h) x.sz (h % x.sz) r := hp
  clear hp hR
  have hn : 0 < x.sz := by have := hC.sz8; omega
  have hv : loc + 1 ≠ 0 := by omega
  have hg : loc + 1 < gone := by unfold gone; omega
  -- the table P
  have hinvP : Inv (upd x.P r (h, loc + 1)) x.sz := by
    by_cases h0 : (x.P r).2 = 0
    · exact hC.invP.insert hn hp'.lt h0 (fun c hc hd hz => hp'.before c hc hd (.inl hz)) (hC.invP.absentP hp' h0) hv
    · exact hC.invP.reloc hp'.lt h0 (hp'.at_.resolve_left h0) hv
  have hoth : ∀ q, q < x.sz → q ≠ r → (x.P q).2 ≠ 0 → (x.P q).1 ≠ h := by
    intro q hq hne ho e
    by_cases h0 : (x.P r).2 = 0
    · exact hC.invP.absentP hp' h0 q hq ho e
    · exact hne (hC.invP.uniq q r hq hp'.lt ho h0 (e.trans (hp'.at_.resolve_left h0).symm))
  have hcP := cnt_put (A := x.P) (n := x.sz) (K := h) (v := loc + 1) (r := r) hv hp'.lt
  -- is h there?
  have hP0 : (x.P r).2 ≠ 0 → M h = (x.P r).2 ∧ M h ≠ 0 := by
    intro h0
    have := hC.pM r hp'.lt h0
    rw [hp'.at_.resolve_left h0] at this
    exact ⟨this.symm, by omega⟩
  have hP1 : ∀ q, q < x.sz → x.P q = (h, M h) → M h ≠ 0 → (x.P r).2 ≠ 0 := by
    intro q hq e hm h0
    exact hC.invP.absentP hp' h0 q hq (by rw [e]; exact hm) (by rw [e])
  have honto : ∀ h', h ≠ h' → M h' ≠ 0 → (∃ q, q < x.sz ∧ upd x.P r (h, loc + 1) q = (h', M h')) ∨ (x.om ≠ 0 ∧ ∃ q, q < x.om ∧ O1 q = (h', M h')) := by
    intro h' hne hm
    rcases hC.onto h' hm with ⟨q, hq, e⟩ | ⟨h0, q, hq, e⟩
    · have hqr : q ≠ r := by
        intro e'; subst e'
        rcases hp'.at_ with hz | hz
        · rw [e] at hz; exact hm hz
        · rw [e] at hz; exact hne hz.symm
      exact .inl ⟨q, hq, by rw [upd_other _ _ _ _ hqr]; exact e⟩
    · refine .inr ⟨h0, q, hq, ?_⟩
      rcases hO1 with h1 | ⟨_, ⟨e1, _⟩ | ⟨s, _, _, hsh, e1⟩⟩
      · exact absurd h1 h0
      · rw [e1]; exact e
      · have hqs : q ≠ s := fun e' => by subst e'; rw [e] at hsh; exact hne hsh.symm
        rw [e1, upd_other _ _ _ _ hqs]; exact e
  have hpM : ∀ q, q < x.sz → (upd x.P r (h, loc + 1) q).2 ≠ 0 → (upd x.P r (h, loc + 1) q).2 = setM M h (loc + 1) (upd x.P r (h, loc + 1) q).1 := by
    intro q hq ho
    by_cases e : q = r
    · subst e; rw [upd_self]; simp [setM]
    · rw [upd_other _ _ _ _ e] at ho ⊢
      have := hoth q hq e ho
      simp only [setM]; rw [if_neg (Ne.symm this)]; exact hC.pM q hq ho
  have hnog : ∀ h', setM M h (loc + 1) h' < gone := by
    intro h'; simp only [setM]; split
    · exact hg
    · exact hC.nog h'
  have honto' : ∀ h', setM M h (loc + 1) h' ≠ 0 → (∃ q, q < x.sz ∧ upd x.P r (h, loc + 1) q = (h', setM M h (loc + 1) h')) ∨ (x.om ≠ 0 ∧ ∃ q, q < x.om ∧ O1 q = (h', setM M h (loc + 1) h')) := by
    intro h' hm
    by_cases e : h = h'
    · subst e; exact .inl ⟨r, hp'.lt, by rw [upd_self]; simp [setM]⟩
    · have es : setM M h (loc + 1) h' = M h' := by simp only [setM]; rw [if_neg e]
      rw [es] at hm ⊢
      exact honto h' e hm
  have hszc : x.sz = 8 ∨ 3 * x.sz < 8 * (c + (if M h = 0 then 1 else 0)) := by
    rcases hC.szc with e | e
    · exact .inl e
    · right; omega
  refine ⟨⟨hC.pw, hC.sz8, hC.mod8, hc', hszc, hinvP, hpM, ?_, hnog, honto', ?_, ?_⟩, ?_⟩
  · show x.n + _ = cnt (occB (upd x.P r (h, loc + 1))) x.sz
    rw [hcP, hC.nP]
  · intro h0
    have h0' : x.om = 0 := h0
    show x.n + (if (x.P r).2 = 0 then 1 else 0) = _
    rw [hC.nil h0']
    by_cases hz : (x.P r).2 = 0
    · have hm : M h = 0 := by
        by_cases hm : M h = 0
        · exact hm
        · rcases hC.onto h hm with ⟨q, hq, e⟩ | ⟨h1, _⟩
          · exact absurd hz (hP1 q hq e hm)
          · exact absurd h0' h1
      rw [if_pos hz, if_pos hm]
    · rw [if_neg hz, if_neg (hP0 hz).2]
  · intro h0
    have h0' : x.om ≠ 0 := h0
    have hO := hC.old h0'
    rcases hO1 with h1 | ⟨_, ⟨rfl, hno⟩ | ⟨s, hs, hsl, hsh, rfl⟩⟩
    · exact absurd h1 h0'
    · -- h was not in the old table
      refine ⟨hO.two, hO.pwO, hO.o8, hO.nx, hO.invO, fun q hq hl => ?_, fun q r' hq hr' hl ho => ?_, hO.dead, hO.free, ?_⟩
      · have := hno q hq hl
        show (x.O q).2 = setM M h (loc + 1) (x.O q).1
        simp only [setM]; rw [if_neg (Ne.symm this)]; exact hO.oM q hq hl
      · show (x.O q).1 ≠ (upd x.P r (h, loc + 1) r').1
        have ho' : (upd x.P r (h, loc + 1) r').2 ≠ 0 := ho
        by_cases e : r' = r
        · subst e; rw [upd_self]; exact hno q hq hl
        · rw [upd_other _ _ _ _ e] at ho' ⊢; exact hO.disj q r' hq hr' hl ho'
      · show x.n + (if (x.P r).2 = 0 then 1 else 0) + cnt (liveB x.O) x.om = _
        have := hO.cnt
        by_cases hz : (x.P r).2 = 0
        · have hm : M h = 0 := by
            by_cases hm : M h = 0
            · exact hm
            · rcases hC.onto h hm with ⟨q, hq, e⟩ | ⟨h1, q, hq, e⟩
              · exact absurd hz (hP1 q hq e hm)
              · exact absurd (show (x.O q).1 = h by rw [e]) (hno q hq (liveB_true.2 ⟨by rw [e]; exact hm, by rw [e]; have := hC.nog h; show M h ≠ gone; omega⟩))
          rw [if_pos hz, if_pos hm]; omega
        · rw [if_neg hz, if_neg (hP0 hz).2]; omega
    · -- h was in the old table, and is gone there
      have hz : (x.P r).2 = 0 := by
        by_cases hz : (x.P r).2 = 0
        · exact hz
        · exact absurd (hsh.trans (hp'.at_.resolve_left hz).symm) (hO.disj s r hs hp'.lt hsl hz)
      have hmh : M h ≠ 0 := by
        have := hO.oM s hs hsl
        rw [hsh] at this
        have := (liveB_true.1 hsl).1
        omega
      have hsn : (x.O s).2 ≠ 0 := (liveB_true.1 hsl).1
      have huniq : ∀ q, q < x.om → q ≠ s → liveB x.O q = true → (x.O q).1 ≠ h := fun q hq hne hl e =>
        hne (hO.invO.uniq q s hq hs (liveB_true.1 hl).1 hsn (e.trans hsh.symm))
      refine ⟨hO.two, hO.pwO, hO.o8, hO.nx, ?_, fun q hq hl => ?_, fun q r' hq hr' hl ho => ?_, fun q h1 h2 => ?_, ?_, ?_⟩
      · have := inv_gone hO.invO hs hsn
        rw [hsh] at this; exact this
      · obtain ⟨hne, hl'⟩ := live_gone.1 hl
        show (upd x.O s (h, gone) q).2 = setM M h (loc + 1) (upd x.O s (h, gone) q).1
        rw [upd_other _ _ _ _ hne]
        simp only [setM]; rw [if_neg (Ne.symm (huniq q hq hne hl'))]; exact hO.oM q hq hl'
      · obtain ⟨hne, hl'⟩ := live_gone.1 hl
        show (upd x.O s (h, gone) q).1 ≠ (upd x.P r (h, loc + 1) r').1
        have ho' : (upd x.P r (h, loc + 1) r').2 ≠ 0 := ho
        rw [upd_other _ _ _ _ hne]
        by_cases e : r' = r
        · subst e; rw [upd_self]; exact huniq q hq hne hl'
        · rw [upd_other _ _ _ _ e] at ho' ⊢; exact hO.disj q r' hq hr' hl' ho'
      · show liveB (upd x.O s (h, gone)) q = false
        cases hb : liveB (upd x.O s (h, gone)) q with
        | false => rfl
        | true =>
          have := (live_gone.1 hb).2
          rw [hO.dead q h1 h2] at this; exact absurd this (by decide)
      · obtain ⟨q, hq, hq0⟩ := hO.free
        refine ⟨q, hq, ?_⟩
        show (upd x.O s (h, gone) q).2 = 0
        rw [upd_other _ _ _ _ (fun e => by subst e; exact hsn hq0)]; exact hq0
      · show x.n + (if (x.P r).2 = 0 then 1 else 0) + cnt (liveB (upd x.O s (h, gone))) x.om = _
        have := hO.cnt
        have := cnt_gone (h := h) hs hsl
        rw [if_pos hz, if_neg hmh]; omega
  · show cnt (liveB O1) x.om ≤ _
    rcases hO1 with h1 | ⟨_, ⟨rfl, hno⟩ | ⟨s, hs, hsl, hsh, rfl⟩⟩
    · rw [h1]; exact Nat.le_refl _
    · exact Nat.le_refl _
    · have := cnt_gone (h := h) hs hsl
      omega

/-! ### step -/
theorem core_skip {x : Ix} {M : Nat → Nat} {c : Nat} (hC : Core x M c) (h0 : x.om ≠ 0) (hn : x.nx < x.om) (hd : liveB x.O x.nx = false) : Core { x with nx := x.nx + 1 } M c := by
  have hO := hC.old h0
  refine ⟨hC.pw, hC.sz8, hC.mod8, hC.cle, hC.szc, hC.invP, hC.pM, hC.nP, hC.nog, hC.onto, hC.nil, fun _ => ⟨hO.two, hO.pwO, hO.o8, hn, hO.invO, hO.oM, hO.disj, fun q h1 h2 => ?_, hO.free, hO.cnt⟩⟩
  have h1' : q < x.nx + 1 := h1
  by_cases e : q = x.nx
  · subst e; exact hd
  · exact hO.dead q (by omega) h2

theorem core_move {x : Ix} {M : Nat → Nat} {c r : Nat} (hC : Core x M c) (h0 : x.om ≠ 0) (hn : x.nx < x.om) (hl : liveB x.O x.nx = true) (hp : IsProbe (stopE x.P) x.sz ((x.O x.nx).1 % x.sz) r) :
    Core { x with nx := x.nx + 1, O := upd x.O x.nx ((x.O x.nx).1, gone), P := upd x.P r (x.O x.nx), n := x.n + 1 } M c := by
  have hO := hC.old h0
  have hsn : (x.O x.nx).2 ≠ 0 := (liveB_true.1 hl).1
  have hnP : ∀ q, q < x.sz → (x.P q).2 ≠ 0 → (x.P q).1 ≠ (x.O x.nx).1 := fun q hq ho => Ne.symm (hO.disj x.nx q hn hq hl ho)
  have hz : (x.P r).2 = 0 := hp.at_
  have huniq : ∀ q, q < x.om → q ≠ x.nx → liveB x.O q = true → (x.O q).1 ≠ (x.O x.nx).1 := fun q hq hne hl' e =>
    hne (hO.invO.uniq q x.nx hq hn (liveB_true.1 hl').1 hsn e)
  have hpn : 0 < x.sz := by have := hC.sz8; omega
  have hval := hO.oM x.nx hn hl
  refine ⟨hC.pw, hC.sz8, hC.mod8, hC.cle, hC.szc, ?_, fun q hq ho => ?_, ?_, hC.nog, fun h' hm => ?_, fun h => absurd h h0, fun _ => ⟨hO.two, hO.pwO, hO.o8, hn, inv_gone hO.invO hn hsn, fun q hq hl' => ?_, fun q r' hq hr' hl' ho => ?_, fun q h1 h2 => ?_, ?_, ?_⟩⟩
  · exact hC.invP.insert (p := x.O x.nx) hpn hp.lt hz (fun c hc hd hz' => hp.before c hc hd hz') hnP hsn
  · show (upd x.P r (x.O x.nx) q).2 = M (upd x.P r (x.O x.nx) q).1
    have ho' : (upd x.P r (x.O x.nx) q).2 ≠ 0 := ho
    by_cases e : q = r
    · subst e; rw [upd_self]; exact hval
    · rw [upd_other _ _ _ _ e] at ho' ⊢; exact hC.pM q hq ho'
  · show x.n + 1 = cnt (occB (upd x.P r (x.O x.nx))) x.sz
    have := cnt_put (A := x.P) (n := x.sz) (K := (x.O x.nx).1) (v := (x.O x.nx).2) (r := r) hsn hp.lt
    rw [if_pos hz, ← hC.nP] at this
    exact this.symm
  · rcases hC.onto h' hm with ⟨q, hq, e⟩ | ⟨_, q, hq, e⟩
    · refine .inl ⟨q, hq, ?_⟩
      show upd x.P r (x.O x.nx) q = _
      rw [upd_other _ _ _ _ (fun e' => by subst e'; rw [e] at hz; exact hm hz)]; exact e
    · by_cases eq : q = x.nx
      · refine .inl ⟨r, hp.lt, ?_⟩
        show upd x.P r (x.O x.nx) r = _
        rw [upd_self, ← eq]; exact e
      · refine .inr ⟨h0, q, hq, ?_⟩
        show upd x.O x.nx ((x.O x.nx).1, gone) q = _
        rw [upd_other _ _ _ _ eq]; exact e
  · obtain ⟨hne, hl2⟩ := live_gone.1 hl'
    show (upd x.O x.nx ((x.O x.nx).1, gone) q).2 = M (upd x.O x.nx ((x.O x.nx).1, gone) q).1
    rw [upd_other _ _ _ _ hne]; exact hO.oM q hq hl2
  · obtain ⟨hne, hl2⟩ := live_gone.1 hl'
    show (upd x.O x.nx ((x.O x.nx).1, gone) q).1 ≠ (upd x.P r (x.O x.nx) r').1
    have ho' : (upd x.P r (x.O x.nx) r').2 ≠ 0 := ho
    rw [upd_other _ _ _ _ hne]
    by_cases e : r' = r
    · subst e; rw [upd_self]; exact huniq q hq hne hl2
    · rw [upd_other _ _ _ _ e] at ho' ⊢; exact hO.disj q r' hq hr' hl2 ho'
  · show liveB (upd x.O x.nx ((x.O x.nx).1, gone)) q = false
    have h1' : q < x.nx + 1 := h1
    cases hb : liveB (upd x.O x.nx ((x.O x.nx).1, gone)) q with
    | false => rfl
    | true =>
      obtain ⟨hne, hl2⟩ := live_gone.1 hb
      rw [hO.dead q (by omega) h2] at hl2; exact absurd hl2 (by decide)
  · obtain ⟨q, hq, hq0⟩ := hO.free
    refine ⟨q, hq, ?_⟩
    show (upd x.O x.nx ((x.O x.nx).1, gone) q).2 = 0
    rw [upd_other _ _ _ _ (fun e => by rw [e] at hq0; exact hsn hq0)]; exact hq0
  · show x.n + 1 + cnt (liveB (upd x.O x.nx ((x.O x.nx).1, gone))) x.om = c
    have := hO.cnt
    have := cnt_gone (h := (x.O x.nx).1) hn hl
    omega

theorem core_close {x : Ix} {M : Nat → Nat} {c : Nat} (hC : Core x M c) (h0 : x.om ≠ 0) (hn : x.nx = x.om) : Core { x with om := 0 } M c := by
  have hO := hC.old h0
  have hd : ∀ q, q < x.om → liveB x.O q = false := fun q hq => hO.dead q (by omega) hq
  refine ⟨hC.pw, hC.sz8, hC.mod8, hC.cle, hC.szc, hC.invP, hC.pM, hC.nP, hC.nog, fun h' hm => ?_, fun _ => ?_, fun h => absurd rfl h⟩
  · rcases hC.onto h' hm with hh | ⟨_, q, hq, e⟩
    · exact .inl hh
    · have hl : liveB x.O q = true := liveB_true.2 ⟨by rw [e]; exact hm, by rw [e]; have := hC.nog h'; show M h' ≠ gone; omega⟩
      rw [hd q hq] at hl; exact absurd hl (by decide)
  · show x.n = c
    have := hO.cnt
    rw [cnt_zero hd] at this; omega

/-! ### resize -/
def resized (x : Ix) : Ix := { sz := 2 * x.sz, n := 0, om := x.sz, nx := 0, P := emptyTab, O := x.P }

theorem core_resize {x : Ix} {M : Nat → Nat} {c : Nat} (hC : Core x M c) (h0 : x.om = 0) (hlt : c < x.sz) (hgt : 3 * (2 * x.sz) < 8 * c) : Core (resized x) M c ∧ cnt (liveB x.P) x.sz = c := by
  have h8 := hC.sz8
  have hm8 := hC.mod8
  have hle := hC.sz_le
  have hocc : ∀ q, q < x.sz → liveB x.P q = occB x.P q := by
    intro q hq
    have := hC.pnog q hq
    simp [liveB, occB, this]
  have hcnt : cnt (liveB x.P) x.sz = c := by rw [cnt_congr hocc, ← hC.nP]; exact hC.nil h0
  refine ⟨⟨hC.pw.double (by omega), show 8 ≤ 2 * x.sz by omega, show 2 * x.sz % 8 = 0 by omega, hC.cle, .inr hgt, ⟨fun q c _ _ h => absurd rfl h, fun q r _ _ h => absurd rfl h⟩, fun q _ h => absurd rfl h, ?_, hC.nog, fun h' hm => ?_, fun h => ?_, fun _ => ?_⟩, hcnt⟩
  · show 0 = cnt (occB emptyTab) (2 * x.sz)
    rw [cnt_zero (p := occB emptyTab) (fun i _ => rfl)]
  · rcases hC.onto h' hm with ⟨q, hq, e⟩ | ⟨h1, _⟩
    · exact .inr ⟨show x.sz ≠ 0 by omega, q, hq, e⟩
    · exact absurd h0 h1
  · have : x.sz = 0 := h
    omega
  · refine ⟨show x.sz * 2 = 2 * x.sz by omega, hC.pw, h8, Nat.zero_le _, hC.invP, fun q hq hl => hC.pM q hq (liveB_true.1 hl).1, fun q r _ _ _ h => absurd rfl h, fun q h => absurd h (Nat.not_lt_zero _), hC.free (by rw [hC.nil h0]; exact hlt), ?_⟩
    show 0 + cnt (liveB x.P) x.sz = c
    omega

end Go.Proofs.Qxb6601018a
