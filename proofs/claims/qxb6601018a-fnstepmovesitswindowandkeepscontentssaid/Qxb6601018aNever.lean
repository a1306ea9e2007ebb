/-
  PLAIN MATHEMATICS: shiftBack leaves the table as if the key had never been put. No Go, no program.
-/
import Derived.Test.Qxb6601018aShift
set_option linter.unusedVariables false
namespace Go.Proofs.Qxb6601018a

structure Nice (A : Tab) (n : Nat) : Prop where
  inv : Inv A n
  zero : ∀ q, (A q).2 = 0 → A q = (0, 0)
  out : ∀ q, n ≤ q → (A q).2 = 0

theorem upd_comm (T : Tab) {a b : Nat} (x y : Nat × Nat) (h : a ≠ b) : upd (upd T a x) b y = upd (upd T b y) a x := by
  funext q; simp only [upd]; by_cases h1 : q = a <;> by_cases h2 : q = b <;> simp [h1, h2] <;> omega
theorem upd_twice (T : Tab) (a : Nat) (x y : Nat × Nat) : upd (upd T a x) a y = upd T a y := by
  funext q; simp only [upd]; by_cases h1 : q = a <;> simp [h1]
theorem upd_same (T : Tab) (a : Nat) (x : Nat × Nat) (h : T a = x) : upd T a x = T := by
  funext q; simp only [upd]; by_cases h1 : q = a
  · simp [h1, h]
  · simp [h1]

def setLoc (T : Tab) (K v : Nat) : Tab := fun p => if (T p).2 ≠ 0 ∧ (T p).1 = K then (K, v) else T p

theorem setLoc_fst (T : Tab) (K v q : Nat) : (setLoc T K v q).1 = (T q).1 := by
  unfold setLoc; split
  · rename_i h; exact h.2.symm
  · rfl
theorem setLoc_upd_zero (T : Tab) (K v i : Nat) : upd (setLoc T K v) i (0, 0) = setLoc (upd T i (0, 0)) K v := by
  funext q; simp only [upd, setLoc]; by_cases h : q = i <;> simp [h]
theorem setLoc_upd (T : Tab) (K v i j : Nat) : upd (setLoc T K v) i (setLoc T K v j) = setLoc (upd T i (T j)) K v := by
  funext q; simp only [upd, setLoc]; by_cases h : q = i <;> simp [h]

theorem sbk_setLoc (A : Tab) (n i0 K v : Nat) (o : Nat) : sbk (setLoc A K v) n i0 o = ((sbk A n i0 o).1, setLoc (sbk A n i0 o).2 K v) := by
  induction o with
  | zero => simp only [sbk]; rw [setLoc_upd_zero]
  | succ o ih =>
    simp only [sbk]
    rw [ih]
    simp only [setLoc_fst]
    split
    · rw [setLoc_upd, setLoc_upd_zero]
    · rfl

theorem upd_setLoc {A : Tab} {n r K v : Nat} (hN : Nice A n) (hr : r < n) (h0 : (A r).2 ≠ 0) (hK : (A r).1 = K) : upd A r (K, v) = setLoc A K v := by
  funext q; simp only [upd, setLoc]
  by_cases h : q = r
  · subst h; simp [h0, hK]
  · rw [if_neg h, if_neg]
    rintro ⟨h1, h2⟩
    have hq : q < n := by
      rcases Nat.lt_or_ge q n with hl | hl
      · exact hl
      · exact absurd (hN.out q hl) h1
    exact h (hN.inv.uniq q r hq hr h1 h0 (h2.trans hK.symm))

theorem hole_le (A : Tab) (n i0 : Nat) (hi : i0 < n) (o : Nat) : ∃ t, t ≤ o ∧ (sbk A n i0 o).1 = pos n i0 t := by
  induction o with
  | zero => exact ⟨0, Nat.le_refl _, by simp only [sbk]; have := pos_cases n i0 0; omega⟩
  | succ o ih =>
    simp only [sbk]
    split
    · exact ⟨o + 1, Nat.le_refl _, rfl⟩
    · obtain ⟨t, h1, h2⟩ := ih; exact ⟨t, by omega, h2⟩

theorem sbk_ins (A : Tab) (n i0 p : Nat) (e : Nat × Nat) (hi : i0 < n) (o : Nat) (hp : ∀ t, t ≤ o → p ≠ pos n i0 t) :
    sbk (upd A p e) n i0 o = ((sbk A n i0 o).1, upd (sbk A n i0 o).2 p e) := by
  induction o with
  | zero =>
    have h0 : p ≠ i0 := by have := hp 0 (Nat.le_refl _); have h := pos_cases n i0 0; omega
    simp only [sbk]; rw [upd_comm _ _ _ h0]
  | succ o ih =>
    have ih := ih (fun t ht => hp t (by omega))
    have hj := hp (o + 1) (Nat.le_refl _)
    obtain ⟨t, ht, eh⟩ := hole_le A n i0 hi o
    have hh := hp t (by omega)
    simp only [sbk]
    rw [ih]
    simp only []
    rw [upd_other _ _ _ _ (Ne.symm hj)]
    split
    · simp only []
      rw [upd_comm (sbk A n i0 o).2 (a := p) (b := (sbk A n i0 o).1) _ _ (by rw [eh]; exact hh), upd_comm _ (a := p) _ _ hj]
    · rfl

theorem firstFree_exists {A : Tab} {n i0 : Nat} (hi : i0 < n) (hex : ∃ q, q < n ∧ q ≠ i0 ∧ (A q).2 = 0) : ∃ f, FirstFree A n i0 f := by
  obtain ⟨q, hq, hne, h0⟩ := hex
  have hqd : (A (pos n i0 (dist n i0 q))).2 = 0 := by rw [pos_dist hi hq]; exact h0
  have hdl := dist_lt hi hq
  have hd0 : 0 < dist n i0 q := by have := dist_cases n i0 q; omega
  generalize dist n i0 q = m at *
  clear h0 hne hq q
  induction m using Nat.strongRecOn with
  | _ m ih =>
    by_cases h : ∃ t, 0 < t ∧ t < m ∧ (A (pos n i0 t)).2 = 0
    · obtain ⟨t, h1, h2, h3⟩ := h
      exact ih t h2 h3 (by omega) h1
    · exact ⟨m, hd0, hdl, hqd, fun t h1 h2 h3 => h ⟨t, h1, h2, h3⟩⟩

/-- two free places -/
theorem free_two {A : Tab} {n r : Nat} (hc : cnt (occB A) n + 1 < n) : ∃ q, q < n ∧ q ≠ r ∧ (A q).2 = 0 := by
  by_cases hr : r < n
  · have h1 : cnt (fun q => occB A q || q == r) n ≤ cnt (occB A) n + 1 := by
      by_cases hor : occB A r = true
      · have : cnt (fun q => occB A q || q == r) n = cnt (occB A) n := cnt_congr (fun i hi => by
          by_cases e : i = r
          · subst e; simp [hor]
          · simp [e])
        omega
      · have := cnt_add (p := occB A) (q := fun q => occB A q || q == r) hr (by simpa using hor) (by simp) (fun i hi hne => by simp [hne])
        omega
    obtain ⟨q, hq, h⟩ := cnt_free (p := fun q => occB A q || q == r) (n := n) (by omega)
    simp at h
    exact ⟨q, hq, h.2, occB_false.1 h.1⟩
  · obtain ⟨q, hq, h⟩ := cnt_free (p := occB A) (n := n) (by omega)
    exact ⟨q, hq, by omega, occB_false.1 h⟩

theorem sbk_out (A : Tab) (n i0 : Nat) (hi : i0 < n) (o : Nat) (ho : o < n) (q : Nat) (hq : n ≤ q) : (sbk A n i0 o).2 q = A q := by
  induction o with
  | zero => simp only [sbk]; rw [upd_other _ _ _ _ (by omega)]
  | succ o ih =>
    have ih := ih (by omega)
    obtain ⟨t, ht, eh⟩ := hole_le A n i0 hi o
    have h1 := pos_lt hi (show t < n by omega)
    have h2 := pos_lt hi ho
    simp only [sbk]
    split
    · simp only []
      rw [upd_other _ _ _ _ (by omega), upd_other _ _ _ _ (by omega)]; exact ih
    · exact ih

/-- A: the table with the puts of d; B: the table without them -/
def DelRel (A B : Tab) (n d : Nat) : Prop :=
  ((∀ q, q < n → (A q).2 ≠ 0 → (A q).1 ≠ d) ∧ B = A) ∨
  ∃ i0 f, i0 < n ∧ (A i0).2 ≠ 0 ∧ (A i0).1 = d ∧ FirstFree A n i0 f ∧ B = (sbk A n i0 (f - 1)).2

theorem nice_put {A : Tab} {n K v r : Nat} (hN : Nice A n) (hn : 0 < n) (hv : v ≠ 0) (hp : IsProbe (stopP A K) n (K % n) r) : Nice (upd A r (K, v)) n := by
  have hinv : Inv (upd A r (K, v)) n := by
    by_cases h0 : (A r).2 = 0
    · refine hN.inv.insert hn hp.lt h0 (fun c hc hd => ?_) (hN.inv.absentP hp h0) hv
      intro hz; exact hp.before c hc hd (.inl hz)
    · exact hN.inv.reloc hp.lt h0 (hp.at_.resolve_left h0) hv
  refine ⟨hinv, fun q hq => ?_, fun q hq => ?_⟩
  · by_cases e : q = r
    · subst e; rw [upd_self] at hq; exact absurd hq hv
    · rw [upd_other _ _ _ _ e] at hq ⊢; exact hN.zero q hq
  · have := hp.lt
    rw [upd_other _ _ _ _ (by omega)]; exact hN.out q hq

theorem cnt_put {A : Tab} {n K v r : Nat} (hv : v ≠ 0) (hr : r < n) : cnt (occB (upd A r (K, v))) n = cnt (occB A) n + (if (A r).2 = 0 then 1 else 0) := by
  split
  · rename_i h0
    exact cnt_add hr (occB_false.2 h0) (by simp [occB, upd_self, hv]) (fun i hi hne => by simp [occB, upd_other _ _ _ _ hne])
  · rename_i h0
    refine cnt_congr (fun i hi => ?_)
    by_cases e : i = r
    · subst e
      have a1 : (v == 0) = false := by simp [hv]
      have a2 : ((A i).2 == 0) = false := by simp [h0]
      simp only [occB, upd_self, a1, a2]
    · simp [occB, upd_other _ _ _ _ e]

/-- a put of d, in A alone -/
theorem del_put_d {A B : Tab} {n d v r : Nat} (hN : Nice A n) (hn : 0 < n) (hv : v ≠ 0) (hc : cnt (occB A) n + 1 < n) (hD : DelRel A B n d)
    (hp : IsProbe (stopP A d) n (d % n) r) : DelRel (upd A r (d, v)) B n d := by
  have hr := hp.lt
  rcases hD with ⟨hno, rfl⟩ | ⟨i0, f, hi, ho, hd, hf, rfl⟩
  · right
    have h0 : (B r).2 = 0 := by
      rcases hp.at_ with h | h
      · exact h
      · by_cases h0 : (B r).2 = 0
        · exact h0
        · exact absurd h (hno r hr h0)
    obtain ⟨q, hq, hqr, hq0⟩ := free_two (r := r) hc
    obtain ⟨f, hf⟩ := firstFree_exists (A := upd B r (d, v)) hr ⟨q, hq, hqr, by rw [upd_other _ _ _ _ hqr]; exact hq0⟩
    refine ⟨r, f, hr, by rw [upd_self]; exact hv, by rw [upd_self], hf, ?_⟩
    have key : ∀ o, o < f → sbk (upd B r (d, v)) n r o = (r, B) := by
      intro o
      induction o with
      | zero =>
        intro _; simp only [sbk]
        rw [upd_twice, upd_same B r (0, 0) (hN.zero r h0)]
      | succ o ih =>
        intro ho
        simp only [sbk]
        rw [ih (by omega)]
        rw [if_neg]
        intro hle
        simp only [] at hle
        have hfl := hf.lt
        have hj := pos_lt hr (show o + 1 < n by omega)
        have hne : pos n r (o + 1) ≠ r := by have := pos_cases n r (o + 1); omega
        have hocc := hf.taken (o + 1) (by omega) ho
        rw [upd_other _ _ _ _ hne] at hocc
        refine hN.inv.path (pos n r (o + 1)) r hj hr hocc ?_ h0
        have hm : (B (pos n r (o + 1))).1 % n < n := Nat.mod_lt _ hn
        have d1 := dist_cases n r (pos n r (o + 1))
        have d2 := dist_cases n ((B (pos n r (o + 1))).1 % n) (pos n r (o + 1))
        have d3 := dist_cases n ((B (pos n r (o + 1))).1 % n) r
        omega
    have hf0 := hf.gt0
    rw [key (f - 1) (by omega)]
  · right
    have h0 : (A r).2 ≠ 0 := fun h0 => hN.inv.absentP hp h0 i0 hi ho hd
    have hri : r = i0 := hN.inv.uniq r i0 hr hi h0 ho ((hp.at_.resolve_left h0).trans hd.symm)
    subst hri
    refine ⟨r, f, hr, by rw [upd_self]; exact hv, by rw [upd_self], ?_, ?_⟩
    · have hne : ∀ t, 0 < t → t < n → pos n r t ≠ r := fun t h1 h2 => by have := pos_cases n r t; omega
      have hfl := hf.lt
      exact ⟨hf.gt0, hf.lt, by rw [upd_other _ _ _ _ (hne f hf.gt0 hf.lt)]; exact hf.free, fun t h1 h2 => by rw [upd_other _ _ _ _ (hne t h1 (by omega))]; exact hf.taken t h1 h2⟩
    · have : ∀ o, sbk (upd A r (d, v)) n r o = sbk A n r o := by
        intro o
        induction o with
        | zero => simp only [sbk]; rw [upd_twice]
        | succ o ih => simp only [sbk]; rw [ih]
      rw [this]

/-- the hole stays where it is behind the place that was free -/
theorem stay_later {A U : Tab} {n i0 f f' u : Nat} (hI : Inv A n) (hn : 0 < n) (hi : i0 < n) (hff : (A (pos n i0 f)).2 = 0) (hfn : f < n) (hu : u ≤ f) (hf' : f' < n)
    (hS : (sbk U n i0 f).1 = pos n i0 u) (hrest : ∀ t, f < t → t < f' → (sbk U n i0 f).2 (pos n i0 t) = A (pos n i0 t)) (hocc : ∀ t, f < t → t < f' → (A (pos n i0 t)).2 ≠ 0) :
    ∀ k, f + k < f' → sbk U n i0 (f + k) = sbk U n i0 f := by
  intro k
  induction k with
  | zero => intro _; rfl
  | succ k ih =>
    intro hk
    have ih := ih (by omega)
    rw [show f + (k + 1) = (f + k) + 1 by omega]
    simp only [sbk]
    rw [ih, hS, hrest (f + k + 1) (by omega) (by omega), if_neg]
    intro hle
    have ht := pos_lt hi (show f + k + 1 < n by omega)
    have ho := hocc (f + k + 1) (by omega) (by omega)
    refine hI.path (pos n i0 (f + k + 1)) (pos n i0 f) ht (pos_lt hi hfn) ho ?_ hff
    have hm : (A (pos n i0 (f + k + 1))).1 % n < n := Nat.mod_lt _ hn
    generalize (A (pos n i0 (f + k + 1))).1 % n = hh at *
    have d1 := dist_cases n (pos n i0 u) (pos n i0 (f + k + 1))
    have d2 := dist_cases n hh (pos n i0 (f + k + 1))
    have d3 := dist_cases n hh (pos n i0 f)
    have p1 := pos_cases n i0 u
    have p2 := pos_cases n i0 f
    have p3 := pos_cases n i0 (f + k + 1)
    omega

/-- a put of another key, in both -/
theorem del_put_other {A B : Tab} {n d K v r r' : Nat} (hN : Nice A n) (hn : 0 < n) (hv : v ≠ 0) (hK : K ≠ d) (hc : cnt (occB A) n + 1 < n) (hD : DelRel A B n d)
    (hp : IsProbe (stopP A K) n (K % n) r) (hp' : IsProbe (stopP B K) n (K % n) r') : DelRel (upd A r (K, v)) (upd B r' (K, v)) n d := by
  have hr := hp.lt
  have hKn : K % n < n := Nat.mod_lt _ hn
  rcases hD with ⟨hno, rfl⟩ | ⟨i0, f, hi, ho, hd, hf, rfl⟩
  · left
    have : r = r' := IsProbe.unique hKn hp hp'
    subst this
    refine ⟨fun q hq hoc => ?_, rfl⟩
    by_cases e : q = r
    · subst e; rw [upd_self]; exact hK
    · rw [upd_other _ _ _ _ e] at hoc ⊢; exact hno q hq hoc
  · right
    have hfl := hf.lt
    have hf0 := hf.gt0
    have hdone := sbk_done hN.inv hi ho hf
    obtain ⟨hl, ehl, hM⟩ := mid_all hN.inv hi ho hf (f - 1) (by omega)
    have hhle := hM.hle
    have hri : r ≠ i0 := by
      intro e; subst e
      rcases hp.at_ with h | h
      · exact ho h
      · exact hK (h.symm.trans hd)
    by_cases h0 : (A r).2 = 0
    · -- a new key
      have habs := hN.inv.absentP hp h0
      have hAr := hN.zero r h0
      -- r lies at an offset of f or more
      have hdr := dist_lt hi hr
      have hpr := pos_dist hi hr
      have hge : f ≤ dist n i0 r := by
        rcases Nat.lt_or_ge (dist n i0 r) f with h | h
        · exfalso
          have h1 : 0 < dist n i0 r := by have := dist_cases n i0 r; omega
          exact hf.taken _ h1 h (by rw [hpr]; exact h0)
        · exact h
      have hnp : ∀ t, t ≤ f - 1 → r ≠ pos n i0 t := fun t ht e => by
        have := pos_inj hi (show dist n i0 r < n from hdr) (by omega) (hpr.trans e); omega
      have hins := sbk_ins A n i0 r (K, v) hi (f - 1) hnp
      have hSr : (sbk A n i0 (f - 1)).2 r = (0, 0) := by
        rw [hM.far r hr (hnp hl (by omega)) (fun t ht => hnp t ht)]; exact hAr
      have hnoK : ∀ c, c < n → ((sbk A n i0 (f - 1)).2 c).2 ≠ 0 → ((sbk A n i0 (f - 1)).2 c).1 ≠ K := by
        intro c hcn hoc e
        obtain ⟨q', hq', _, eq⟩ := hdone.2.1 c hcn hoc
        refine habs q' hq' (by rw [eq]; exact hoc) (by rw [eq]; exact e)
      have hbefore : ∀ c, c < n → dist n (K % n) c < dist n (K % n) r → c ≠ pos n i0 hl → ¬ stopP (sbk A n i0 (f - 1)).2 K c := by
        intro c hcn hdc hch hs
        have hoA : (A c).2 ≠ 0 := fun h => hp.before c hcn hdc (.inl h)
        have hoS := (hM.occ c hcn hch).2 hoA
        rcases hs with h | h
        · exact hoS h
        · exact hnoK c hcn hoS h
      have hhn : pos n i0 hl < n := pos_lt hi (by omega)
      have hpf : pos n i0 f < n := pos_lt hi hfl
      generalize hS : (sbk A n i0 (f - 1)).2 = S at *
      by_cases hcase : r = pos n i0 f
      · -- it lies at the place that ends the run
        obtain ⟨q, hq, hqr, hq0⟩ := free_two (r := r) hc
        have hqi : q ≠ i0 := fun e => by subst e; exact ho hq0
        obtain ⟨f', hf'⟩ := firstFree_exists (A := upd A r (K, v)) hi ⟨q, hq, hqi, by rw [upd_other _ _ _ _ hqr]; exact hq0⟩
        have hf'l := hf'.lt
        have hff' : f < f' := by
          rcases Nat.lt_or_ge f f' with h | h
          · exact h
          · exfalso
            have hz := hf'.free
            by_cases e : f' = f
            · subst e; rw [← hcase, upd_self] at hz; exact hv hz
            · have hne : pos n i0 f' ≠ r := fun e' => by have := pos_inj hi (by omega) (by omega) (e'.trans hcase); omega
              rw [upd_other _ _ _ _ hne] at hz
              exact hf.taken f' hf'.gt0 (by omega) hz
        have hocc2 : ∀ t, f < t → t < f' → (A (pos n i0 t)).2 ≠ 0 := fun t h1 h2 => by
          have := hf'.taken t (by omega) h2
          have hne : pos n i0 t ≠ r := fun e' => by have := pos_inj hi (by omega) (by omega) (e'.trans hcase); omega
          rwa [upd_other _ _ _ _ hne] at this
        have hrS : ∀ t, f < t → t < n → S (pos n i0 t) = A (pos n i0 t) := fun t h1 h2 => hM.rest t (by omega) h2
        have estep : sbk (upd A r (K, v)) n i0 f = if dist n (pos n i0 hl) r ≤ dist n (K % n) r then (r, upd (upd (upd S r (K, v)) (pos n i0 hl) (K, v)) r (0, 0)) else (pos n i0 hl, upd S r (K, v)) := by
          have : f = (f - 1) + 1 := by omega
          rw [this]
          simp only [sbk]
          rw [hins, ← this, ← hcase, ehl]
          simp only [upd_self]
        have hd_r : (upd A r (K, v) i0) = A i0 := upd_other _ _ _ _ (Ne.symm hri)
        by_cases hmv : dist n (pos n i0 hl) r ≤ dist n (K % n) r
        · -- it moves into the hole
          rw [if_pos hmv] at estep
          have hhr : pos n i0 hl ≠ r := Ne.symm (hnp hl (by omega))
          have eT : upd (upd (upd S r (K, v)) (pos n i0 hl) (K, v)) r (0, 0) = upd S (pos n i0 hl) (K, v) := by
            rw [upd_comm S _ _ (Ne.symm hhr), upd_twice, upd_same _ _ _ (by rw [upd_other _ _ _ _ (Ne.symm hhr)]; exact hSr)]
          rw [eT] at estep
          have hstay := stay_later (U := upd A r (K, v)) hN.inv hn hi hf.free hfl (Nat.le_refl f) hf'l (by rw [estep]; exact hcase)
            (fun t h1 h2 => by
              rw [estep]
              have hne : pos n i0 t ≠ pos n i0 hl := fun e' => by have := pos_inj hi (by omega) (by omega) e'; omega
              simp only []
              rw [upd_other _ _ _ _ hne]; exact hrS t h1 (by omega)) hocc2 (f' - 1 - f) (by omega)
          rw [show f + (f' - 1 - f) = f' - 1 by omega] at hstay
          have hr' : r' = pos n i0 hl := by
            refine IsProbe.unique hKn hp' ⟨hhn, .inl (by rw [hM.hole]), fun c hcn hdc => hbefore c hcn ?_ ?_⟩
            · have d1 := dist_cases n (pos n i0 hl) r
              have d2 := dist_cases n (K % n) r
              have d3 := dist_cases n (K % n) (pos n i0 hl)
              have d4 := dist_cases n (K % n) c
              omega
            · intro e; subst e; omega
          refine ⟨i0, f', hi, by rw [hd_r]; exact ho, by rw [hd_r]; exact hd, hf', ?_⟩
          rw [hstay, estep, hr']
        · -- it stays where it was laid
          rw [if_neg hmv] at estep
          have hstay := stay_later (U := upd A r (K, v)) (u := hl) hN.inv hn hi hf.free hfl (by omega) hf'l (by rw [estep])
            (fun t h1 h2 => by
              rw [estep]
              have hne : pos n i0 t ≠ r := fun e' => by have := pos_inj hi (by omega) (by omega) (e'.trans hcase); omega
              simp only []
              rw [upd_other _ _ _ _ hne]; exact hrS t h1 (by omega)) hocc2 (f' - 1 - f) (by omega)
          rw [show f + (f' - 1 - f) = f' - 1 by omega] at hstay
          have hr' : r' = r := by
            refine IsProbe.unique hKn hp' ⟨hr, .inl (by rw [hSr]), fun c hcn hdc => hbefore c hcn hdc ?_⟩
            intro e; subst e
            have d1 := dist_cases n (pos n i0 hl) r
            have d2 := dist_cases n (K % n) r
            have d3 := dist_cases n (K % n) (pos n i0 hl)
            omega
          refine ⟨i0, f', hi, by rw [hd_r]; exact ho, by rw [hd_r]; exact hd, hf', ?_⟩
          rw [hstay, estep, hr']
      · -- it lies elsewhere
        have hgt : f < dist n i0 r := by
          rcases Nat.lt_or_ge f (dist n i0 r) with h | h
          · exact h
          · exfalso; apply hcase; rw [← hpr]; congr 1; omega
        have hr' : r' = r := by
          refine IsProbe.unique hKn hp' ⟨hr, .inl (by rw [hSr]), fun c hcn hdc => hbefore c hcn hdc ?_⟩
          intro e; subst e
          -- the free place pos f is not ahead of r
          have hnf : ¬ dist n (K % n) (pos n i0 f) < dist n (K % n) r := fun h => hp.before _ hpf h (.inl hf.free)
          have d1 := dist_cases n (K % n) (pos n i0 f)
          have d2 := dist_cases n (K % n) r
          have d3 := dist_cases n (K % n) (pos n i0 hl)
          have d4 := dist_cases n i0 r
          have p1 := pos_cases n i0 hl
          have p2 := pos_cases n i0 f
          omega
        have hd_r : (upd A r (K, v) i0) = A i0 := upd_other _ _ _ _ (Ne.symm hri)
        refine ⟨i0, f, hi, by rw [hd_r]; exact ho, by rw [hd_r]; exact hd, ⟨hf0, hfl, ?_, ?_⟩, ?_⟩
        · rw [upd_other _ _ _ _ (Ne.symm hcase)]; exact hf.free
        · intro t h1 h2
          rw [upd_other _ _ _ _ (Ne.symm (hnp t (by omega)))]; exact hf.taken t h1 h2
        · rw [hins, hr']
    · -- a key that is there
      have hAK := hp.at_.resolve_left h0
      have e1 := upd_setLoc (v := v) hN hr h0 hAK
      obtain ⟨q, hq, eq⟩ := hdone.2.2 r hr hri h0
      have h0' : ((sbk A n i0 (f - 1)).2 r').2 ≠ 0 := fun hz => hdone.1.absentP hp' hz q hq (by rw [eq]; exact h0) (by rw [eq]; exact hAK)
      have hNS : Nice (sbk A n i0 (f - 1)).2 n := by
        refine ⟨hdone.1, fun q hq => ?_, fun q hq => ?_⟩
        · by_cases e : q < n
          · by_cases eh : q = pos n i0 hl
            · rw [eh]; exact hM.hole
            · have hz : (A q).2 = 0 := by
                by_cases hz : (A q).2 = 0
                · exact hz
                · exact absurd hq ((hM.occ q e eh).2 hz)
              -- a free place of A is as it was
              have : ∀ t, t ≤ f - 1 → q ≠ pos n i0 t := by
                intro t ht e'
                by_cases ht0 : t = 0
                · subst ht0
                  have := pos_cases n i0 0
                  have : q = i0 := by omega
                  subst this; exact ho hz
                · exact hf.taken t (by omega) (by omega) (e' ▸ hz)
              rw [hM.far q e eh this]; exact hN.zero q hz
          · have hout := sbk_out A n i0 hi (f - 1) (by omega) q (by omega)
            rw [hout]; exact hN.zero q (hN.out q (by omega))
        · rw [sbk_out A n i0 hi (f - 1) (by omega) q hq]; exact hN.out q hq
      have e2 := upd_setLoc (v := v) hNS hp'.lt h0' (hp'.at_.resolve_left h0')
      refine ⟨i0, f, hi, by rw [upd_other _ _ _ _ (Ne.symm hri)]; exact ho, by rw [upd_other _ _ _ _ (Ne.symm hri)]; exact hd, ⟨hf0, hfl, ?_, ?_⟩, ?_⟩
      · by_cases e : pos n i0 f = r
        · exact absurd hf.free (e ▸ h0)
        · rw [upd_other _ _ _ _ e]; exact hf.free
      · intro t h1 h2
        by_cases e : pos n i0 t = r
        · rw [e, upd_self]; exact hv
        · rw [upd_other _ _ _ _ e]; exact hf.taken t h1 h2
      · rw [e1, e2, sbk_setLoc]

end Go.Proofs.Qxb6601018a
