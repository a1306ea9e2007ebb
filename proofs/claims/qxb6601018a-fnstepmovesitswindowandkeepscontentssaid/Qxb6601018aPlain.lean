/-
  PLAIN MATHEMATICS of an open-addressed table: no Go, no program. Tables are functions from places to (hash, loc).
-/
namespace Go.Proofs.Qxb6601018a

abbrev Tab := Nat → Nat × Nat

def gone : Nat := 18446744073709551615

def nxt (n i : Nat) : Nat := if i + 1 = n then 0 else i + 1
/-- how far b lies behind a, going round -/
def dist (n a b : Nat) : Nat := if a ≤ b then b - a else b + n - a
def upd (T : Tab) (i : Nat) (p : Nat × Nat) : Tab := fun j => if j = i then p else T j

theorem dist_cases (n a b : Nat) : (a ≤ b ∧ dist n a b = b - a) ∨ (b < a ∧ dist n a b = b + n - a) := by
  unfold dist; split <;> omega
theorem nxt_cases (n i : Nat) : (i + 1 = n ∧ nxt n i = 0) ∨ (i + 1 ≠ n ∧ nxt n i = i + 1) := by
  unfold nxt; split <;> omega
theorem upd_self (T : Tab) (i : Nat) (p : Nat × Nat) : upd T i p i = p := by simp [upd]
theorem upd_other (T : Tab) (i j : Nat) (p : Nat × Nat) (h : j ≠ i) : upd T i p j = T j := by simp [upd, h]

/-! ### A probe: the first place from i on, going round, at which 'stop' holds -/
structure IsProbe (stop : Nat → Prop) (n i r : Nat) : Prop where
  lt : r < n
  at_ : stop r
  before : ∀ c, c < n → dist n i c < dist n i r → ¬ stop c

theorem IsProbe.unique {stop : Nat → Prop} {n i r r' : Nat} (hi : i < n) (h : IsProbe stop n i r) (h' : IsProbe stop n i r') : r = r' := by
  have a : ¬ dist n i r' < dist n i r := fun hl => h.before r' h'.lt hl h'.at_
  have b : ¬ dist n i r < dist n i r' := fun hl => h'.before r h.lt hl h.at_
  have := h.lt; have := h'.lt
  rcases dist_cases n i r with x | x <;> rcases dist_cases n i r' with y | y <;> omega

theorem probe_next {stop : Nat → Prop} {n i0 i : Nat} (hi0 : i0 < n) (hi : i < n) (hex : ∃ q, q < n ∧ stop q)
    (hb : ∀ c, c < n → dist n i0 c < dist n i0 i → ¬ stop c) (hns : ¬ stop i) :
    nxt n i < n ∧ (∀ c, c < n → dist n i0 c < dist n i0 (nxt n i) → ¬ stop c) ∧ n - dist n i0 (nxt n i) < n - dist n i0 i := by
  obtain ⟨q, hq, hsq⟩ := hex
  have h1 : ¬ dist n i0 q < dist n i0 i := fun h => hb q hq h hsq
  have h2 : q ≠ i := fun h => hns (h ▸ hsq)
  have d1 := dist_cases n i0 q
  have d2 := dist_cases n i0 i
  have d3 := dist_cases n i0 (nxt n i)
  have d4 := nxt_cases n i
  have e : dist n i0 (nxt n i) = dist n i0 i + 1 ∧ dist n i0 i + 1 < n ∧ nxt n i < n := by omega
  refine ⟨e.2.2, fun c hc hlt => ?_, by omega⟩
  by_cases hci : c = i
  · subst hci; exact hns
  · refine hb c hc ?_
    have d5 := dist_cases n i0 c
    omega

/-! ### The invariant of a table -/
structure Inv (T : Tab) (n : Nat) : Prop where
  path : ∀ q c, q < n → c < n → (T q).2 ≠ 0 → dist n ((T q).1 % n) c ≤ dist n ((T q).1 % n) q → (T c).2 ≠ 0
  uniq : ∀ q r, q < n → r < n → (T q).2 ≠ 0 → (T r).2 ≠ 0 → (T q).1 = (T r).1 → q = r

/-- what 'find' stops at -/
def stopF (T : Tab) (h : Nat) (q : Nat) : Prop := (T q).2 = 0 ∨ ((T q).1 = h ∧ (T q).2 ≠ gone)
/-- what 'put' stops at -/
def stopP (T : Tab) (h : Nat) (q : Nat) : Prop := (T q).2 = 0 ∨ (T q).1 = h
/-- what 'step' stops at -/
def stopE (T : Tab) (q : Nat) : Prop := (T q).2 = 0

theorem Inv.absent {T : Tab} {n h r : Nat} (hI : Inv T n) (hp : IsProbe (stopF T h) n (h % n) r) (h0 : (T r).2 = 0) :
    ∀ q, q < n → (T q).1 = h → (T q).2 ≠ 0 → (T q).2 = gone := by
  intro q hq e1 e2
  by_cases e3 : (T q).2 = gone
  · exact e3
  · exfalso
    have hs : stopF T h q := .inr ⟨e1, e3⟩
    have hd : ¬ dist n (h % n) q < dist n (h % n) r := fun hl => hp.before q hq hl hs
    exact hI.path q r hq hp.lt e2 (by rw [e1]; omega) h0

theorem Inv.absentP {T : Tab} {n h r : Nat} (hI : Inv T n) (hp : IsProbe (stopP T h) n (h % n) r) (h0 : (T r).2 = 0) :
    ∀ q, q < n → (T q).2 ≠ 0 → (T q).1 ≠ h := by
  intro q hq e2 e1
  have hs : stopP T h q := .inr e1
  have hd : ¬ dist n (h % n) q < dist n (h % n) r := fun hl => hp.before q hq hl hs
  exact hI.path q r hq hp.lt e2 (by rw [e1]; omega) h0

/-- a new key, laid at the first free place from its home -/
theorem Inv.insert {T : Tab} {n r : Nat} {p : Nat × Nat} (hI : Inv T n) (hn : 0 < n) (hr : r < n) (_h0 : (T r).2 = 0)
    (hocc : ∀ c, c < n → dist n (p.1 % n) c < dist n (p.1 % n) r → (T c).2 ≠ 0) (hnew : ∀ q, q < n → (T q).2 ≠ 0 → (T q).1 ≠ p.1) (hp : p.2 ≠ 0) :
    Inv (upd T r p) n := by
  have hh : p.1 % n < n := Nat.mod_lt _ hn
  constructor
  · intro q c hq hc ho hd
    by_cases hcr : c = r
    · subst hcr; rw [upd_self]; exact hp
    rw [upd_other _ _ _ _ hcr]
    by_cases hqr : q = r
    · subst hqr
      rw [upd_self] at hd
      refine hocc c hc ?_
      have d1 := dist_cases n (p.1 % n) c
      have d2 := dist_cases n (p.1 % n) q
      omega
    · rw [upd_other _ _ _ _ hqr] at ho hd
      exact hI.path q c hq hc ho hd
  · intro q q' hq hq' ho ho' he
    by_cases h1 : q = r <;> by_cases h2 : q' = r
    · omega
    · subst h1
      rw [upd_self] at he
      rw [upd_other _ _ _ _ h2] at ho' he
      exact absurd he.symm (hnew q' hq' ho')
    · subst h2
      rw [upd_self] at he
      rw [upd_other _ _ _ _ h1] at ho he
      exact absurd he (hnew q hq ho)
    · rw [upd_other _ _ _ _ h1] at ho he
      rw [upd_other _ _ _ _ h2] at ho' he
      exact hI.uniq q q' hq hq' ho ho' he

/-- another loc at a taken place -/
theorem Inv.reloc {T : Tab} {n r v : Nat} {h : Nat} (hI : Inv T n) (hr : r < n) (h0 : (T r).2 ≠ 0) (hh : (T r).1 = h) (hv : v ≠ 0) : Inv (upd T r (h, v)) n := by
  have e1 : ∀ q, (upd T r (h, v) q).1 = (T q).1 := by
    intro q; by_cases e : q = r
    · subst e; rw [upd_self]; exact hh.symm
    · rw [upd_other _ _ _ _ e]
  have e2 : ∀ q, (upd T r (h, v) q).2 ≠ 0 ↔ (T q).2 ≠ 0 := by
    intro q; by_cases e : q = r
    · subst e; rw [upd_self]; exact ⟨fun _ => h0, fun _ => hv⟩
    · rw [upd_other _ _ _ _ e]
  constructor
  · intro q c hq hc ho hd
    rw [e1] at hd; rw [e2] at ho ⊢
    exact hI.path q c hq hc ho hd
  · intro q q' hq hq' ho ho' he
    rw [e1, e1] at he; rw [e2] at ho ho'
    exact hI.uniq q q' hq hq' ho ho' he

/-! ### Counting -/
def cnt (p : Nat → Bool) : Nat → Nat
  | 0 => 0
  | n + 1 => cnt p n + (if p n then 1 else 0)

theorem cnt_le (p : Nat → Bool) (n : Nat) : cnt p n ≤ n := by
  induction n with
  | zero => simp [cnt]
  | succ n ih => simp only [cnt]; split <;> omega

theorem cnt_congr {p q : Nat → Bool} {n : Nat} (h : ∀ i, i < n → p i = q i) : cnt p n = cnt q n := by
  induction n with
  | zero => rfl
  | succ n ih => simp only [cnt]; rw [ih (fun i hi => h i (by omega)), h n (by omega)]

theorem cnt_free {p : Nat → Bool} {n : Nat} (h : cnt p n < n) : ∃ q, q < n ∧ p q = false := by
  induction n with
  | zero => omega
  | succ n ih =>
    simp only [cnt] at h
    by_cases hp : p n
    · simp [hp] at h
      obtain ⟨q, hq, e⟩ := ih (by omega)
      exact ⟨q, by omega, e⟩
    · exact ⟨n, by omega, by simpa using hp⟩

theorem cnt_zero {p : Nat → Bool} {n : Nat} (h : ∀ i, i < n → p i = false) : cnt p n = 0 := by
  induction n with
  | zero => rfl
  | succ n ih => simp only [cnt]; rw [ih (fun i hi => h i (by omega)), h n (by omega)]; simp

theorem cnt_pos {p : Nat → Bool} {n i : Nat} (hi : i < n) (h : p i = true) : 0 < cnt p n := by
  induction n with
  | zero => omega
  | succ n ih =>
    simp only [cnt]
    by_cases e : i = n
    · subst e; simp [h]
    · have := ih (by omega); omega

/-- one place more -/
theorem cnt_add {p q : Nat → Bool} {n r : Nat} (hr : r < n) (hp : p r = false) (hq : q r = true) (h : ∀ i, i < n → i ≠ r → p i = q i) : cnt q n = cnt p n + 1 := by
  induction n with
  | zero => omega
  | succ n ih =>
    simp only [cnt]
    by_cases e : r = n
    · subst e
      rw [cnt_congr (p := q) (q := p) (fun i hi => (h i (by omega) (by omega)).symm), hp, hq]; simp
    · rw [ih (by omega) (fun i hi hne => h i (by omega) hne), h n (by omega) (by omega)]; omega

theorem cnt_all {p : Nat → Bool} {n : Nat} (h : ∀ i, i < n → p i = true) : cnt p n = n := by
  induction n with
  | zero => rfl
  | succ n ih => simp only [cnt]; rw [ih (fun i hi => h i (by omega)), h n (by omega)]; simp

theorem cnt_mono {p q : Nat → Bool} {n : Nat} (h : ∀ i, i < n → p i = true → q i = true) : cnt p n ≤ cnt q n := by
  induction n with
  | zero => simp [cnt]
  | succ n ih =>
    simp only [cnt]
    have := ih (fun i hi => h i (by omega))
    by_cases e : p n = true
    · rw [h n (by omega) e, e]; simp; omega
    · simp [e]; omega

/-- an injection by a relation -/
theorem cnt_inj {p q : Nat → Bool} {n m : Nat} (R : Nat → Nat → Prop) (h : ∀ i, i < n → p i = true → ∃ j, j < m ∧ q j = true ∧ R i j)
    (hR : ∀ i i' j, R i j → R i' j → i < n → i' < n → i = i') : cnt p n ≤ cnt q m := by
  induction n generalizing q with
  | zero => simp [cnt]
  | succ n ih =>
    simp only [cnt]
    by_cases e : p n = true
    · obtain ⟨j, hj, hqj, hRj⟩ := h n (by omega) e
      let q' : Nat → Bool := fun k => q k && !(k == j)
      have hq' : cnt q m = cnt q' m + 1 := by
        refine cnt_add hj (by simp [q']) hqj (fun i hi hne => ?_)
        simp [q', hne]
      have := ih (q := q') (fun i hi hpi => by
        obtain ⟨j', hj', hqj', hRj'⟩ := h i (by omega) hpi
        refine ⟨j', hj', ?_, hRj'⟩
        have : j' ≠ j := by
          intro e; subst e
          have := hR i n j' hRj' hRj (by omega) (by omega)
          omega
        simp [q', hqj', this]) (fun i i' j a b c d => hR i i' j a b (by omega) (by omega))
      rw [e]; simp; omega
    · have := ih (q := q) (fun i hi => h i (by omega)) (fun i i' j a b c d => hR i i' j a b (by omega) (by omega))
      simp [e]; omega

def occB (T : Tab) (q : Nat) : Bool := !((T q).2 == 0)
def liveB (T : Tab) (q : Nat) : Bool := !((T q).2 == 0) && !((T q).2 == gone)

theorem occB_true {T : Tab} {q : Nat} : occB T q = true ↔ (T q).2 ≠ 0 := by simp [occB]
theorem occB_false {T : Tab} {q : Nat} : occB T q = false ↔ (T q).2 = 0 := by simp [occB]
theorem liveB_true {T : Tab} {q : Nat} : liveB T q = true ↔ (T q).2 ≠ 0 ∧ (T q).2 ≠ gone := by simp [liveB]

end Go.Proofs.Qxb6601018a
