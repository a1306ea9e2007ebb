/-
  Puts and deletions in a table of a fixed size: the contents (plain); the walk of Present.
-/
import Derived.Test.Qxb6601018aLook
import Derived.Test.Qxb6601018aNp
set_option linter.unusedVariables false
namespace Go.Proofs.Qxb6601018a
open Go.RowKit

/-- the table T of n places holds just what M says (0: nothing) -/
structure Cont (T : Tab) (n : Nat) (M : Nat → Nat) : Prop where
  inv : Inv T n
  val : ∀ q, q < n → (T q).2 ≠ 0 → (T q).2 = M (T q).1
  onto : ∀ h, M h ≠ 0 → ∃ q, q < n ∧ T q = (h, M h)
  nog : ∀ h, M h < gone

theorem Cont.congr {T : Tab} {n : Nat} {M M' : Nat → Nat} (h : Cont T n M) (e : ∀ h, M h = M' h) : Cont T n M' := by
  have : M = M' := funext e
  subst this; exact h

theorem Cont.nogone {T : Tab} {n : Nat} {M : Nat → Nat} (h : Cont T n M) : ∀ q, q < n → (T q).2 ≠ gone := by
  intro q hq e
  by_cases h0 : (T q).2 = 0
  · rw [h0] at e; exact absurd e (by decide)
  · have := h.val q hq h0
    have := h.nog (T q).1
    omega

def setM (M : Nat → Nat) (h v : Nat) : Nat → Nat := fun h' => if h = h' then v else M h'

theorem cont_put {T : Tab} {n h v r : Nat} {M : Nat → Nat} (hC : Cont T n M) (hn : 0 < n) (hv : v ≠ 0) (hg : v < gone) (hp : IsProbe (stopP T h) n (h % n) r) : Cont (upd T r (h, v)) n (setM M h v) := by
  have hoth : ∀ q, q < n → q ≠ r → (T q).2 ≠ 0 → (T q).1 ≠ h := by
    intro q hq hne ho e
    by_cases h0 : (T r).2 = 0
    · exact hC.inv.absentP hp h0 q hq ho e
    · exact hne (hC.inv.uniq q r hq hp.lt ho h0 (e.trans (hp.at_.resolve_left h0).symm))
  refine ⟨?_, fun q hq ho => ?_, fun h' hm => ?_, fun h' => ?_⟩
  · by_cases h0 : (T r).2 = 0
    · exact hC.inv.insert hn hp.lt h0 (fun c hc hd hz => hp.before c hc hd (.inl hz)) (hC.inv.absentP hp h0) hv
    · exact hC.inv.reloc hp.lt h0 (hp.at_.resolve_left h0) hv
  · by_cases e : q = r
    · subst e; rw [upd_self]; simp [setM]
    · rw [upd_other _ _ _ _ e] at ho ⊢
      have := hoth q hq e ho
      simp only [setM]; rw [if_neg (Ne.symm this)]; exact hC.val q hq ho
  · by_cases e : h = h'
    · subst e; exact ⟨r, hp.lt, by rw [upd_self]; simp [setM]⟩
    · simp only [setM] at hm ⊢
      rw [if_neg e] at hm ⊢
      obtain ⟨q, hq, eq⟩ := hC.onto h' hm
      have hqr : q ≠ r := by
        intro e'; subst e'
        rcases hp.at_ with hz | hz
        · rw [eq] at hz; exact hm hz
        · rw [eq] at hz; exact e hz.symm
      exact ⟨q, hq, by rw [upd_other _ _ _ _ hqr]; exact eq⟩
  · simp only [setM]; split
    · exact hg
    · exact hC.nog h'

theorem cont_absent {T : Tab} {n h r : Nat} {M : Nat → Nat} (hC : Cont T n M) (hp : IsProbe (stopF T h) n (h % n) r) (h0 : (T r).2 = 0) : M h = 0 := by
  by_cases hm : M h = 0
  · exact hm
  · obtain ⟨q, hq, e⟩ := hC.onto h hm
    have := hC.inv.absent hp h0 q hq (by rw [e]) (by rw [e]; exact hm)
    exact absurd this (hC.nogone q hq)

theorem cont_found {T : Tab} {n h r : Nat} {M : Nat → Nat} (hC : Cont T n M) (hp : IsProbe (stopF T h) n (h % n) r) (h0 : (T r).2 ≠ 0) : (T r).1 = h ∧ (T r).2 = M h := by
  have h1 := (hp.at_.resolve_left h0).1
  exact ⟨h1, by rw [← h1]; exact hC.val r hp.lt h0⟩

theorem cont_del {T : Tab} {n h r f : Nat} {M : Nat → Nat} (hC : Cont T n M) (hr : r < n) (h0 : (T r).2 ≠ 0) (h1 : (T r).1 = h) (hf : FirstFree T n r f) :
    Cont (sbk T n r (f - 1)).2 n (setM M h 0) ∧ cnt (occB (sbk T n r (f - 1)).2) n ≤ cnt (occB T) n := by
  obtain ⟨hI, hfrom, honto⟩ := sbk_done hC.inv hr h0 hf
  generalize (sbk T n r (f - 1)).2 = U at *
  refine ⟨⟨hI, fun q hq ho => ?_, fun h' hm => ?_, fun h' => ?_⟩, ?_⟩
  · obtain ⟨q', hq', hne, e⟩ := hfrom q hq ho
    have hne' : (T q').1 ≠ h := fun e' => hne (hC.inv.uniq q' r hq' hr (by rw [e]; exact ho) h0 (e'.trans h1.symm))
    rw [← e]
    simp only [setM]; rw [if_neg (Ne.symm hne')]
    exact hC.val q' hq' (by rw [e]; exact ho)
  · simp only [setM] at hm ⊢
    by_cases e : h = h'
    · rw [if_pos e] at hm; exact absurd rfl hm
    · rw [if_neg e] at hm ⊢
      obtain ⟨q', hq', e'⟩ := hC.onto h' hm
      have hne : q' ≠ r := fun e'' => by subst e''; rw [e'] at h1; exact e h1.symm
      obtain ⟨q, hq, e2⟩ := honto q' hq' hne (by rw [e']; exact hm)
      exact ⟨q, hq, e2.trans e'⟩
  · simp only [setM]; split
    · decide
    · exact hC.nog h'
  · refine cnt_inj (fun q q' => T q' = U q ∧ (U q).2 ≠ 0) (fun q hq ho => ?_) (fun q q2 q' e1 e2 hq hq2 => ?_)
    · obtain ⟨q', hq', _, e⟩ := hfrom q hq (occB_true.1 ho)
      exact ⟨q', hq', occB_true.2 (by rw [e]; exact occB_true.1 ho), e, occB_true.1 ho⟩
    · exact hI.uniq q q2 hq hq2 e1.2 e2.2 (by rw [← e1.1, ← e2.1])

/-! ### What a script leaves, counted -/
theorem lastM_put {hs locs : Nat → Nat} {del : Nat → Bool} {k : Nat} (h : ¬ del k = true) : ∀ h', lastM hs locs del (k + 1) h' = setM (lastM hs locs del k) (hs k) (locs k + 1) h' := by
  intro h'; simp only [lastM, setM, if_neg h]
theorem lastM_del {hs locs : Nat → Nat} {del : Nat → Bool} {k : Nat} (h : del k = true) : ∀ h', lastM hs locs del (k + 1) h' = setM (lastM hs locs del k) (hs k) 0 h' := by
  intro h'; simp only [lastM, setM, if_pos h]

theorem lastM_ne {hs locs : Nat → Nat} {del : Nat → Bool} {k h : Nat} (hne : lastM hs locs del k h ≠ 0) : ∃ i, i < k ∧ hs i = h := by
  induction k with
  | zero => exact absurd rfl hne
  | succ k ih =>
    by_cases e : hs k = h
    · exact ⟨k, by omega, e⟩
    · simp only [lastM] at hne
      rw [if_neg e] at hne
      obtain ⟨i, hi, e'⟩ := ih hne
      exact ⟨i, by omega, e'⟩

theorem first_exists {hs : Nat → Nat} {k h : Nat} (hex : ∃ i, i < k ∧ hs i = h) : ∃ i, i < k ∧ hs i = h ∧ firstB hs i = true := by
  obtain ⟨i, hi, e⟩ := hex
  induction i using Nat.strongRecOn with
  | _ i ih =>
    by_cases hx : ∃ t, t < i ∧ hs t = hs i
    · obtain ⟨t, ht, et⟩ := hx
      exact ih t ht (by omega) (et.trans e)
    · exact ⟨i, hi, e, firstB_true (fun t ht et => hx ⟨t, ht, et⟩)⟩

theorem first_unique {hs : Nat → Nat} {i j : Nat} (hi : firstB hs i = true) (hj : firstB hs j = true) (e : hs i = hs j) : i = j := by
  rcases Nat.lt_trichotomy i j with h | h | h
  · rw [firstB_false h e] at hj; exact absurd hj (by decide)
  · exact h
  · rw [firstB_false h e.symm] at hi; exact absurd hi (by decide)

def presB (hs locs : Nat → Nat) (del : Nat → Bool) (k i : Nat) : Bool := firstB hs i && !(lastM hs locs del k (hs i) == 0)

theorem pres_no {hs locs : Nat → Nat} {del : Nat → Bool} {k i : Nat} (h : firstB hs i = false) : cnt (presB hs locs del k) (i + 1) = cnt (presB hs locs del k) i := by
  simp [cnt, presB, h]
theorem pres_yes {hs locs : Nat → Nat} {del : Nat → Bool} {k i : Nat} (h : firstB hs i = true) : cnt (presB hs locs del k) (i + 1) = cnt (presB hs locs del k) i + (if lastM hs locs del k (hs i) = 0 then 0 else 1) := by
  by_cases e : lastM hs locs del k (hs i) = 0 <;> simp [cnt, presB, h, e]

theorem present_eq {T : Tab} {n k : Nat} {hs locs : Nat → Nat} {del : Nat → Bool} (hC : Cont T n (lastM hs locs del k)) : cnt (occB T) n = cnt (presB hs locs del k) k := by
  refine Nat.le_antisymm ?_ ?_
  · refine cnt_inj (fun q i => (T q).1 = hs i ∧ (T q).2 ≠ 0) (fun q hq ho => ?_) (fun q q' i e e' hq hq' => ?_)
    · have ho := occB_true.1 ho
      have hv := hC.val q hq ho
      obtain ⟨i, hi, e, hf⟩ := first_exists (lastM_ne (show lastM hs locs del k (T q).1 ≠ 0 by omega))
      refine ⟨i, hi, ?_, e.symm, ho⟩
      have : (lastM hs locs del k (hs i) == 0) = false := by rw [e, beq_eq_false_iff_ne]; omega
      simp [presB, hf, this]
    · exact hC.inv.uniq q q' hq hq' e.2 e'.2 (e.1.trans e'.1.symm)
  · refine cnt_inj (fun i q => (T q).1 = hs i ∧ firstB hs i = true) (fun i hi hp => ?_) (fun i i' q e e' hi hi' => ?_)
    · simp [presB] at hp
      obtain ⟨q, hq, e⟩ := hC.onto (hs i) hp.2
      exact ⟨q, hq, occB_true.2 (by rw [e]; exact hp.2), by rw [e], hp.1⟩
    · exact first_unique e.2 e'.2 (e.1.symm.trans e'.1)

theorem present_any (a a1 a2 : Option Addr) (l c l1 c1 l2 c2 k B : Nat) (hs locs : Nat → Nat) (g del : Nat → Bool) (w : World) (hl : SlU w B a l hs) (hl1 : SlU w B a1 l1 locs) (hl2 : SlB w B a2 l2 g) (hk : k ≤ l) (hk1 : k ≤ l1) (hk2 : l ≤ 4096) (hk3 : l1 ≤ 4096) (hk4 : l2 ≤ 4096)
    (hdel : ∀ i, del i = (decide (i < l2) && g i)) (hBs : B ≤ w.heap.size) :
    Calls Try.prog 23 #[.slice a l c, .slice a1 l1 c1, .slice a2 l2 c2, .int .i64 (k : Int)] w fun e w' => e = .returned (.int .i64 ((cnt (presB hs locs del k) k : Nat) : Int)) ∧ Below w.heap.size w w' := by
  have HL : Hid (SlU w w.heap.size a l hs) := hl.mono hBs
  have HL1 : Hid (SlU w w.heap.size a1 l1 locs) := hl1.mono hBs
  have HL2 : Hid (SlB w w.heap.size a2 l2 g) := hl2.mono hBs
  have HD : Hid (∀ i, del i = (decide (i < l2) && g i)) := hdel
  clear hl hl1 hl2 hdel hBs
  go_enter Try.func23, Try.ntmps23
  go_wp2_with fail
  go_loopw [9, 10] (fun c v wr => ∃ i : Nat, i ≤ k ∧ v = .int .i64 i ∧ c = .int .i64 ((cnt (presB hs locs del k) i : Nat) : Int) ∧ Hid (Below w.heap.size w wr)) (fun _ v _ => k - (intOf v).toNat)
  case atStart => exact ⟨0, Nat.zero_le _, rfl, rfl, Below.refl _ _⟩
  case round =>
    obtain ⟨i, hi, rfl, rfl, hB⟩ := hrel
    have hcl := cnt_le (presB hs locs del k) i
    by_cases hlt : i < k
    · go_wp2_with fail
      go_loopw [11, 12] (fun f v wr => ∃ j : Nat, j ≤ i ∧ v = .int .i64 j ∧ f = .bool true ∧ Hid (∀ t, t < j → hs t ≠ hs i) ∧ Hid (Below w.heap.size w wr)) (fun _ v _ => i - (intOf v).toNat)
      case atStart => exact ⟨0, Nat.zero_le _, rfl, rfl, fun t ht => by omega, hB⟩
      case round =>
        obtain ⟨j, hj, rfl, rfl, hq, hB2⟩ := hrel
        have HLr : Hid (SlU wr w.heap.size a l hs) := HL.out.below hB2.out
        have HL1r : Hid (SlU wr w.heap.size a1 l1 locs) := HL1.out.below hB2.out
        have HL2r : Hid (SlB wr w.heap.size a2 l2 g) := HL2.out.below hB2.out
        have hil : (i : Int) < (l : Int) := by omega
        by_cases hjl : j < i
        · obtain ⟨b, off, rfl, hb, hc⟩ := HLr.out i (by omega)
          obtain ⟨b', off', e', hb', hc'⟩ := HLr.out j (by omega)
          cases e'
          have hjl2 : (j : Int) < (l : Int) := by omega
          by_cases he : hs j = hs i
          · have he' : (((hs j : Nat) : Int) == ((hs i : Nat) : Int)) = true := by rw [he]; simp
            have HC' : Hid (cnt (presB hs locs del k) (i + 1) = cnt (presB hs locs del k) i) := pres_no (firstB_false hjl he)
            clear he
            go_wp2_with fail
            go_quiet (fail)
            go_wp2
            go_roundw
            case rel => exact ⟨i + 1, by omega, by go_num, by rw [HC'.out], hB2.out.trans ((below_drewN' _).mono hB2.out.size)⟩
            case measure => simp [intOf]; omega
          · have he' : (((hs j : Nat) : Int) == ((hs i : Nat) : Int)) = false := by rw [beq_eq_false_iff_ne]; omega
            have HQ : Hid (∀ t, t < j + 1 → hs t ≠ hs i) := fun t ht => by
              by_cases e : t = j
              · subst e; exact he
              · exact hq.out t (by omega)
            clear he
            go_wp2_with fail
            go_quiet (fail)
            go_wp2
            go_roundw
            case rel => exact ⟨j + 1, by omega, by go_num, rfl, HQ, hB2.out.trans ((below_drewN' _).mono hB2.out.size)⟩
            case measure => simp [intOf]; omega
        · have hji : j = i := by omega
          subst hji
          obtain ⟨b, off, ea, hb, hc⟩ := HLr.out j (by omega)
          have HF := firstB_true hq.out
          have HC2 : Hid (cnt (presB hs locs del k) (j + 1) = cnt (presB hs locs del k) j + (if lastM hs locs del k (hs j) = 0 then 0 else 1)) := pres_yes HF
          clear HF hq
          have HCL : Hid (Calls Try.prog 20 #[.slice a l c, .slice a1 l1 c1, .slice a2 l2 c2, .int .i64 (k : Int), .int .u64 ((hs j : Nat) : Int)] wr fun e w' => e = .returned (lastV (lastM hs locs del k (hs j))) ∧ w' = wr) :=
            lastOp_any a a1 a2 l c l1 c1 l2 c2 k _ (hs j) hs locs g del wr HLr.out HL1r.out HL2r.out hk hk1 hk2 hk3 hk4 HD.out
          subst ea
          go_wp2_with fail
          refine HCL.out.mono ?_
          rintro e w2 ⟨rfl, rfl⟩
          clear HCL
          by_cases hz : lastM hs locs del k (hs j) = 0
          · have HC' : Hid (cnt (presB hs locs del k) (j + 1) = cnt (presB hs locs del k) j) := by have := HC2.out; rw [if_pos hz] at this; exact this
            have e1 : lastV (lastM hs locs del k (hs j)) = .tuple #[.int .u64 0, .bool false] := by rw [hz]; rfl
            rw [e1]
            clear HC2 e1 hz
            go_wp2
            go_roundw
            case rel => exact ⟨j + 1, by omega, by go_num, by rw [HC'.out], hB2⟩
            case measure => simp [intOf]; omega
          · have HC' : Hid (cnt (presB hs locs del k) (j + 1) = cnt (presB hs locs del k) j + 1) := by have := HC2.out; rw [if_neg hz] at this; exact this
            have e1 : lastV (lastM hs locs del k (hs j)) = .tuple #[.int .u64 ((lastM hs locs del k (hs j) - 1 : Nat) : Int), .bool true] := by
              have : (lastM hs locs del k (hs j) == 0) = false := by simp [hz]
              simp [lastV, this]
            rw [e1]
            clear HC2 e1 hz
            go_wp2
            go_roundw
            case rel => exact ⟨j + 1, by omega, by go_num, by rw [HC'.out]; go_num, hB2⟩
            case measure => simp [intOf]; omega
    · have hik : i = k := by omega
      subst hik
      go_wp2
      go_ret
      exact ⟨rfl, hB⟩

end Go.Proofs.Qxb6601018a
