/-
  THE STATE of the laws over an index that grows, and the calls in them by their contracts.
-/
import Derived.Test.Qxb6601018aPutW
import Derived.Test.Qxb6601018aLaw1
set_option linter.unusedVariables false
namespace Go.Proofs.Qxb6601018a
open Go.RowKit

/-- behind the first i puts of the script -/
def G (hs locs : Nat → Nat) (B b i : Nat) (w : World) : Prop :=
  ∃ x c, IxO B w b x ∧ Core x (lastM hs locs noDel i) c ∧ Load x c 0 ∧ c = cnt (firstB hs) i

theorem G.ext {hs locs : Nat → Nat} {B b i : Nat} {w w' : World} (h : G hs locs B b i w) (hb : Below w.heap.size w w') : G hs locs B b i w' := by
  obtain ⟨x, c, h1, r⟩ := h
  exact ⟨x, c, h1.ext hb, r⟩

theorem lastM_zero {hs locs : Nat → Nat} {i h : Nat} (hz : lastM hs locs noDel i h = 0) : ∀ t, t < i → hs t ≠ h := by
  induction i with
  | zero => intro t ht; omega
  | succ i ih =>
    simp only [lastM, noDel, Bool.false_eq_true, if_false] at hz
    by_cases e : hs i = h
    · rw [if_pos e] at hz; omega
    · rw [if_neg e] at hz
      intro t ht
      by_cases e2 : t = i
      · subst e2; exact e
      · exact ih hz t (by omega)

theorem lastM_pos {hs locs : Nat → Nat} {i h t : Nat} (ht : t < i) (e : hs t = h) : lastM hs locs noDel i h ≠ 0 := fun hz => lastM_zero hz t ht e

theorem first_step {hs locs : Nat → Nat} {i : Nat} : cnt (firstB hs) (i + 1) = cnt (firstB hs) i + (if lastM hs locs noDel i (hs i) = 0 then 1 else 0) := by
  simp only [cnt]
  by_cases hz : lastM hs locs noDel i (hs i) = 0
  · rw [if_pos hz, firstB_true (lastM_zero hz)]; rfl
  · rw [if_neg hz]
    obtain ⟨t, ht, e⟩ := lastM_ne hz
    rw [firstB_false ht e]; rfl

theorem pw8 : Pw 8 := ⟨3, by decide, by decide⟩

theorem g_new {hs locs : Nat → Nat} {w : World} {b pb B : Nat} (h : IxAt w b pb 0 (newIx 8)) (h1 : B ≤ b) (h2 : B ≤ pb) : G hs locs B b 0 w := by
  refine ⟨newIx 8, 0, ⟨pb, 0, h1, h2, fun h => absurd rfl h, h⟩, ?_, ⟨fun _ => by decide, fun h => absurd rfl h⟩, rfl⟩
  refine ⟨pw8, Nat.le_refl _, rfl, by decide, .inl rfl, ⟨fun q c _ _ h => absurd rfl h, fun q r _ _ h => absurd rfl h⟩, fun q _ h => absurd rfl h, ?_, fun h => ?_, fun h hm => absurd rfl hm, fun _ => rfl, fun h => absurd rfl h⟩
  · show 0 = cnt (occB emptyTab) 8
    rw [cnt_zero (p := occB emptyTab) (fun i _ => rfl)]
  · show 0 < gone; decide

theorem g_put {hs locs : Nat → Nat} {B b i : Nat} {w : World} (hG : G hs locs B b i w) (hi : i < 4096) (hloc : locs i < 18446744073709551614) :
    Calls Try.prog 17 #[.pointer (some ⟨b, 0, none⟩), .int .u64 ((hs i : Nat) : Int), .int .u64 ((locs i : Nat) : Int)] w fun e w' => e = .returned (.tuple #[]) ∧ Below B w w' ∧ G hs locs B b (i + 1) w' := by
  obtain ⟨x, c, hX, hC, hL, hc⟩ := hG
  have hfs := first_step (hs := hs) (locs := locs) (i := i)
  have hcl := cnt_le (firstB hs) (i + 1)
  refine zzPut_of (R := fun w' => Below B w w' ∧ G hs locs B b (i + 1) w') ((put_any (c' := cnt (firstB hs) (i + 1)) hX hC hL (hs i) (locs i) hloc (by rw [hc]; exact hfs) (by omega)).mono ?_)
  rintro e w' ⟨rfl, hb, x', hX', hC', hL'⟩
  refine ⟨rfl, hb, x', _, hX', ?_, hL', rfl⟩
  have : setM (lastM hs locs noDel i) (hs i) (locs i + 1) = lastM hs locs noDel (i + 1) := funext fun h => (lastM_put (by simp [noDel]) h).symm
  rw [← this]; exact hC'

/-- the index as it stands, opened -/
structure GO (hs locs : Nat → Nat) (B b k : Nat) (x : Ix) (w : World) : Prop where
  ix : IxO B w b x
  core : Core x (lastM hs locs noDel k) (cnt (firstB hs) k)
  load : Load x (cnt (firstB hs) k) 0

theorem G.open_ {hs locs : Nat → Nat} {B b k : Nat} {w : World} (h : G hs locs B b k w) : ∃ x, GO hs locs B b k x w := by
  obtain ⟨x, c, hX, hC, hL, rfl⟩ := h
  exact ⟨x, hX, hC, hL⟩

theorem GO.ext {hs locs : Nat → Nat} {B b k : Nat} {x : Ix} {w w' : World} (h : GO hs locs B b k x w) (hb : Below w.heap.size w w') : GO hs locs B b k x w' := ⟨h.ix.ext hb, h.core, h.load⟩

theorem GO.shape {hs locs : Nat → Nat} {B b k : Nat} {x : Ix} {w : World} (h : GO hs locs B b k x w) : Shape x :=
  h.core.shape (by have := h.load.room h.core (by omega); have := h.core.n_le; omega)

theorem go_lookup {hs locs : Nat → Nat} {B b k : Nat} {x : Ix} {w : World} (h : GO hs locs B b k x w) (hh : Nat) :
    Calls Try.prog 21 #[.pointer (some ⟨b, 0, none⟩), .int .u64 (hh : Int)] w fun e w' => e = .returned (lookV (lastM hs locs noDel k hh)) ∧ Below w.heap.size w w' := by
  obtain ⟨pb, ob, _, _, _, hI⟩ := h.ix
  refine (lookup_any hI h.shape hh).mono ?_
  rintro e w' ⟨hb, m, rfl, hl⟩
  rw [h.core.look hl]
  exact ⟨rfl, hb⟩

theorem go_n {hs locs : Nat → Nat} {B b k : Nat} {x : Ix} {w : World} (h : GO hs locs B b k x w) :
    Calls Try.prog 31 #[.pointer (some ⟨b, 0, none⟩)] w fun e w' => e = .returned (.int .i64 (x.n : Int)) ∧ w' = w := by
  obtain ⟨pb, ob, _, _, _, hI⟩ := h.ix
  exact zzN hI

theorem go_hasOld {hs locs : Nat → Nat} {B b k : Nat} {x : Ix} {w : World} (h : GO hs locs B b k x w) :
    Calls Try.prog 18 #[.pointer (some ⟨b, 0, none⟩)] w fun e w' => e = .returned (.bool (hasOld x)) ∧ w' = w := by
  obtain ⟨pb, ob, _, _, _, hI⟩ := h.ix
  exact zzHasOld hI

theorem go_oldLen {hs locs : Nat → Nat} {B b k : Nat} {x : Ix} {w : World} (h : GO hs locs B b k x w) :
    Calls Try.prog 35 #[.pointer (some ⟨b, 0, none⟩)] w fun e w' => e = .returned (.int .i64 (x.om : Int)) ∧ w' = w := by
  obtain ⟨pb, ob, _, _, _, hI⟩ := h.ix
  exact zzOldLen hI

theorem go_next {hs locs : Nat → Nat} {B b k : Nat} {x : Ix} {w : World} (h : GO hs locs B b k x w) :
    Calls Try.prog 36 #[.pointer (some ⟨b, 0, none⟩)] w fun e w' => e = .returned (.int .i64 (x.nx : Int)) ∧ w' = w := by
  obtain ⟨pb, ob, _, _, _, hI⟩ := h.ix
  exact zzNext hI

theorem go_occ {hs locs : Nat → Nat} {B b k : Nat} {x : Ix} {w : World} (h : GO hs locs B b k x w) :
    Calls Try.prog 22 #[.pointer (some ⟨b, 0, none⟩)] w fun e w' => e = .returned (.int .i64 (x.n : Int)) ∧ Below w.heap.size w w' := by
  obtain ⟨pb, ob, _, _, _, hI⟩ := h.ix
  have := occupied_any hI (by have := h.core.sz_le; omega)
  rw [← h.core.nP] at this
  exact this

def liveC (x : Ix) : Nat := if x.om = 0 then 0 else cnt (liveB x.O) x.om

theorem go_live {hs locs : Nat → Nat} {B b k : Nat} {x : Ix} {w : World} (h : GO hs locs B b k x w) :
    Calls Try.prog 32 #[.pointer (some ⟨b, 0, none⟩)] w fun e w' => e = .returned (.int .i64 ((liveC x : Nat) : Int)) ∧ Below w.heap.size w w' := by
  obtain ⟨pb, ob, _, _, _, hI⟩ := h.ix
  by_cases h0 : x.om = 0
  · have e1 : liveC x = 0 := by simp [liveC, h0]
    rw [e1]
    refine (liveOld_nil hI h0).mono ?_
    rintro e w' ⟨rfl, rfl⟩
    exact ⟨rfl, Below.refl _ _⟩
  · have e1 : liveC x = cnt (liveB x.O) x.om := by simp [liveC, h0]
    rw [e1]
    exact liveOld_some hI h0 (by have := h.core.om_le; omega)

theorem go_sum {hs locs : Nat → Nat} {B b k : Nat} {x : Ix} {w : World} (h : GO hs locs B b k x w) : x.n + liveC x = cnt (firstB hs) k := by
  unfold liveC
  by_cases h0 : x.om = 0
  · rw [if_pos h0]; exact h.core.nil h0
  · rw [if_neg h0]; exact (h.core.old h0).cnt

theorem lastV_pos {m : Nat} (hz : m ≠ 0) : lastV m = .tuple #[.int .u64 ((m - 1 : Nat) : Int), .bool true] := by
  have : (m == 0) = false := by simp [hz]
  simp [lastV, this]

theorem contents_any {hs locs : Nat → Nat} {B b k : Nat} {x : Ix} {w : World} (h : GO hs locs B b k x w) (a a1 : Option Addr) (l c l1 c1 : Nat) (hl : SlU w B a l hs) (hl1 : SlU w B a1 l1 locs) (hBs : B ≤ w.heap.size) (hk : k ≤ l) (hk1 : k ≤ l1) (hk2 : l ≤ 4096) (hk3 : l1 ≤ 4096) :
    Calls Try.prog 29 #[.pointer (some ⟨b, 0, none⟩), .slice a l c, .slice a1 l1 c1, .int .i64 (k : Int)] w fun e w' => e = .returned (.bool true) ∧ Below w.heap.size w w' := by
  have HG : Hid (GO hs locs B b k x w) := h
  have HL : Hid (SlU w B a l hs) := hl
  have HL1 : Hid (SlU w B a1 l1 locs) := hl1
  have HBs : Hid (B ≤ w.heap.size) := hBs
  clear h hl hl1 hBs
  go_enter Try.func29, Try.ntmps29
  go_wp2_with fail
  go_loopw [9] (fun v wr => ∃ i : Nat, i ≤ k ∧ v = .int .i64 i ∧ Hid (Below w.heap.size w wr)) (fun v _ => k - (intOf v).toNat)
  case atStart => exact ⟨0, Nat.zero_le _, rfl, Below.refl _ _⟩
  case round =>
    obtain ⟨i, hi, rfl, hB⟩ := hrel
    by_cases hlt : i < k
    · have V0 : Hid (SlU wr B a l hs) := HL.out.below (hB.out.mono HBs.out)
      have V1 : Hid (SlU wr B a1 l1 locs) := HL1.out.below (hB.out.mono HBs.out)
      have HGr : Hid (GO hs locs B b k x wr) := HG.out.ext hB.out
      obtain ⟨b0, o0, ea, hb0, hc0⟩ := V0.out i (by omega)
      have HCL : Hid (Calls Try.prog 30 #[.slice a l c, .slice a1 l1 c1, .int .i64 (k : Int), .int .u64 ((hs i : Nat) : Int)] wr fun e w' => e = .returned (lastV (lastM hs locs noDel k (hs i))) ∧ w' = wr) :=
        lastPut_any a a1 l c l1 c1 k B (hs i) hs locs wr V0.out V1.out hk hk1 hk2 hk3
      have HLk := go_lookup HGr.out (hs i)
      have HLk' : Hid (Calls Try.prog 21 #[.pointer (some ⟨b, 0, none⟩), .int .u64 ((hs i : Nat) : Int)] wr fun e w' => e = .returned (lookV (lastM hs locs noDel k (hs i))) ∧ Below wr.heap.size wr w') := HLk
      have hmz : lastM hs locs noDel k (hs i) ≠ 0 := lastM_pos hlt rfl
      have hmg := HG.out.core.nog (hs i)
      clear HLk V0 V1
      generalize lastM hs locs noDel k (hs i) = m at *
      have HMz : Hid (m ≠ 0) := hmz
      have hwr : IntKind.u64.wrap (((m - 1 : Nat) : Int) + 1) = (m : Int) := by
        unfold gone at hmg
        rw [IntKind.wrap_u64]; omega
      clear hmz hmg
      subst ea
      go_wp2_with fail
      refine HCL.out.mono ?_
      rintro e w2 ⟨rfl, rfl⟩
      clear HCL
      rw [lastV_pos HMz.out]
      generalize hm1 : ((m - 1 : Nat) : Int) = m1 at *
      clear hm1
      go_wp2_with fail
      refine HLk'.out.mono ?_
      rintro e w3 ⟨rfl, hb3⟩
      have HB3 : Hid (Below w.heap.size w w3) := hB.out.trans (hb3.mono hB.out.size)
      clear hb3 HLk'
      rw [lookV_pos HMz.out]
      go_wp2
      go_roundw
      case rel => exact ⟨i + 1, by omega, by go_num, HB3⟩
      case measure => simp [intOf]; omega
    · go_wp2
      go_ret
      exact ⟨rfl, hB⟩

end Go.Proofs.Qxb6601018a
