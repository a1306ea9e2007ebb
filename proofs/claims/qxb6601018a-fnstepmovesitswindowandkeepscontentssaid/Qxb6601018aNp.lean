/-
  THE STATE of FnShiftBackLeavesTableAsIfNeverPut's loop, and the calls in it by their contracts.
-/
import Derived.Test.Qxb6601018aSb
import Derived.Deep.RegionWith
set_option linter.unusedVariables false
namespace Go.Proofs.Qxb6601018a
open Go.RowKit

theorem zzPut_of {w : World} {a k l : Value} {R : World → Prop} (h : Calls Try.prog 43 #[a, k, l] w fun e w' => e = .returned (.tuple #[]) ∧ R w') :
    Calls Try.prog 17 #[a, k, l] w fun e w' => e = .returned (.tuple #[]) ∧ R w' := by
  have H : Hid (Calls Try.prog 43 #[a, k, l] w fun e w' => e = .returned (.tuple #[]) ∧ R w') := h
  clear h
  go_enter Try.func17, Try.ntmps17
  go_wp2_with fail
  refine H.out.mono ?_
  rintro e w' ⟨rfl, hR⟩
  have HR : Hid (R w') := hR
  clear hR
  go_wp2
  go_end0
  exact ⟨rfl, HR.out⟩

theorem zzShiftBack_of {w : World} {a k : Value} {R : World → Prop} (h : Calls Try.prog 42 #[a, k] w fun e w' => e = .returned (.tuple #[]) ∧ R w') :
    Calls Try.prog 16 #[a, k] w fun e w' => e = .returned (.tuple #[]) ∧ R w' := by
  have H : Hid (Calls Try.prog 42 #[a, k] w fun e w' => e = .returned (.tuple #[]) ∧ R w') := h
  clear h
  go_enter Try.func16, Try.ntmps16
  go_wp2_with fail
  refine H.out.mono ?_
  rintro e w' ⟨rfl, hR⟩
  have HR : Hid (R w') := hR
  clear hR
  go_wp2
  go_end0
  exact ⟨rfl, HR.out⟩

theorem zzStep_of {w : World} {a : Value} {R : World → Prop} (h : Calls Try.prog 48 #[a] w fun e w' => e = .returned (.tuple #[]) ∧ R w') :
    Calls Try.prog 40 #[a] w fun e w' => e = .returned (.tuple #[]) ∧ R w' := by
  have H : Hid (Calls Try.prog 48 #[a] w fun e w' => e = .returned (.tuple #[]) ∧ R w') := h
  clear h
  go_enter Try.func40, Try.ntmps40
  go_wp2_with fail
  refine H.out.mono ?_
  rintro e w' ⟨rfl, hR⟩
  have HR : Hid (R w') := hR
  clear hR
  go_wp2
  go_end0
  exact ⟨rfl, HR.out⟩

def BoolR (e : Ending) : Prop := ∃ bb, e = .returned (.bool bb)

theorem pw8192 : Pw 8192 := ⟨13, by decide, by decide⟩

def fixIx (n : Nat) (T : Tab) : Ix := ⟨8192, n, 0, 0, T, emptyTab⟩

theorem free_of_cnt {T : Tab} {n : Nat} (h : cnt (occB T) n < n) : ∃ q, q < n ∧ (T q).2 = 0 := by
  obtain ⟨q, h1, h2⟩ := cnt_free h
  exact ⟨q, h1, occB_false.1 h2⟩

/-- a put into a table of 8192 places -/
theorem put_fix {w : World} {b pb n : Nat} {T : Tab} (h : IxAt w b pb 0 (fixIx n T)) (k loc : Nat) (hloc : loc < 18446744073709551614) (hn : n ≤ 4096) (hc : cnt (occB T) 8192 ≤ 4096) :
    Calls Try.prog 17 #[.pointer (some ⟨b, 0, none⟩), .int .u64 (k : Int), .int .u64 (loc : Int)] w fun e w' => e = .returned (.tuple #[]) ∧ Fr [b, pb] w w' ∧
      ∃ r n', IsProbe (stopP T k) 8192 (k % 8192) r ∧ n' ≤ n + 1 ∧ IxAt w' b pb 0 (fixIx n' (upd T r (k, loc + 1))) := by
  refine zzPut_of ((put_fixed h rfl k loc hloc pw8192 (show (8192 : Nat) ≤ 16384 by decide) (free_of_cnt (T := T) (n := 8192) (by omega)) (show n + 1 ≤ 8192 / 4 * 3 by omega)).mono ?_)
  rintro e w' ⟨rfl, hF, r, hr, hI⟩
  refine ⟨rfl, hF, r, n + (if (T r).2 = 0 then 1 else 0), hr, by split <;> omega, hI⟩

def L1 (d ba pa bb pb i : Nat) (w : World) : Prop :=
  ∃ A B nA nB, IxAt w ba pa 0 (fixIx nA A) ∧ IxAt w bb pb 0 (fixIx nB B) ∧ nA ≤ i ∧ nB ≤ i ∧ Nice A 8192 ∧ (∀ q, (A q).2 ≠ gone) ∧ cnt (occB A) 8192 ≤ i ∧ cnt (occB B) 8192 ≤ i ∧ DelRel A B 8192 d

/-- behind the put into a -/
def L1M (d ba pa bb pb i h loc : Nat) (w : World) : Prop :=
  ∃ A B r nA nB, IxAt w ba pa 0 (fixIx nA (upd A r (h, loc + 1))) ∧ IxAt w bb pb 0 (fixIx nB B) ∧ nA ≤ i + 1 ∧ nB ≤ i ∧ Nice A 8192 ∧ (∀ q, (A q).2 ≠ gone) ∧ cnt (occB A) 8192 ≤ i ∧ cnt (occB B) 8192 ≤ i ∧ DelRel A B 8192 d ∧
    IsProbe (stopP A h) 8192 (h % 8192) r ∧ loc < 18446744073709551614

theorem L1.ext {d ba pa bb pb i : Nat} {w w' : World} (h : L1 d ba pa bb pb i w) (hb : Below w.heap.size w w') : L1 d ba pa bb pb i w' := by
  obtain ⟨A, B, nA, nB, h1, h2, r⟩ := h
  exact ⟨A, B, nA, nB, h1.ext hb, h2.ext hb, r⟩
theorem L1M.ext {d ba pa bb pb i h loc : Nat} {w w' : World} (hh : L1M d ba pa bb pb i h loc w) (hb : Below w.heap.size w w') : L1M d ba pa bb pb i h loc w' := by
  obtain ⟨A, B, r, nA, nB, h1, h2, rest⟩ := hh
  exact ⟨A, B, r, nA, nB, h1.ext hb, h2.ext hb, rest⟩

theorem l1_putA {d ba pa bb pb i h loc : Nat} {w : World} (hL : L1 d ba pa bb pb i w) (hi : i < 4096) (hloc : loc < 18446744073709551614) (hne : bb ≠ ba ∧ bb ≠ pa ∧ pb ≠ ba ∧ pb ≠ pa) :
    Calls Try.prog 17 #[.pointer (some ⟨ba, 0, none⟩), .int .u64 (h : Int), .int .u64 (loc : Int)] w fun e w' => e = .returned (.tuple #[]) ∧ Fr [ba, pa] w w' ∧ L1M d ba pa bb pb i h loc w' := by
  obtain ⟨A, B, nA, nB, h1, h2, hnA, hnB, hN, hg, hcA, hcB, hD⟩ := hL
  refine (put_fix h1 h loc hloc (by omega) (by omega)).mono ?_
  rintro e w' ⟨rfl, hF, r, n', hr, hn', hI⟩
  refine ⟨rfl, hF, A, B, r, n', nB, hI, h2.fr hF (by simp; omega) (by simp; omega) (fun h => absurd rfl h), by omega, hnB, hN, hg, hcA, hcB, hD, hr, hloc⟩

theorem noGone_upd {A : Tab} {r h loc : Nat} (hg : ∀ q, (A q).2 ≠ gone) (hloc : loc < 18446744073709551614) : ∀ q, (upd A r (h, loc + 1) q).2 ≠ gone := by
  intro q
  by_cases e : q = r
  · subst e; rw [upd_self]; show loc + 1 ≠ gone; unfold gone; omega
  · rw [upd_other _ _ _ _ e]; exact hg q

theorem l1_skip {d ba pa bb pb i loc : Nat} {w : World} (hL : L1M d ba pa bb pb i d loc w) (hi : i < 4096) : L1 d ba pa bb pb (i + 1) w := by
  obtain ⟨A, B, r, nA, nB, h1, h2, hnA, hnB, hN, hg, hcA, hcB, hD, hr, hloc⟩ := hL
  have hcp := cnt_put (A := A) (n := 8192) (K := d) (v := loc + 1) (r := r) (by omega) hr.lt
  refine ⟨_, B, nA, nB, h1, h2, hnA, by omega, nice_put hN (by decide) (by omega) hr, noGone_upd hg hloc, ?_, by omega, del_put_d hN (by decide) (by omega) (by omega) hD hr⟩
  rw [hcp]; split <;> omega

theorem l1_putB {d ba pa bb pb i h loc : Nat} {w : World} (hL : L1M d ba pa bb pb i h loc w) (hi : i < 4096) (hd : h ≠ d) (hne : ba ≠ bb ∧ ba ≠ pb ∧ pa ≠ bb ∧ pa ≠ pb) :
    Calls Try.prog 17 #[.pointer (some ⟨bb, 0, none⟩), .int .u64 (h : Int), .int .u64 (loc : Int)] w fun e w' => e = .returned (.tuple #[]) ∧ Fr [bb, pb] w w' ∧ L1 d ba pa bb pb (i + 1) w' := by
  obtain ⟨A, B, r, nA, nB, h1, h2, hnA, hnB, hN, hg, hcA, hcB, hD, hr, hloc⟩ := hL
  refine (put_fix h2 h loc hloc (by omega) (by omega)).mono ?_
  rintro e w' ⟨rfl, hF, r', n', hr', hn', hI⟩
  have hcp := cnt_put (A := A) (n := 8192) (K := h) (v := loc + 1) (r := r) (by omega) hr.lt
  have hcp' := cnt_put (A := B) (n := 8192) (K := h) (v := loc + 1) (r := r') (by omega) hr'.lt
  refine ⟨rfl, hF, _, _, nA, n', h1.fr hF (by simp; omega) (by simp; omega) (fun h => absurd rfl h), hI, hnA, by omega, nice_put hN (by decide) (by omega) hr, noGone_upd hg hloc, ?_, ?_,
    del_put_other hN (by decide) (by omega) hd (by omega) hD hr hr'⟩
  · rw [hcp]; split <;> omega
  · rw [hcp']; split <;> omega

/-- both tables are one -/
def L1E (ba pa bb pb : Nat) (w : World) : Prop := ∃ T nA nB, IxAt w ba pa 0 (fixIx nA T) ∧ IxAt w bb pb 0 (fixIx nB T)
theorem L1E.ext {ba pa bb pb : Nat} {w w' : World} (h : L1E ba pa bb pb w) (hb : Below w.heap.size w w') : L1E ba pa bb pb w' := by
  obtain ⟨T, nA, nB, h1, h2⟩ := h
  exact ⟨T, nA, nB, h1.ext hb, h2.ext hb⟩

/-- what find says of d -/
def L1F (d ba pa bb pb : Nat) (e : Ending) (w : World) : Prop :=
  (e = .returned (.tuple #[.int .i64 0, .bool false]) ∧ L1E ba pa bb pb w) ∨
  ∃ r : Nat, e = .returned (.tuple #[.int .i64 (r : Int), .bool true]) ∧
    ∀ w', Below w.heap.size w w' → Calls Try.prog 16 #[.pointer (some ⟨ba, 0, none⟩), .int .i64 (r : Int)] w' fun e w'' => e = .returned (.tuple #[]) ∧ Fr [pa] w' w'' ∧ L1E ba pa bb pb w''

theorem l1_find {d ba pa bb pb i : Nat} {w : World} (hL : L1 d ba pa bb pb i w) (hi : i ≤ 4096) (hne : bb ≠ pa ∧ pb ≠ pa) :
    Calls Try.prog 15 #[.pointer (some ⟨ba, 0, none⟩), .int .u64 (d : Int)] w fun e w' => Below w.heap.size w w' ∧ L1F d ba pa bb pb e w' := by
  obtain ⟨A, B, nA, nB, h1, h2, hnA, hnB, hN, hg, hcA, hcB, hD⟩ := hL
  refine (zzFind h1 d pw8192 (show (8192 : Nat) ≤ 16384 by decide) (free_of_cnt (T := A) (n := 8192) (by omega))).mono ?_
  rintro e w' ⟨hb, r, hr, rfl⟩
  have hr' : IsProbe (stopF A d) 8192 (d % 8192) r := hr
  refine ⟨hb, ?_⟩
  show L1F d ba pa bb pb (.returned (findV A r)) w'
  by_cases h0 : (A r).2 = 0
  · left
    refine ⟨by simp [findV, h0], ?_⟩
    rcases hD with ⟨_, rfl⟩ | ⟨i0, f, hi0, ho, hd, _, _⟩
    · exact ⟨B, nA, nB, h1.ext hb, h2.ext hb⟩
    · exact absurd (hN.inv.absent hr' h0 i0 hi0 hd ho) (hg i0)
  · right
    have hA := hr'.at_.resolve_left h0
    refine ⟨r, by simp [findV, h0], fun w2 hb2 => ?_⟩
    rcases hD with ⟨hno, _⟩ | ⟨i0, f, hi0, ho, hd, hf, hB⟩
    · exact absurd hA.1 (hno r hr'.lt h0)
    · have : r = i0 := hN.inv.uniq r i0 hr'.lt hi0 h0 ho (hA.1.trans hd.symm)
      subst this
      refine zzShiftBack_of ((shiftBack_any ((h1.ext hb).ext hb2) r hr'.lt pw8192 (show (8192 : Nat) ≤ 16384 by decide) f hf).mono ?_)
      rintro e w3 ⟨rfl, hF, hI⟩
      refine ⟨rfl, hF, B, nA, nB, ?_, ((h2.ext hb).ext hb2).fr hF (by simp; omega) (by simp; omega) (fun h => absurd rfl h)⟩
      rw [hB]; exact hI

theorem fix_hasOld {w : World} {b pb n : Nat} {T : Tab} (h : IxAt w b pb 0 (fixIx n T)) : Calls Try.prog 18 #[.pointer (some ⟨b, 0, none⟩)] w fun e w' => e = .returned (.bool false) ∧ w' = w := zzHasOld h
theorem fix_len {w : World} {b pb n : Nat} {T : Tab} (h : IxAt w b pb 0 (fixIx n T)) : Calls Try.prog 19 #[.pointer (some ⟨b, 0, none⟩)] w fun e w' => e = .returned (.int .i64 8192) ∧ w' = w := zzLen h
theorem fix_placeAt {w : World} {b pb n : Nat} {T : Tab} (h : IxAt w b pb 0 (fixIx n T)) (i : Nat) (hi : i < 8192) : Calls Try.prog 27 #[.pointer (some ⟨b, 0, none⟩), .int .i64 (i : Int)] w fun e w' =>
    e = .returned (.tuple #[.int .u64 ((T i).1 : Int), .int .u64 ((T i).2 : Int)]) ∧ Below w.heap.size w w' := zzPlaceAt h i hi (show (8192 : Nat) ≤ 16384 by decide)

end Go.Proofs.Qxb6601018a
