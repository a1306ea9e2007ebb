/-
  THE WALKS of the readers of an index: Lookup, Occupied, LiveOld, Reachable; and of the counts over a script: Distinct, Present.
-/
import Derived.Test.Qxb6601018aMem
set_option linter.unusedVariables false
namespace Go.Proofs.Qxb6601018a
open Go.RowKit

def lookV (m : Nat) : Value := .tuple #[.int .u64 (m : Int), .bool (!(m == 0))]
theorem lookV_zero : lookV 0 = .tuple #[.int .u64 0, .bool false] := rfl
theorem lookV_pos {m : Nat} (h : m ≠ 0) : lookV m = .tuple #[.int .u64 (m : Int), .bool true] := by
  have : (m == 0) = false := by simp [h]
  simp [lookV, this]

/-- what Lookup finds -/
def LookR (x : Ix) (h m : Nat) : Prop :=
  ∃ r, IsProbe (stopF x.P h) x.sz (h % x.sz) r ∧ (((x.P r).2 ≠ 0 ∧ m = (x.P r).2) ∨ ((x.P r).2 = 0 ∧ ((x.om = 0 ∧ m = 0) ∨ (x.om ≠ 0 ∧ ∃ r', IsProbe (stopF x.O h) x.om (h % x.om) r' ∧ m = (x.O r').2))))

def LookP (x : Ix) (h : Nat) (e : Ending) : Prop := ∃ m, e = .returned (lookV m) ∧ LookR x h m

/-- the shape that every reader asks -/
structure Shape (x : Ix) : Prop where
  pw : Pw x.sz
  le : x.sz ≤ 16384
  free : ∃ q, q < x.sz ∧ (x.P q).2 = 0
  pwO : x.om ≠ 0 → Pw x.om
  leO : x.om ≤ 16384
  freeO : x.om ≠ 0 → ∃ q, q < x.om ∧ (x.O q).2 = 0

set_option maxHeartbeats 1000000 in
theorem lookup_any {w : World} {b pb ob : Nat} {x : Ix} (hI : IxAt w b pb ob x) (hs : Shape x) (h : Nat) :
    Calls Try.prog 21 #[.pointer (some ⟨b, 0, none⟩), .int .u64 (h : Int)] w fun e w' => Below w.heap.size w w' ∧ LookP x h e := by
  have HI : Hid (IxAt w b pb ob x) := hI
  have HS : Hid (Shape x) := hs
  clear hI hs
  go_enter Try.func21, Try.ntmps21
  go_wp2_with fail
  refine (zzFind HI.out h HS.out.pw HS.out.le HS.out.free).mono ?_
  rintro e w1 ⟨hb1, r, hr, rfl⟩
  have HB1 : Hid (Below w.heap.size w w1) := hb1
  have HI1 : Hid (IxAt w1 b pb ob x) := HI.out.ext hb1
  have HR : Hid (IsProbe (stopF x.P h) x.sz (h % x.sz) r) := hr
  clear hb1 HI hr
  by_cases h0 : (x.P r).2 = 0
  · have e1 : findV x.P r = .tuple #[.int .i64 0, .bool false] := by simp [findV, h0]
    have H0 : Hid ((x.P r).2 = 0) := h0
    rw [e1]; clear e1 h0
    go_wp2_with fail
    refine (zzHasOld HI1.out).mono ?_
    rintro e w2 ⟨rfl, rfl⟩
    by_cases ho : x.om = 0
    · rw [hasOld_false ho]
      have HO : Hid (x.om = 0) := ho
      clear ho
      go_wp2
      go_ret2
      exact ⟨HB1.out, 0, rfl, r, HR.out, .inr ⟨H0.out, .inl ⟨HO.out, rfl⟩⟩⟩
    · rw [hasOld_true ho]
      have HO : Hid (x.om ≠ 0) := ho
      clear ho
      go_wp2_with fail
      refine (zzFindOld HI1.out h HO.out (HS.out.pwO HO.out) HS.out.leO (HS.out.freeO HO.out)).mono ?_
      rintro e w3 ⟨hb3, r', hr', rfl⟩
      have HB3 : Hid (Below w.heap.size w w3) := HB1.out.trans (hb3.mono HB1.out.size)
      have HI3 : Hid (IxAt w3 b pb ob x) := HI1.out.ext hb3
      have HR' : Hid (IsProbe (stopF x.O h) x.om (h % x.om) r') := hr'
      clear hb3 HI1 hr' HB1
      by_cases h0' : (x.O r').2 = 0
      · have e1 : findV x.O r' = .tuple #[.int .i64 0, .bool false] := by simp [findV, h0']
        have H0' : Hid ((x.O r').2 = 0) := h0'
        rw [e1]; clear e1 h0'
        go_wp2
        go_ret2
        exact ⟨HB3.out, 0, rfl, r, HR.out, .inr ⟨H0.out, .inr ⟨HO.out, r', HR'.out, H0'.out.symm⟩⟩⟩
      · have e1 : findV x.O r' = .tuple #[.int .i64 (r' : Int), .bool true] := by simp [findV, h0']
        have H0' : Hid ((x.O r').2 ≠ 0) := h0'
        rw [e1]; clear e1 h0'
        go_wp2_with fail
        refine (zzOldPlaceAt HI3.out HO.out r' HR'.out.lt HS.out.leO).mono ?_
        rintro e w4 ⟨rfl, hb4⟩
        have HB4 : Hid (Below w.heap.size w w4) := HB3.out.trans (hb4.mono HB3.out.size)
        clear hb4
        go_wp2
        go_ret2
        exact ⟨HB4.out, (x.O r').2, by rw [lookV_pos H0'.out]; rfl, r, HR.out, .inr ⟨H0.out, .inr ⟨HO.out, r', HR'.out, rfl⟩⟩⟩
  · have e1 : findV x.P r = .tuple #[.int .i64 (r : Int), .bool true] := by simp [findV, h0]
    have H0 : Hid ((x.P r).2 ≠ 0) := h0
    rw [e1]; clear e1 h0
    go_wp2_with fail
    refine (zzPlaceAt HI1.out r HR.out.lt HS.out.le).mono ?_
    rintro e w2 ⟨rfl, hb2⟩
    have HB2 : Hid (Below w.heap.size w w2) := HB1.out.trans (hb2.mono HB1.out.size)
    clear hb2
    go_wp2
    go_ret2
    exact ⟨HB2.out, (x.P r).2, by rw [lookV_pos H0.out]; rfl, r, HR.out, .inl ⟨H0.out, rfl⟩⟩

theorem occupied_any {w : World} {b pb ob : Nat} {x : Ix} (hI : IxAt w b pb ob x) (hs : x.sz ≤ 16384) :
    Calls Try.prog 22 #[.pointer (some ⟨b, 0, none⟩)] w fun e w' => e = .returned (.int .i64 ((cnt (occB x.P) x.sz : Nat) : Int)) ∧ Below w.heap.size w w' := by
  have HI : Hid (IxAt w b pb ob x) := hI
  clear hI
  go_enter Try.func22, Try.ntmps22
  go_wp2_with fail
  go_loopw [3, 4] (fun c v wr => ∃ j : Nat, j ≤ x.sz ∧ v = .int .i64 j ∧ c = .int .i64 ((cnt (occB x.P) j : Nat) : Int) ∧ Hid (Below w.heap.size w wr)) (fun _ v _ => x.sz - (intOf v).toNat)
  case atStart => exact ⟨0, Nat.zero_le _, rfl, rfl, Below.refl _ _⟩
  case round =>
    obtain ⟨j, hj, rfl, rfl, hB⟩ := hrel
    have HI1 : Hid (IxAt wr b pb ob x) := HI.out.ext hB.out
    have hcl := cnt_le (occB x.P) j
    have HC : Hid (cnt (occB x.P) (j + 1) = cnt (occB x.P) j + (if occB x.P j then 1 else 0)) := rfl
    go_wp2_with fail
    refine (zzLen HI1.out).mono ?_
    rintro e w2 ⟨rfl, rfl⟩
    by_cases hlt : j < x.sz
    · go_wp2_with fail
      refine (zzPlaceAt HI1.out j hlt hs).mono ?_
      rintro e w3 ⟨rfl, hb3⟩
      have HB3 : Hid (Below w.heap.size w w3) := hB.out.trans (hb3.mono hB.out.size)
      clear hb3
      by_cases h0 : (x.P j).2 = 0
      · have e0 : (((x.P j).2 : Int) != 0) = false := by rw [h0]; rfl
        have HC' : Hid (cnt (occB x.P) (j + 1) = cnt (occB x.P) j) := by rw [HC.out, occB_false.2 h0]; rfl
        clear HC h0
        go_wp2
        go_roundw
        case rel => exact ⟨j + 1, by omega, by go_num, by rw [HC'.out], HB3⟩
        case measure => simp [intOf]; omega
      · have e0 : (((x.P j).2 : Int) != 0) = true := by rw [bne_iff_ne]; omega
        have HC' : Hid (cnt (occB x.P) (j + 1) = cnt (occB x.P) j + 1) := by rw [HC.out, occB_true.2 h0]; rfl
        clear HC h0
        go_wp2
        go_roundw
        case rel => exact ⟨j + 1, by omega, by go_num, by rw [HC'.out]; go_num, HB3⟩
        case measure => simp [intOf]; omega
    · have hj' : j = x.sz := by omega
      subst hj'
      go_wp2
      go_ret
      exact ⟨rfl, hB⟩

theorem liveOld_nil {w : World} {b pb ob : Nat} {x : Ix} (hI : IxAt w b pb ob x) (h0 : x.om = 0) :
    Calls Try.prog 32 #[.pointer (some ⟨b, 0, none⟩)] w fun e w' => e = .returned (.int .i64 0) ∧ w' = w := by
  have HI : Hid (IxAt w b pb ob x) := hI
  clear hI
  go_enter Try.func32, Try.ntmps32
  go_wp2_with fail
  refine (zzHasOld HI.out).mono ?_
  rintro e w2 ⟨rfl, rfl⟩
  rw [hasOld_false h0]
  go_wp2
  go_ret
  exact ⟨rfl, rfl⟩

theorem liveB_eq (T : Tab) (j : Nat) : liveB T j = liveN (T j).2 := rfl

theorem liveOld_some {w : World} {b pb ob : Nat} {x : Ix} (hI : IxAt w b pb ob x) (h0 : x.om ≠ 0) (hs : x.om ≤ 16384) :
    Calls Try.prog 32 #[.pointer (some ⟨b, 0, none⟩)] w fun e w' => e = .returned (.int .i64 ((cnt (liveB x.O) x.om : Nat) : Int)) ∧ Below w.heap.size w w' := by
  have HI : Hid (IxAt w b pb ob x) := hI
  have H0 : Hid (x.om ≠ 0) := h0
  clear hI
  go_enter Try.func32, Try.ntmps32
  go_wp2_with fail
  refine (zzHasOld HI.out).mono ?_
  rintro e w2 ⟨rfl, rfl⟩
  rw [hasOld_true h0]
  clear h0
  go_wp2_with fail
  go_loopw [3, 4] (fun c v wr => ∃ j : Nat, j ≤ x.om ∧ v = .int .i64 j ∧ c = .int .i64 ((cnt (liveB x.O) j : Nat) : Int) ∧ Hid (Below w2.heap.size w2 wr)) (fun _ v _ => x.om - (intOf v).toNat)
  case atStart => exact ⟨0, Nat.zero_le _, rfl, rfl, Below.refl _ _⟩
  case round =>
    obtain ⟨j, hj, rfl, rfl, hB⟩ := hrel
    have HI1 : Hid (IxAt wr b pb ob x) := HI.out.ext hB.out
    have hcl := cnt_le (liveB x.O) j
    have HC : Hid (cnt (liveB x.O) (j + 1) = cnt (liveB x.O) j + (if liveB x.O j then 1 else 0)) := rfl
    go_wp2_with fail
    refine (zzOldLen HI1.out).mono ?_
    rintro e w2 ⟨rfl, rfl⟩
    by_cases hlt : j < x.om
    · go_wp2_with fail
      refine (zzOldPlaceAt HI1.out H0.out j hlt hs).mono ?_
      rintro e w3 ⟨rfl, hb3⟩
      have HB3 : Hid (Below _ _ w3) := hB.out.trans (hb3.mono hB.out.size)
      clear hb3
      go_wp2_with fail
      refine (live_any _ _).mono ?_
      rintro e w4 ⟨rfl, rfl⟩
      cases hlv : liveN (x.O j).2 with
      | false =>
        have HC' : Hid (cnt (liveB x.O) (j + 1) = cnt (liveB x.O) j) := by rw [HC.out, liveB_eq, hlv]; rfl
        clear HC hlv
        go_wp2
        go_roundw
        case rel => exact ⟨j + 1, by omega, by go_num, by rw [HC'.out], HB3⟩
        case measure => simp [intOf]; omega
      | true =>
        have HC' : Hid (cnt (liveB x.O) (j + 1) = cnt (liveB x.O) j + 1) := by rw [HC.out, liveB_eq, hlv]; rfl
        clear HC hlv
        go_wp2
        go_roundw
        case rel => exact ⟨j + 1, by omega, by go_num, by rw [HC'.out]; go_num, HB3⟩
        case measure => simp [intOf]; omega
    · have hj' : j = x.om := by omega
      subst hj'
      go_wp2
      go_ret
      exact ⟨rfl, hB⟩

theorem reachable_any {w : World} {b pb ob : Nat} {x : Ix} (hI : IxAt w b pb ob x) (hs : Shape x)
    (hre : ∀ j r, j < x.sz → (x.P j).2 ≠ 0 → IsProbe (stopF x.P (x.P j).1) x.sz ((x.P j).1 % x.sz) r → r = j) :
    Calls Try.prog 24 #[.pointer (some ⟨b, 0, none⟩)] w fun e w' => e = .returned (.bool true) ∧ Below w.heap.size w w' := by
  have HI : Hid (IxAt w b pb ob x) := hI
  have HS : Hid (Shape x) := hs
  have hle := hs.le
  have HR : Hid (∀ j r, j < x.sz → (x.P j).2 ≠ 0 → IsProbe (stopF x.P (x.P j).1) x.sz ((x.P j).1 % x.sz) r → r = j) := hre
  clear hI hs hre
  go_enter Try.func24, Try.ntmps24
  go_wp2_with fail
  go_loopw [3] (fun v wr => ∃ j : Nat, j ≤ x.sz ∧ v = .int .i64 j ∧ Hid (Below w.heap.size w wr)) (fun v _ => x.sz - (intOf v).toNat)
  case atStart => exact ⟨0, Nat.zero_le _, rfl, Below.refl _ _⟩
  case round =>
    obtain ⟨j, hj, rfl, hB⟩ := hrel
    have HI1 : Hid (IxAt wr b pb ob x) := HI.out.ext hB.out
    go_wp2_with fail
    refine (zzLen HI1.out).mono ?_
    rintro e w2 ⟨rfl, rfl⟩
    by_cases hlt : j < x.sz
    · go_wp2_with fail
      refine (zzPlaceAt HI1.out j hlt HS.out.le).mono ?_
      rintro e w3 ⟨rfl, hb3⟩
      have HB3 : Hid (Below w.heap.size w w3) := hB.out.trans (hb3.mono hB.out.size)
      have HI3 : Hid (IxAt w3 b pb ob x) := HI1.out.ext hb3
      clear hb3
      by_cases h0 : (x.P j).2 = 0
      · have e0 : (((x.P j).2 : Int) == 0) = true := by rw [h0]; rfl
        clear h0
        go_wp2
        go_roundw
        case rel => exact ⟨j + 1, by omega, by go_num, HB3⟩
        case measure => simp [intOf]; omega
      · have e0 : (((x.P j).2 : Int) == 0) = false := by rw [beq_eq_false_iff_ne]; omega
        have H0 : Hid ((x.P j).2 ≠ 0) := h0
        clear h0
        go_wp2_with fail
        refine (zzFind HI3.out _ HS.out.pw HS.out.le HS.out.free).mono ?_
        rintro e w4 ⟨hb4, r, hr, rfl⟩
        have hrj := HR.out j r hlt H0.out hr
        subst hrj
        have HB4 : Hid (Below w.heap.size w w4) := HB3.out.trans (hb4.mono HB3.out.size)
        have e1 : findV x.P r = .tuple #[.int .i64 (r : Int), .bool true] := by simp [findV, H0.out]
        clear hb4 hr
        rw [e1]; clear e1
        go_wp2
        go_roundw
        case rel => exact ⟨r + 1, by omega, by go_num, HB4⟩
        case measure => simp [intOf]; omega
    · go_wp2
      go_ret
      exact ⟨rfl, hB⟩

theorem distinct_any (a : Option Addr) (l c k B : Nat) (hs : Nat → Nat) (w : World) (hl : SlU w B a l hs) (hk : k ≤ l) (hk2 : l ≤ 4096) :
    Calls Try.prog 33 #[.slice a l c, .int .i64 (k : Int)] w fun e w' => e = .returned (.int .i64 ((cnt (firstB hs) k : Nat) : Int)) ∧ Below w.heap.size w w' := by
  have HL : Hid (SlU w w.heap.size a l hs) := fun i hi => by
    obtain ⟨b, off, e, _, hc⟩ := hl i hi
    exact ⟨b, off, e, World.block_lt_of_cell? w ⟨b, off + i, none⟩ hc, hc⟩
  clear hl
  go_enter Try.func33, Try.ntmps33
  go_wp2_with fail
  go_loopw [5, 6] (fun c v wr => ∃ i : Nat, i ≤ k ∧ v = .int .i64 i ∧ c = .int .i64 ((cnt (firstB hs) i : Nat) : Int) ∧ Hid (Below w.heap.size w wr)) (fun _ v _ => k - (intOf v).toNat)
  case atStart => exact ⟨0, Nat.zero_le _, rfl, rfl, Below.refl _ _⟩
  case round =>
    obtain ⟨i, hi, rfl, rfl, hB⟩ := hrel
    have hcl := cnt_le (firstB hs) i
    have HC : Hid (cnt (firstB hs) (i + 1) = cnt (firstB hs) i + (if firstB hs i then 1 else 0)) := rfl
    by_cases hlt : i < k
    · go_wp2_with fail
      go_loopw [7, 8] (fun f v wr => ∃ j : Nat, j ≤ i ∧ v = .int .i64 j ∧ f = .bool true ∧ Hid (∀ t, t < j → hs t ≠ hs i) ∧ Hid (Below w.heap.size w wr)) (fun _ v _ => i - (intOf v).toNat)
      case atStart => exact ⟨0, Nat.zero_le _, rfl, rfl, fun t ht => by omega, hB⟩
      case round =>
        obtain ⟨j, hj, rfl, rfl, hq, hB2⟩ := hrel
        by_cases hjl : j < i
        · obtain ⟨b, off, rfl, hb, hc⟩ := HL.out i (by omega)
          obtain ⟨b', off', e', hb', hc'⟩ := HL.out j (by omega)
          cases e'
          have hci := (hB2.out.cell (p := ⟨b, off + i, none⟩) hb).trans hc
          have hcj := (hB2.out.cell (p := ⟨b, off + j, none⟩) hb).trans hc'
          have hil : (i : Int) < (l : Int) := by omega
          have hjl2 : (j : Int) < (l : Int) := by omega
          clear hc hc'
          by_cases he : hs j = hs i
          · have he' : (((hs j : Nat) : Int) == ((hs i : Nat) : Int)) = true := by rw [he]; simp
            have HC' : Hid (cnt (firstB hs) (i + 1) = cnt (firstB hs) i) := by rw [HC.out, firstB_false hjl he]; rfl
            clear he HC
            go_wp2_with fail
            go_quiet (fail)
            go_wp2
            go_roundw
            case rel => exact ⟨i + 1, by omega, by go_num, by rw [HC'.out], hB2.out.trans ((below_drewN' _).mono hB2.out.size)⟩
            case measure => simp [intOf]; omega
          · have he' : (((hs j : Nat) : Int) == ((hs i : Nat) : Int)) = false := by rw [beq_eq_false_iff_ne]; omega
            have HQ : Hid (∀ t, t < j + 1 → hs t ≠ hs i) := fun t ht => by
              by_cases e : t = j
              · subst e; exact he
              · exact hq.out t (by omega)
            clear he HC
            go_wp2_with fail
            go_quiet (fail)
            go_wp2
            go_roundw
            case rel => exact ⟨j + 1, by omega, by go_num, rfl, HQ, hB2.out.trans ((below_drewN' _).mono hB2.out.size)⟩
            case measure => simp [intOf]; omega
        · have hji : j = i := by omega
          subst hji
          have HC' : Hid (cnt (firstB hs) (j + 1) = cnt (firstB hs) j + 1) := by rw [HC.out, firstB_true hq.out]; rfl
          clear HC
          go_wp2
          go_roundw
          case rel => exact ⟨j + 1, by omega, by go_num, by rw [HC'.out]; go_num, hB2⟩
          case measure => simp [intOf]; omega
    · have hik : i = k := by omega
      subst hik
      go_wp2
      go_ret
      exact ⟨rfl, hB⟩

end Go.Proofs.Qxb6601018a
