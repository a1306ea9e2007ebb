/-
  pdqsortOrdered and slices.Sort at uint64: the row is sorted.
-/
import Derived.Test.Qxb6601576aHeap
import Derived.Test.Qxb6601576aPart
import Derived.Test.Qxb6601576aBreak
import Derived.Test.Qxb6601576aPartial
set_option linter.unusedVariables false
namespace Go.Proofs.Qxb6601576a
open Go.RowKit

/-- the loop's state -/
def PdqRel (v1 v2 v3 v8 v9 : Value) (w wr : World) (blk off n A B : Nat) (D : Row) : Prop :=
  ∃ (a b l : Nat) (wb wp : Bool) (E : Row), v1 = .int .i64 a ∧ v2 = .int .i64 b ∧ v3 = .int .i64 l ∧ v8 = .bool wb ∧ v9 = .bool wp ∧ l ≤ 1000 ∧
    Left w wr blk off n D E A B ∧ Hand E A a b B

/-- some row, in hand -/
def Row1 (w wc : World) (blk off n A a b B : Nat) (D : Row) : Prop := ∃ E : Row, Left w wc blk off n D E A B ∧ Hand E A a b B

theorem Row1.perm {w w1 w2 : World} {blk off n A a b B : Nat} {D E F : Row} (hl : Left w w1 blk off n D E A B) (hh : Hand E A a b B) (h : Left w1 w2 blk off n E F a b) : Row1 w w2 blk off n A a b B D :=
  ⟨F, hl.trans (h.mono hh.Aa hh.bB), hh.perm h.perm⟩

def LimR (v3 : Value) (w wc : World) (blk off n A a b B : Nat) (D : Row) : Prop := ∃ l : Nat, v3 = .int .i64 l ∧ l ≤ 1000 ∧ Row1 w wc blk off n A a b B D
def PivR (v11 v12 : Value) (w wc : World) (blk off n A a b B : Nat) (D : Row) : Prop := ∃ p h : Nat, v11 = .int .i64 p ∧ v12 = .int .i64 h ∧ a ≤ p ∧ p < b ∧ Row1 w wc blk off n A a b B D
def BoolV (v : Value) (w wc : World) : Prop := (∃ c : Bool, v = .bool c) ∧ wc = w

def EqV (v : Value) (w wc : World) (blk off n A a B p : Nat) (D H : Row) : Prop := ∃ c : Bool, v = .bool c ∧ (c = true → 0 < a ∧ H p ≤ H (a - 1)) ∧ Left w wc blk off n D H A B
theorem eqv_of {b : Bool} {H : Row} {a p : Nat} (ha : 0 < a) (hb : b = !decide (H (a - 1) < H p)) : b = true → 0 < a ∧ H p ≤ H (a - 1) := by
  intro h
  rw [hb] at h
  simp at h
  exact ⟨ha, h⟩

/-- what the sort leaves -/
def SortedL (w w' : World) (blk off n a b : Nat) (D : Row) : Prop := ∃ D', Left w w' blk off n D D' a b ∧ SortedR D' a b

theorem SortedL.of {w w1 w2 : World} {blk off n A a b B : Nat} {D E F : Row} (hl : Left w w1 blk off n D E A B) (hh : Hand E A a b B) (h : Left w1 w2 blk off n E F a b) (hs : SortedR F a b) : SortedL w w2 blk off n A B D :=
  ⟨F, hl.trans (h.mono hh.Aa hh.bB), (hh.perm h.perm).done hs⟩

set_option maxRecDepth 100000 in
set_option maxHeartbeats 32000000 in
theorem pdqsort_u64 (blk off n cap : Nat) (hn : n ≤ 1000) (N : Nat) : ∀ (A B L : Nat) (D : Row) (w : World), B - A ≤ N → RowAt .u64 w blk off n D → Ahead D A B → A ≤ B → B ≤ n → L ≤ 1000 →
    Calls Try.prog 37 #[.slice (some ⟨blk, off, none⟩) n cap, .int .i64 A, .int .i64 B, .int .i64 L] w fun e w' =>
      e = .returned (.tuple #[]) ∧ SortedL w w' blk off n A B D := by
  induction N using Nat.strongRecOn with
  | ind N ih =>
    intro A B L D w hN hR hA hAB hBn hL
    have IH : Hid _ := ih
    have HL : Hid (Left w w blk off n D D A B) := Left.start hR
    have HH : Hid (Hand D A A B B) := hand_start hAB hA
    clear hR hA ih
    go_enter Try.func37, Try.ntmps37
    go_wp2_with fail
    go_loopw [1, 2, 3, 8, 9] (fun v1 v2 v3 v8 v9 wr => PdqRel v1 v2 v3 v8 v9 w wr blk off n A B D) (fun v1 v2 v3 v8 v9 _ => (intOf v2 - intOf v1).toNat)
    case atStart => exact ⟨A, B, L, true, true, D, rfl, rfl, rfl, rfl, rfl, hL, HL.out, HH.out⟩
    case round =>
      obtain ⟨a, b, l, wb, wp, E, rfl, rfl, rfl, rfl, rfl, hl, hL1, hH1⟩ := hrel
      have hAa := hH1.Aa
      have hab := hH1.ab
      have hbB := hH1.bB
      have HL1 : Hid (Left w wr blk off n D E A B) := hL1
      have HH1 : Hid (Hand E A a b B) := hH1
      clear hL1 hH1 HL HH
      by_cases h12 : b - a ≤ 12
      · have h12i : (b : Int) - a ≤ 12 := by omega
        go_wp2_with fail
        refine (insertionSort_u64 blk off n cap a b E wr HL1.out.row hab (by omega) hn).mono ?_
        rintro e w1 ⟨rfl, F, hF, hS⟩
        have HX : Hid (SortedL w w1 blk off n A B D) := SortedL.of HL1.out HH1.out hF hS
        clear hF hS
        go_wp2_with fail
        exact bodyPost_ret (results_none Try.results37 _ _ _) rfl ⟨rfl, HX.out⟩
      · have h12i : ¬ (b : Int) - a ≤ 12 := by omega
        by_cases hl0 : l = 0
        · subst hl0
          go_wp2_with fail
          refine (heapSort_u64 blk off n cap a b E wr HL1.out.row hab (by omega) hn).mono ?_
          rintro e w1 ⟨rfl, F, hF, hS⟩
          have HX : Hid (SortedL w w1 blk off n A B D) := SortedL.of HL1.out HH1.out hF hS
          clear hF hS
          go_wp2_with fail
          exact bodyPost_ret (results_none Try.results37 _ _ _) rfl ⟨rfl, HX.out⟩
        · have hl0b : ((l : Int) == 0) = false := by simp; omega
          go_upto_if 35 with fail
          go_cut [3] (fun v3 wc => LimR v3 w wc blk off n A a b B D)
          case first =>
            cases wb with
            | true =>
              go_wp2_with fail
              go_meet
              case rel => exact ⟨l, rfl, hl, E, HL1.out, HH1.out⟩
            | false =>
              go_wp2_with fail
              refine (breakPatterns_u64 blk off n cap a b E wr HL1.out.row hab (by omega) hn).mono ?_
              rintro e w1 ⟨rfl, F, hF⟩
              have HX : Hid (Row1 w w1 blk off n A a b B D) := Row1.perm HL1.out HH1.out hF
              clear hF
              go_wp2_with fail
              go_meet
              case rel => exact ⟨l - 1, by congr 1; omega, by omega, HX.out⟩
          case rest =>
            obtain ⟨l2, rfl, hl2, F, hL2, hH2⟩ := hcut
            have HL2 : Hid (Left w wc blk off n D F A B) := hL2
            have HH2 : Hid (Hand F A a b B) := hH2
            clear hL2 hH2 HL1 HH1
            go_wp2_with fail
            refine (choosePivot_u64 blk off n cap a b F wc HL2.out.row (by omega) (by omega) hn).mono ?_
            rintro e w3 ⟨p0, h0, rfl, ⟨hp1, hp2⟩, hB3⟩
            have HL3 : Hid (Left w w3 blk off n D F A B) := ⟨HL2.out.row.ext hB3, HL2.out.fr.trans' (Fr.of_below hB3), HL2.out.perm⟩
            clear hB3 HL2
            go_upto_if 50 with fail
            go_cut [11, 12] (fun v11 v12 wc => PivR v11 v12 w wc blk off n A a b B D)
            case first =>
              by_cases hh : h0 = 2
              · subst hh
                go_wp2_with fail
                refine (reverseRange_u64 blk off n cap a b F w3 HL3.out.row hab (by omega) hn).mono ?_
                rintro e w4 ⟨rfl, G, hG⟩
                have HX : Hid (Row1 w w4 blk off n A a b B D) := Row1.perm HL3.out HH2.out hG
                clear hG
                go_wp2_with fail
                go_meet
                case rel => exact ⟨(b - 1) - (p0 - a), 1, by congr 1; omega, rfl, by omega, by omega, HX.out⟩
              · have hhb : ((h0 : Int) == 2) = false := by simp; omega
                go_wp2_with fail
                go_meet
                case rel => exact ⟨p0, h0, rfl, rfl, hp1, hp2, F, HL3.out, HH2.out⟩
            case rest =>
              obtain ⟨p, h, rfl, rfl, hpa, hpb, G, hL4, hH4⟩ := hcut
              have HL4 : Hid (Left w wc blk off n D G A B) := hL4
              have HH4 : Hid (Hand G A a b B) := hH4
              clear hL4 hH4 HL3 HH2 hp1 hp2
              obtain ⟨w4, e4⟩ : ∃ w4, w4 = wc := ⟨_, rfl⟩
              subst e4
              go_upto_region 15 with fail
              go_cut [68] (fun v68 wc => BoolV v68 w4 wc)
              case first =>
                cases wb <;> cases wp
                all_goals go_wp2_with fail
                · go_meet
                  case rel => exact ⟨⟨_, rfl⟩, rfl⟩
                · go_meet
                  case rel => exact ⟨⟨_, rfl⟩, rfl⟩
                · go_meet
                  case rel => exact ⟨⟨_, rfl⟩, rfl⟩
                · go_meet
                  case rel => exact ⟨⟨_, rfl⟩, rfl⟩
              case rest =>
                obtain ⟨⟨c, rfl⟩, rfl⟩ := hcut
                go_upto_if 68 with fail
                go_cut [] (fun wc => Row1 w wc blk off n A a b B D)
                case first =>
                  cases c with
                  | false =>
                    go_wp2_with fail
                    go_meet
                    case rel => exact ⟨G, HL4.out, HH4.out⟩
                  | true =>
                    go_wp2_with fail
                    refine (partialInsertion_u64 blk off n cap a b G _ HL4.out.row HH4.out.ahead' (by omega) (by omega) hn).mono ?_
                    rintro e w5 ⟨G2, c2, rfl, hG2, hS2⟩
                    have HX : Hid (Row1 w w5 blk off n A a b B D) := Row1.perm HL4.out HH4.out hG2
                    cases c2 with
                    | true =>
                      have HY : Hid (SortedL w w5 blk off n A B D) := SortedL.of HL4.out HH4.out hG2 (hS2 rfl)
                      clear hG2 hS2
                      go_wp2_with fail
                      exact bodyPost_ret (results_none Try.results37 _ _ _) rfl ⟨rfl, HY.out⟩
                    | false =>
                      clear hG2 hS2
                      go_wp2_with fail
                      go_meet
                      case rel => exact HX.out
                case rest =>
                  obtain ⟨H, hL5, hH5⟩ := hcut
                  have hcw := hL5.row.cell
                  have hfw := hL5.row.fz
                  obtain ⟨w5, e5⟩ : ∃ w5, w5 = wc := ⟨_, rfl⟩
                  subst e5
                  have HL5 : Hid (Left w w5 blk off n D H A B) := hL5
                  have HH5 : Hid (Hand H A a b B) := hH5
                  clear hL5 hH5 HL4 HH4
                  go_upto_region 17 with fail
                  go_cut [87] (fun v87 wc => EqV v87 w wc blk off n A a B p D H)
                  case first =>
                    by_cases ha0 : 0 < a
                    · have ha0i : 0 < (a : Int) := by omega
                      go_big_quiet (first | (go_at_call 45; refine Calls.quiet_of_same (less_u64 _ _ _)))
                      go_wp2_with fail
                      go_meet
                      case rel => exact ⟨_, rfl, eqv_of ha0 rfl, HL5.out.drewN nq⟩
                    · have ha0i : ¬ 0 < (a : Int) := by omega
                      go_big_quiet (first | (go_at_call 45; refine Calls.quiet_of_same (less_u64 _ _ _)))
                      go_wp2_with fail
                      go_meet
                      case rel => exact ⟨false, rfl, (fun hh => by cases hh), HL5.out.drewN nq⟩
                  case rest =>
                    obtain ⟨c, rfl, hc, hL6⟩ := hcut
                    obtain ⟨w6, e6⟩ : ∃ w6, w6 = wc := ⟨_, rfl⟩
                    subst e6
                    have HL6 : Hid (Left w w6 blk off n D H A B) := hL6
                    have HC : Hid (c = true → 0 < a ∧ H p ≤ H (a - 1)) := hc
                    clear hL6 hc hcw hfw HL5
                    cases c with
                    | true =>
                      go_wp2_with fail
                      refine (partitionEqual_u64 blk off n cap a b p H _ HL6.out.row hpa hpb (by omega) hn).mono ?_
                      rintro e w7 ⟨I, m, rfl, hI, hE⟩
                      have hm1 := hE.am
                      have HX : Hid (Left w w7 blk off n D I A B ∧ Hand I A m b B) := by
                        have hah : 0 < a ∧ H p ≤ H (a - 1) := by first | exact HC.out rfl | exact HC.out trivial | exact HC.out
                        refine ⟨HL6.out.trans (hI.mono hAa hbB), ((HH5.out.perm hI.perm).equal hE hah.1 ?_)⟩
                        rw [hI.perm.out (t := a - 1) (by omega)]
                        exact hah.2
                      clear hI hE
                      go_wp2_with fail
                      go_roundw
                      case rel => exact ⟨m, b, l2, _, _, I, rfl, rfl, rfl, rfl, rfl, hl2, HX.out.1, HX.out.2⟩
                      case measure => simp [intOf]; omega
                    | false =>
                      go_wp2_with fail
                      refine (partition_u64 blk off n cap a b p H _ HL6.out.row hpa hpb (by omega) hn).mono ?_
                      rintro e w7 ⟨I, m, c7, rfl, hI, hP⟩
                      have hm1 := hP.am
                      have hm2 := hP.mb
                      have HL7 : Hid (Left w w7 blk off n D I A B) := HL6.out.trans (hI.mono hAa hbB)
                      have HH7 : Hid (Hand I A a b B) := HH5.out.perm hI.perm
                      have HP7 : Hid (Parted I a m b (H p)) := hP
                      clear hI hP HL6 HH5 HC
                      go_wp2_with fail
                      · have hcall := IH.out (m - a) (by omega) a m l2 I w7 (Nat.le_refl _) HL7.out.row (HP7.out.aheadL HH7.out.ahead') hm1 (by omega) hl2
                        refine hcall.mono ?_
                        clear hcall
                        rintro e w8 ⟨rfl, J, hJ, hS⟩
                        have HX : Hid (Left w w8 blk off n D J A B ∧ Hand J A (m + 1) b B) :=
                          ⟨HL7.out.trans (hJ.mono hAa (by omega)), HH7.out.left HP7.out hJ.perm hS⟩
                        clear hJ hS
                        go_wp2_with fail
                        go_roundw
                        case rel => exact ⟨m + 1, b, l2, _, _, J, by go_num, rfl, rfl, rfl, rfl, hl2, HX.out.1, HX.out.2⟩
                        case measure => simp [intOf]; omega
                      · have hcall := IH.out (b - (m + 1)) (by omega) (m + 1) b l2 I w7 (Nat.le_refl _) HL7.out.row HP7.out.aheadR (by omega) (by omega) hl2
                        rw [show ((m + 1 : Nat) : Int) = (m : Int) + 1 by omega] at hcall
                        refine hcall.mono ?_
                        clear hcall
                        rintro e w8 ⟨rfl, J, hJ, hS⟩
                        have HX : Hid (Left w w8 blk off n D J A B ∧ Hand J A a m B) :=
                          ⟨HL7.out.trans (hJ.mono (by omega) hbB), HH7.out.right HP7.out hJ.perm hS⟩
                        clear hJ hS
                        go_wp2_with fail
                        go_roundw
                        case rel => exact ⟨a, m, l2, _, _, J, rfl, rfl, rfl, rfl, rfl, hl2, HX.out.1, HX.out.2⟩
                        case measure => simp [intOf]; omega

set_option maxHeartbeats 4000000 in
/-- slices.Sort at uint64 -/
theorem sort_u64 (blk off n cap : Nat) (hn : n ≤ 1000) (D : Row) (w : World) (hR : RowAt .u64 w blk off n D) :
    Calls Try.prog 35 #[.slice (some ⟨blk, off, none⟩) n cap] w fun e w' => e = .returned (.tuple #[]) ∧ SortedL w w' blk off n 0 n D := by
  have hk := bitLen_ok ⟨n, by omega⟩
  have hk1 : Lib.bitLen n ≤ 10 := hk.1
  clear hk
  have hcall := len_u64 n w (by omega) (by omega)
  rw [Int.toNat_natCast] at hcall
  have hpdq := pdqsort_u64 blk off n cap hn n 0 n (Lib.bitLen n) D w (by omega) hR (fun t h1 h2 h3 => by omega) (by omega) (by omega) (by omega)
  clear hR
  go_enter Try.func35, Try.ntmps35
  go_wp2_with fail
  refine hcall.mono ?_
  clear hcall
  rintro e w' ⟨rfl, rfl⟩
  go_wp2_with fail
  refine hpdq.mono ?_
  clear hpdq
  rintro e w2 ⟨rfl, h2⟩
  have H2 : Hid _ := h2
  clear h2
  go_wp2_with fail
  go_end0
  exact ⟨rfl, H2.out⟩

end Go.Proofs.Qxb6601576a
