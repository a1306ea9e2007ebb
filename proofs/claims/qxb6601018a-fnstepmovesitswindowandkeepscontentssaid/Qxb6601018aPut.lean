/-
  THE WALKS of release, resize and put on an index that grows.
-/
import Derived.Test.Qxb6601018aStep
set_option linter.unusedVariables false
namespace Go.Proofs.Qxb6601018a
open Go.RowKit

theorem release_old {w : World} {b pb ob : Nat} {x : Ix} (h : IxAt w b pb ob x) (h0 : x.om ≠ 0) (hp : Pw x.om) (hle : x.om ≤ 16384) (hex : ∃ q, q < x.om ∧ (x.O q).2 = 0) (k : Nat) :
    Calls Try.prog 49 #[.pointer (some ⟨b, 0, none⟩), .int .u64 (k : Int)] w fun e w' => e = .returned (.tuple #[]) ∧ Fr [b, pb, ob] w w' ∧ ∃ x1, RelR x k x1 ∧ IxAt w' b pb ob x1 := by
  have c2 := h.c2old h0
  have HI : Hid (IxAt w b pb ob x) := h
  have H0 : Hid (x.om ≠ 0) := h0
  have HF : Hid (Calls Try.prog 41 #[.slice (some ⟨ob, 0, none⟩) x.om x.om, .int .u64 (k : Int)] w fun e w' => Below w.heap.size w w' ∧ ∃ r, IsProbe (stopF x.O k) x.om (k % x.om) r ∧ e = .returned (findV x.O r)) :=
    find_any ob x.om k x.O w (h.old h0) hp hle hex
  clear h hp hex h0
  have hnil := eqNil52
  go_enter Try.func49, Try.ntmps49
  go_wp2_with fail
  refine HF.out.mono ?_
  rintro e w1 ⟨hb1, r, hr, rfl⟩
  have HR : Hid (IsProbe (stopF x.O k) x.om (k % x.om) r) := hr
  have HI1 : Hid (IxAt w1 b pb ob x) := HI.out.ext hb1
  have HF1 : Hid (Fr [b, pb, ob] w w1) := Fr.of_below hb1
  clear hb1 hr c2 HF
  by_cases hz : (x.O r).2 = 0
  · have e1 : findV x.O r = .tuple #[.int .i64 0, .bool false] := by simp [findV, hz]
    rw [e1]
    have HZ : Hid ((x.O r).2 = 0) := hz
    clear e1 hz
    go_wp2
    go_end0
    exact ⟨rfl, HF1.out, x, .inr ⟨H0.out, r, HR.out, .inl ⟨HZ.out, rfl⟩⟩, HI1.out⟩
  · have e1 : findV x.O r = .tuple #[.int .i64 (r : Int), .bool true] := by simp [findV, hz]
    rw [e1]
    have HZ : Hid ((x.O r).2 ≠ 0) := hz
    have c2 := HI1.out.c2old H0.out
    have hrl := HR.out.lt
    have hrl' : (r : Int) < (x.om : Int) := by omega
    have t1 := (HI1.out.old H0.out).cell1 hrl
    have g1 := (HI1.out.old H0.out).frozen (r * 2 + 1)
    have HI2 : Hid (IxAt (w1.setCell ⟨ob, r * 2 + 1, none⟩ (.int .u64 18446744073709551615)) b pb ob { x with O := upd x.O r ((x.O r).1, gone) }) := HI1.out.setGone H0.out r
    have HF2 : Hid (Fr [b, pb, ob] w (w1.setCell ⟨ob, r * 2 + 1, none⟩ (.int .u64 18446744073709551615))) := HF1.out.setCell (.inl (by simp)) _
    have HRR : Hid (RelR x k { x with O := upd x.O r ((x.O r).1, gone) }) := .inr ⟨H0.out, r, HR.out, .inr ⟨HZ.out, rfl⟩⟩
    clear e1 hz HZ
    generalize (x.O r).2 = tl at *
    go_wp2
    go_end0
    exact ⟨rfl, HF2.out, _, HRR, HI2.out⟩

theorem resize_ix {w : World} {b pb ob : Nat} {x : Ix} (h : IxAt w b pb ob x) (h8 : 8 ≤ x.sz) :
    IxAt (((((w.setCell ⟨b, 2, none⟩ (.slice (some ⟨pb, 0, none⟩) x.sz x.sz)).setCell ⟨b, 3, none⟩ (.int .i64 0)).setCell ⟨b, 0, none⟩ (.slice (some ⟨w.heap.size, 0, none⟩) (2 * x.sz) (2 * x.sz))).setCell ⟨b, 1, none⟩ (.int .i64 0)).alloc (.cells (madeCells #[.int .u64 0, .int .u64 0] (2 * x.sz * 2)) 59)) b w.heap.size pb (resized x) ∧
    Fr [b, pb] w (((((w.setCell ⟨b, 2, none⟩ (.slice (some ⟨pb, 0, none⟩) x.sz x.sz)).setCell ⟨b, 3, none⟩ (.int .i64 0)).setCell ⟨b, 0, none⟩ (.slice (some ⟨w.heap.size, 0, none⟩) (2 * x.sz) (2 * x.sz))).setCell ⟨b, 1, none⟩ (.int .i64 0)).alloc (.cells (madeCells #[.int .u64 0, .int .u64 0] (2 * x.sz * 2)) 59)) := by
  have hbl := h.lt
  have hpl := h.tab.lt
  have hne := h.ne1
  have e1 := hd_set 2 (.slice (some ⟨pb, 0, none⟩) x.sz x.sz) h.hd
  have e2 := hd_set 3 (.int .i64 0) e1
  have e3 := hd_set 0 (.slice (some ⟨w.heap.size, 0, none⟩) (2 * x.sz) (2 * x.sz)) e2
  have e4 := hd_set 1 (.int .i64 0) e3
  have hT := (((h.tab.setOther (a := ⟨b, 2, none⟩) (Ne.symm hne) (.slice (some ⟨pb, 0, none⟩) x.sz x.sz)).setOther (a := ⟨b, 3, none⟩) (Ne.symm hne) (.int .i64 0)).setOther (a := ⟨b, 0, none⟩) (Ne.symm hne) (.slice (some ⟨w.heap.size, 0, none⟩) (2 * x.sz) (2 * x.sz))).setOther (a := ⟨b, 1, none⟩) (Ne.symm hne) (.int .i64 0)
  have hF : Fr [b, pb] w ((((w.setCell ⟨b, 2, none⟩ (.slice (some ⟨pb, 0, none⟩) x.sz x.sz)).setCell ⟨b, 3, none⟩ (.int .i64 0)).setCell ⟨b, 0, none⟩ (.slice (some ⟨w.heap.size, 0, none⟩) (2 * x.sz) (2 * x.sz))).setCell ⟨b, 1, none⟩ (.int .i64 0)) :=
    ((((Fr.refl _ _).setCell (.inl (by simp)) _).setCell (.inl (by simp)) _).setCell (.inl (by simp)) _).setCell (.inl (by simp)) _
  have hs : ((((w.setCell ⟨b, 2, none⟩ (.slice (some ⟨pb, 0, none⟩) x.sz x.sz)).setCell ⟨b, 3, none⟩ (.int .i64 0)).setCell ⟨b, 0, none⟩ (.slice (some ⟨w.heap.size, 0, none⟩) (2 * x.sz) (2 * x.sz))).setCell ⟨b, 1, none⟩ (.int .i64 0)).heap.size = w.heap.size := by simp
  generalize ((((w.setCell ⟨b, 2, none⟩ (.slice (some ⟨pb, 0, none⟩) x.sz x.sz)).setCell ⟨b, 3, none⟩ (.int .i64 0)).setCell ⟨b, 0, none⟩ (.slice (some ⟨w.heap.size, 0, none⟩) (2 * x.sz) (2 * x.sz))).setCell ⟨b, 1, none⟩ (.int .i64 0)) = W at *
  refine ⟨⟨?_, ?_, fun _ => hT.alloc _, by omega, fun _ => ⟨hne, by omega⟩⟩, hF.alloc _⟩
  · show (W.alloc _).heap[b]? = _
    rw [Below.heap_alloc _ _ _ (by omega), e4]
    have : oldV (resized x) pb = .slice (some ⟨pb, 0, none⟩) x.sz x.sz := oldV_some (x := resized x) (show x.sz ≠ 0 by omega)
    rw [this]; rfl
  · have := TabAt_made (2 * x.sz) W
    rw [hs] at this; exact this

set_option maxHeartbeats 1000000 in
theorem resize_any {w : World} {b pb ob : Nat} {x : Ix} {M : Nat → Nat} {c : Nat} (h : IxAt w b pb ob x) (hC : Core x M c) (h0 : x.om = 0) (hlt : c < x.sz) (hgt : 3 * (2 * x.sz) < 8 * c) :
    Calls Try.prog 50 #[.pointer (some ⟨b, 0, none⟩), .int .i64 (2 * (x.sz : Int))] w fun e w' => e = .returned (.tuple #[]) ∧ Fr [b, pb] w w' ∧ ∃ x', StepPost (resized x) x' M c ∧ IxAt w' b w.heap.size pb x' := by
  have hsz : 2 * x.sz ≤ 16384 := by have := hC.cle; omega
  have hmk := make_places (2 * x.sz) hsz
  have e2 : ((2 * x.sz : Nat) : Int) = 2 * (x.sz : Int) := by omega
  rw [e2] at hmk
  clear e2
  have c0 := h.c0
  have c1 := h.c1
  have c2 := h.c2nil h0
  have c3 := h.c3
  have f0 := h.fz 0
  have f1 := h.fz 1
  have f2 := h.fz 2
  have f3 := h.fz 3
  have hbl := h.lt
  have hix := resize_ix h hC.sz8
  have HIx : Hid (IxAt (((((w.setCell ⟨b, 2, none⟩ (.slice (some ⟨pb, 0, none⟩) x.sz x.sz)).setCell ⟨b, 3, none⟩ (.int .i64 0)).setCell ⟨b, 0, none⟩ (.slice (some ⟨w.heap.size, 0, none⟩) (2 * x.sz) (2 * x.sz))).setCell ⟨b, 1, none⟩ (.int .i64 0)).alloc (.cells (madeCells #[.int .u64 0, .int .u64 0] (2 * x.sz * 2)) 59)) b w.heap.size pb (resized x)) := hix.1
  have HFx : Hid (Fr [b, pb] w (((((w.setCell ⟨b, 2, none⟩ (.slice (some ⟨pb, 0, none⟩) x.sz x.sz)).setCell ⟨b, 3, none⟩ (.int .i64 0)).setCell ⟨b, 0, none⟩ (.slice (some ⟨w.heap.size, 0, none⟩) (2 * x.sz) (2 * x.sz))).setCell ⟨b, 1, none⟩ (.int .i64 0)).alloc (.cells (madeCells #[.int .u64 0, .int .u64 0] (2 * x.sz * 2)) 59))) := hix.2
  have HCr : Hid (Core (resized x) M c) := (core_resize hC h0 hlt hgt).1
  have H00 : Hid ((resized x).om ≠ 0) := by show x.sz ≠ 0; have := hC.sz8; omega
  have HLt : Hid (c < (resized x).sz) := by show c < 2 * x.sz; omega
  clear hix h hC h0 hlt hgt
  generalize hmc : madeCells #[.int .u64 0, .int .u64 0] (2 * x.sz * 2) = mc at *
  clear hmc
  go_enter Try.func50, Try.ntmps50
  go_wp2_with fail
  refine (step_old HIx.out H00.out HCr.out HLt.out).mono ?_
  rintro e w' ⟨rfl, hF, x', hP, hI⟩
  have HF : Hid (Fr [b, pb] w w') := HFx.out.trans hF (fun z hz => by
    simp at hz
    rcases hz with rfl | rfl | rfl
    · exact .inl (by simp)
    · exact .inr (Nat.le_refl _)
    · exact .inl (by simp))
  have HP : Hid (StepPost (resized x) x' M c) := hP
  have HI' : Hid (IxAt w' b w.heap.size pb x') := hI
  clear hF hP hI HFx HIx
  go_wp2
  go_end0
  exact ⟨rfl, HF.out, x', HP.out, HI'.out⟩

/-! ### An index whose blocks are from B on -/
def IxO (B : Nat) (w : World) (b : Nat) (x : Ix) : Prop := ∃ pb ob, B ≤ b ∧ B ≤ pb ∧ (x.om ≠ 0 → B ≤ ob) ∧ IxAt w b pb ob x

theorem IxO.ext {B b : Nat} {w w' : World} {x : Ix} (h : IxO B w b x) (hb : Below w.heap.size w w') : IxO B w' b x := by
  obtain ⟨pb, ob, h1, h2, h3, hI⟩ := h
  exact ⟨pb, ob, h1, h2, h3, hI.ext hb⟩

theorem relR_fields {x x1 : Ix} {k : Nat} (h : RelR x k x1) : x1.om = x.om ∧ x1.sz = x.sz ∧ x1.P = x.P ∧ x1.n = x.n ∧ x1.nx = x.nx := by
  rcases h with ⟨_, rfl⟩ | ⟨_, _, _, ⟨_, rfl⟩ | ⟨_, rfl⟩⟩ <;> exact ⟨rfl, rfl, rfl, rfl, rfl⟩

theorem release_any {B : Nat} {w : World} {b pb ob : Nat} {x : Ix} {M : Nat → Nat} {c : Nat} (h : IxAt w b pb ob x) (hC : Core x M c) (hb1 : B ≤ b) (hb2 : B ≤ pb) (hb3 : x.om ≠ 0 → B ≤ ob) (k : Nat) :
    Calls Try.prog 49 #[.pointer (some ⟨b, 0, none⟩), .int .u64 (k : Int)] w fun e w' => e = .returned (.tuple #[]) ∧ Below B w w' ∧ ∃ x1, RelR x k x1 ∧ IxAt w' b pb ob x1 := by
  by_cases h0 : x.om = 0
  · refine (release_nil h h0 k).mono ?_
    rintro e w' ⟨rfl, rfl⟩
    exact ⟨rfl, Below.refl _ _, x, .inl ⟨h0, rfl⟩, h⟩
  · have hO := hC.old h0
    refine (release_old h h0 hO.pwO (by have := hC.om_le; omega) hO.free k).mono ?_
    rintro e w' ⟨rfl, hF, x1, hR, hI⟩
    refine ⟨rfl, hF.below (fun z hz => ?_) (by have := h.lt; omega), x1, hR, hI⟩
    simp at hz
    rcases hz with rfl | rfl | rfl
    · exact hb1
    · exact hb2
    · exact hb3 h0

def StepAny (x x' : Ix) (M : Nat → Nat) (c : Nat) : Prop := (x.om = 0 ∧ x' = x) ∨ (x.om ≠ 0 ∧ StepPost x x' M c)

theorem StepAny.om {x x' : Ix} {M : Nat → Nat} {c : Nat} (h : StepAny x x' M c) (h0 : x'.om ≠ 0) : x.om ≠ 0 := by
  rcases h with ⟨h1, rfl⟩ | ⟨h1, _⟩
  · exact h0
  · exact h1

theorem StepAny.core {x x' : Ix} {M : Nat → Nat} {c : Nat} (h : StepAny x x' M c) (hC : Core x M c) : Core x' M c := by
  rcases h with ⟨h1, rfl⟩ | ⟨h1, h2⟩
  · exact hC
  · exact h2.core h1

theorem StepAny.sz {x x' : Ix} {M : Nat → Nat} {c : Nat} (h : StepAny x x' M c) : x'.sz = x.sz := by
  rcases h with ⟨h1, rfl⟩ | ⟨h1, h2⟩
  · rfl
  · exact h2.sz

theorem step_any {B : Nat} {w : World} {b pb ob : Nat} {x : Ix} {M : Nat → Nat} {c : Nat} (h : IxAt w b pb ob x) (hC : Core x M c) (hb1 : B ≤ b) (hb2 : B ≤ pb) (hb3 : x.om ≠ 0 → B ≤ ob) (hlt : x.om ≠ 0 → c < x.sz) :
    Calls Try.prog 48 #[.pointer (some ⟨b, 0, none⟩)] w fun e w' => e = .returned (.tuple #[]) ∧ Below B w w' ∧ ∃ x', StepAny x x' M c ∧ IxAt w' b pb ob x' := by
  by_cases h0 : x.om = 0
  · refine (step_nil h h0).mono ?_
    rintro e w' ⟨rfl, rfl⟩
    exact ⟨rfl, Below.refl _ _, x, .inl ⟨h0, rfl⟩, h⟩
  · refine (step_old h h0 hC (hlt h0)).mono ?_
    rintro e w' ⟨rfl, hF, x1, hR, hI⟩
    refine ⟨rfl, hF.below (fun z hz => ?_) (by have := h.lt; omega), x1, .inr ⟨h0, hR⟩, hI⟩
    simp at hz
    rcases hz with rfl | rfl | rfl
    · exact hb1
    · exact hb2
    · exact hb3 h0

/-- what is known of an index between the store of put and its step -/
structure MidLoad (x : Ix) (c : Nat) : Prop where
  nil : x.om = 0 → 4 * c ≤ 3 * x.sz + 4
  old : x.om ≠ 0 → Load x c 1

theorem put_mid {x x1 : Ix} {M : Nat → Nat} {c k loc r c' : Nat} (hC : Core x M c) (hL : Load x c 0) (hR : RelR x k x1) (hV : cnt (liveB x1.O) x.om ≤ cnt (liveB x.O) x.om) (hc : c' ≤ c + 1) : MidLoad (putIx x1 r k loc) c' := by
  obtain ⟨e1, e2, e3, e4, e5⟩ := relR_fields hR
  refine ⟨fun h0 => ?_, fun h0 => ⟨fun h1 => absurd h1 h0, fun _ => ?_⟩⟩
  · have h0' : x1.om = 0 := h0
    show 4 * c' ≤ 3 * x1.sz + 4
    have := hL.nil (by rw [← e1]; exact h0')
    rw [e2]; omega
  · have h0' : x1.om ≠ 0 := h0
    show c' + (x1.om - x1.nx) / 32 + cnt (liveB x1.O) x1.om / 4 ≤ x1.om + 2 + 1
    have := hL.old (by rw [← e1]; exact h0')
    rw [e1, e5]
    omega

theorem after_old {x x' : Ix} {M : Nat → Nat} {c : Nat} (hC : Core x M c) (hM : MidLoad x c) (hS : StepAny x x' M c) (h0 : x'.om ≠ 0) : Load x' c 0 := by
  rcases hS with ⟨h1, rfl⟩ | ⟨h1, h2⟩
  · exact absurd h1 h0
  · exact h2.load hC h1 (hM.old h1) (Nat.le_refl _)

theorem after_nil {x x' : Ix} {M : Nat → Nat} {c : Nat} (hC : Core x M c) (hM : MidLoad x c) (hS : StepAny x x' M c) (h0 : x'.om = 0) :
    (x'.n ≤ x'.sz / 4 * 3 → Load x' c 0) ∧ (¬ x'.n ≤ x'.sz / 4 * 3 → c < x'.sz ∧ 3 * (2 * x'.sz) < 8 * c ∧ Load (resized x') c 1) := by
  have hC' := hS.core hC
  have hn := hC'.nil h0
  have h8 := hC'.sz8
  have hm8 := hC'.mod8
  refine ⟨fun hle => ⟨fun _ => by omega, fun h => absurd h0 h⟩, fun hgt => ?_⟩
  have hc : 4 * c ≤ 3 * x'.sz + 4 := by
    rcases hS with ⟨h1, rfl⟩ | ⟨h1, h2⟩
    · exact hM.nil h1
    · have := (h2.load hC h1 (hM.old h1) (Nat.le_refl _)).nil h0
      omega
  have h1 : c < x'.sz := by omega
  have h2 : 3 * (2 * x'.sz) < 8 * c := by omega
  refine ⟨h1, h2, fun h => absurd (show x'.sz = 0 from h) (by omega), fun _ => ?_⟩
  show c + (x'.sz - 0) / 32 + cnt (liveB x'.P) x'.sz / 4 ≤ x'.sz + 2 + 1
  rw [(core_resize hC' h0 h1 h2).2]
  omega

end Go.Proofs.Qxb6601018a
