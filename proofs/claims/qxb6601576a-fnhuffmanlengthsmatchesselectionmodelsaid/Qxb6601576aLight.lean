/-
  THE CLOSURE 'lightest' OF huffmanLengths: one step of the two queues.
-/
import Derived.Test.Qxb6601576aPdq
import Derived.Test.Qxb6601576aQueue
set_option linter.unusedVariables false
namespace Go.Proofs.Qxb6601576a
open Go.RowKit

theorem Try.cells65 : Try.prog.cellsOf 65 = 516 := by kernel_rfl
theorem Try.cells74 : Try.prog.cellsOf 74 = 258 := by kernel_rfl

/-- what the closure reads and writes -/
structure HMem (w : World) (bb lb wb nb jb mb : Nat) (wp : Option Addr) (wcap n i j m : Nat) (K W : Row) : Prop where
  box : w.cell? ⟨bb, 0, none⟩ = some (.slice wp n wcap)
  boxlt : bb < w.heap.size
  leaves : RowAt .u64 w lb 0 n K
  weight : RowAt .i64 w wb 0 516 W
  next : CntAt w nb i
  joined : CntAt w jb j
  nodes : CntAt w mb m
  ord : bb < lb ∧ lb < wb ∧ wb < nb ∧ wb < jb ∧ wb < mb ∧ nb ≠ jb ∧ nb ≠ mb ∧ jb ≠ mb

theorem RowAt.cell0 {k : IntKind} {w : World} {blk n : Nat} {D : Row} (h : RowAt k w blk 0 n D) {t : Nat} (ht : t < n) : w.cell? ⟨blk, t, none⟩ = some (.int k (D t)) := by
  have := h.cell t ht
  rwa [Nat.zero_add] at this
theorem RowAt.fz0 {k : IntKind} {w : World} {blk n : Nat} {D : Row} (h : RowAt k w blk 0 n D) {t : Nat} (ht : t < n) : w.frozen? ⟨blk, t, none⟩ = false := by
  have := h.fz t ht
  rwa [Nat.zero_add] at this

theorem CntAt.of_block {w w' : World} {sb s : Nat} (h : CntAt w sb s) (hl : sb < w'.heap.size) (e : w'.heap[sb]? = w.heap[sb]?) : CntAt w' sb s :=
  ⟨hl, by rw [← h.cell]; simp [World.cell?, e], by rw [← h.fz]; simp [World.frozen?, e]⟩
theorem CntAt.fr {w w' : World} {sb s : Nat} {S : List Nat} (h : CntAt w sb s) (hf : Fr S w w') (hn : sb ∉ S) : CntAt w' sb s :=
  h.of_block (Nat.lt_of_lt_of_le h.lt hf.size) (hf.block _ h.lt hn)
theorem CntAt.set {w : World} {sb s : Nat} (h : CntAt w sb s) (s' : Nat) : CntAt (w.setCell ⟨sb, 0, none⟩ (.int .i64 s')) sb s' :=
  ⟨by simpa [World.setCell] using h.lt, World.cell?_setCell_same _ _ _ h.cell, by rw [RowAt.frozen_set]; exact h.fz⟩

theorem cell_fr {w w' : World} {b o : Nat} {v : Value} {S : List Nat} (h : w.cell? ⟨b, o, none⟩ = some v) (hl : b < w.heap.size) (hf : Fr S w w') (hn : b ∉ S) : w'.cell? ⟨b, o, none⟩ = some v := by
  rw [← h]; simp [World.cell?, hf.block _ hl hn]

theorem HMem.fr {w w' : World} {bb lb wb nb jb mb : Nat} {wp : Option Addr} {wcap n i j m : Nat} {K W : Row} {S : List Nat} (h : HMem w bb lb wb nb jb mb wp wcap n i j m K W) (hf : Fr S w w')
    (h1 : bb ∉ S) (h2 : lb ∉ S) (h3 : wb ∉ S) (h4 : nb ∉ S) (h5 : jb ∉ S) (h6 : mb ∉ S) : HMem w' bb lb wb nb jb mb wp wcap n i j m K W :=
  ⟨cell_fr h.box h.boxlt hf h1, Nat.lt_of_lt_of_le h.boxlt hf.size, h.leaves.fr hf h2, h.weight.fr hf h3, h.next.fr hf h4, h.joined.fr hf h5, h.nodes.fr hf h6, h.ord⟩

theorem HMem.drewN {w : World} {bb lb wb nb jb mb : Nat} {wp : Option Addr} {wcap n i j m : Nat} {K W : Row} (h : HMem w bb lb wb nb jb mb wp wcap n i j m K W) (k : Nat) : HMem (w.drewN k) bb lb wb nb jb mb wp wcap n i j m K W :=
  h.fr (S := []) ((Fr.refl _ _).drewN k) (by simp) (by simp) (by simp) (by simp) (by simp) (by simp)

theorem HMem.setNext {w : World} {bb lb wb nb jb mb : Nat} {wp : Option Addr} {wcap n i j m : Nat} {K W : Row} (h : HMem w bb lb wb nb jb mb wp wcap n i j m K W) (i' : Nat) :
    HMem (w.setCell ⟨nb, 0, none⟩ (.int .i64 i')) bb lb wb nb jb mb wp wcap n i' j m K W := by
  have ho := h.ord
  have hf : Fr [nb] w (w.setCell ⟨nb, 0, none⟩ (.int .i64 i')) := (Fr.refl _ _).setCell (.inl (by simp)) _
  exact ⟨cell_fr h.box h.boxlt hf (by simp; omega), Nat.lt_of_lt_of_le h.boxlt hf.size, h.leaves.fr hf (by simp; omega), h.weight.fr hf (by simp; omega), h.next.set i', h.joined.fr hf (by simp; omega), h.nodes.fr hf (by simp; omega), ho⟩
theorem HMem.setJoined {w : World} {bb lb wb nb jb mb : Nat} {wp : Option Addr} {wcap n i j m : Nat} {K W : Row} (h : HMem w bb lb wb nb jb mb wp wcap n i j m K W) (j' : Nat) :
    HMem (w.setCell ⟨jb, 0, none⟩ (.int .i64 j')) bb lb wb nb jb mb wp wcap n i j' m K W := by
  have ho := h.ord
  have hf : Fr [jb] w (w.setCell ⟨jb, 0, none⟩ (.int .i64 j')) := (Fr.refl _ _).setCell (.inl (by simp)) _
  exact ⟨cell_fr h.box h.boxlt hf (by simp; omega), Nat.lt_of_lt_of_le h.boxlt hf.size, h.leaves.fr hf (by simp; omega), h.weight.fr hf (by simp; omega), h.next.fr hf (by simp; omega), h.joined.set j', h.nodes.fr hf (by simp; omega), ho⟩
theorem HMem.setNodes {w : World} {bb lb wb nb jb mb : Nat} {wp : Option Addr} {wcap n i j m : Nat} {K W : Row} (h : HMem w bb lb wb nb jb mb wp wcap n i j m K W) (m' : Nat) :
    HMem (w.setCell ⟨mb, 0, none⟩ (.int .i64 m')) bb lb wb nb jb mb wp wcap n i j m' K W := by
  have ho := h.ord
  have hf : Fr [mb] w (w.setCell ⟨mb, 0, none⟩ (.int .i64 m')) := (Fr.refl _ _).setCell (.inl (by simp)) _
  exact ⟨cell_fr h.box h.boxlt hf (by simp; omega), Nat.lt_of_lt_of_le h.boxlt hf.size, h.leaves.fr hf (by simp; omega), h.weight.fr hf (by simp; omega), h.next.fr hf (by simp; omega), h.joined.fr hf (by simp; omega), h.nodes.set m', ho⟩

/-- the answer of the closure -/
def LightR (e : Ending) (w w' : World) (bb lb wb nb jb mb : Nat) (wp : Option Addr) (wcap n i j m : Nat) (K W wt : Row) (sig : Nat → Nat) : Prop :=
  ∃ x i' j' : Nat, e = .returned (.int .i64 x) ∧ StepQ n wt W sig i j m x i' j' ∧ HMem w' bb lb wb nb jb mb wp wcap n i' j' m K W ∧ Fr [nb, jb] w w'

theorem mask9 (x : Int) : bits .and .u64 x 511 = x % 512 := u64_mask x 9 (by decide)

set_option maxHeartbeats 16000000 in
theorem lightest_u64 (bb lb wb nb jb mb : Nat) (wp : Option Addr) (wcap n i j m : Nat) (K W wt : Row) (sig : Nat → Nat) (w : World)
    (h : HMem w bb lb wb nb jb mb wp wcap n i j m K W) (hn : n ≤ 258) (hi : i ≤ n) (hj : j ≤ m) (hm : m < 516) (hav : j = m → i < n)
    (hK : ∀ q, q < n → K q = wt (sig q) * 512 + sig q) (hs : ∀ q, q < n → sig q < n) (hw : ∀ q, q < n → 1 ≤ wt q ∧ wt q ≤ 4194304) :
    Calls Try.prog 36 #[.pointer (some ⟨jb, 0, none⟩), .pointer (some ⟨mb, 0, none⟩), .pointer (some ⟨nb, 0, none⟩), .pointer (some ⟨bb, 0, none⟩), .pointer (some ⟨lb, 0, none⟩), .pointer (some ⟨wb, 0, none⟩)] w
      fun e w' => LightR e w w' bb lb wb nb jb mb wp wcap n i j m K W wt sig := by
  have ho := h.ord
  have cn := h.next.cell
  have cj := h.joined.cell
  have cm := h.nodes.cell
  have fn := h.next.fz
  have fj := h.joined.fz
  have cb := h.box
  have H : Hid (HMem w bb lb wb nb jb mb wp wcap n i j m K W) := h
  by_cases hleaf : i < n
  · -- a leaf is left
    have hsi := hs i hleaf
    have hwi := hw (sig i) hsi
    have hKi := hK i hleaf
    have cl := h.leaves.cell0 hleaf
    obtain ⟨kv, ekv⟩ : ∃ kv, kv = K i := ⟨_, rfl⟩
    obtain ⟨a, ea⟩ : ∃ a, a = wt (sig i) := ⟨_, rfl⟩
    obtain ⟨s, es⟩ : ∃ s, s = sig i := ⟨_, rfl⟩
    rw [← ekv] at cl hKi
    rw [← ea] at hKi hwi
    rw [← es] at hKi hsi
    have hdiv : kv / 512 = a := by omega
    have hmask : bits .and .u64 kv 511 = (s : Int) := by rw [mask9]; omega
    have hkb : 0 ≤ kv ∧ kv < 4294967296 := by omega
    by_cases hjm : j = m
    · have leafR : ∀ w', Fr [nb, jb] w w' → HMem w' bb lb wb nb jb mb wp wcap n (i + 1) j m K W → LightR (.returned (.int .i64 (s : Int))) w w' bb lb wb nb jb mb wp wcap n i j m K W wt sig :=
        fun w' h1 h2 => ⟨s, i + 1, j, rfl, .inl ⟨hleaf, .inl hjm, es, rfl, rfl⟩, h2, h1⟩
      have LEAF : Hid _ := leafR
      clear leafR h hK hs hw hKi ekv ea es hav
      subst hjm
      go_enter Try.func36, Try.ntmps36
      go_wp2_with fail
      go_big_quiet (fail)
      go_wp2_with fail
      go_ret
      exact LEAF.out _ (((Fr.refl _ _).drewN nq).setCell (.inl (by simp)) _) ((H.out.drewN nq).setNext (i + 1))
    · have hjl : j < m := by omega
      have cw := h.weight.cell0 (t := j) (by omega)
      have hjb : ((j : Int) == (m : Int)) = false := by simp; omega
      have hleafi : (i : Int) < n := by omega
      by_cases hle : a ≤ W j
      · have leafR : ∀ w', Fr [nb, jb] w w' → HMem w' bb lb wb nb jb mb wp wcap n (i + 1) j m K W → LightR (.returned (.int .i64 (s : Int))) w w' bb lb wb nb jb mb wp wcap n i j m K W wt sig :=
          fun w' h1 h2 => ⟨s, i + 1, j, rfl, .inl ⟨hleaf, .inr (by rw [← ea]; exact hle), es, rfl, rfl⟩, h2, h1⟩
        have LEAF : Hid _ := leafR
        clear leafR h hK hs hw hKi ekv ea es hav
        go_enter Try.func36, Try.ntmps36
        go_wp2_with fail
        go_big_quiet (fail)
        go_wp2_with fail
        go_ret
        exact LEAF.out _ (((Fr.refl _ _).drewN nq).setCell (.inl (by simp)) _) ((H.out.drewN nq).setNext (i + 1))
      · have joinR : ∀ w', Fr [nb, jb] w w' → HMem w' bb lb wb nb jb mb wp wcap n i (j + 1) m K W → LightR (.returned (.int .i64 (j : Int))) w w' bb lb wb nb jb mb wp wcap n i j m K W wt sig :=
          fun w' h1 h2 => ⟨j, i, j + 1, rfl, .inr ⟨hjl, .inr (by rw [← ea]; omega), rfl, rfl, rfl⟩, h2, h1⟩
        have JOIN : Hid _ := joinR
        clear joinR h hK hs hw hKi ekv ea es hav
        go_enter Try.func36, Try.ntmps36
        go_wp2_with fail
        go_big_quiet (fail)
        go_wp2_with fail
        go_ret
        exact JOIN.out _ (((Fr.refl _ _).drewN nq).setCell (.inl (by simp)) _) ((H.out.drewN nq).setJoined (j + 1))
  · have hin : i = n := by omega
    have hjl : j < m := by
      rcases Nat.lt_or_ge j m with h | h
      · exact h
      · exact absurd (hav (by omega)) hleaf
    have hjb : ((j : Int) == (m : Int)) = false := by simp; omega
    have hlf : ¬ (i : Int) < n := by omega
    have joinR : ∀ w', Fr [nb, jb] w w' → HMem w' bb lb wb nb jb mb wp wcap n i (j + 1) m K W → LightR (.returned (.int .i64 (j : Int))) w w' bb lb wb nb jb mb wp wcap n i j m K W wt sig :=
      fun w' h1 h2 => ⟨j, i, j + 1, rfl, .inr ⟨hjl, .inl hin, rfl, rfl, rfl⟩, h2, h1⟩
    have JOIN : Hid _ := joinR
    clear joinR h hK hs hw hav hin
    go_enter Try.func36, Try.ntmps36
    go_wp2_with fail
    go_big_quiet (fail)
    go_wp2_with fail
    go_ret
    exact JOIN.out _ (((Fr.refl _ _).drewN nq).setCell (.inl (by simp)) _) ((H.out.drewN nq).setJoined (j + 1))

end Go.Proofs.Qxb6601576a
