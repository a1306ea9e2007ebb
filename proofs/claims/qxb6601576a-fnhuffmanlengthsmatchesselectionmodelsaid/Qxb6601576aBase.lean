/-
  A ROW OF uint64 IN MEMORY, and what a call leaves alone.
-/
import Derived.Test.Qxb6601576aProg
import Derived.Test.Qxb6601576aPerm
import Derived.WalkKit
import Derived.WalkSpells
import Derived.CellFam
import Derived.Deep.Draws
import Derived.Deep.QuietTactic
import Derived.BigQuiet
import Derived.BigGuard
import Derived.BigCall
import Derived.RegionTactic
import Derived.BigRegion
import Derived.Deep.LoopGhost
set_option linter.unusedVariables false
namespace Go.Proofs.Qxb6601576a
open Go.RowKit

theorem Try.cells54 : Try.prog.cellsOf 54 = 1 := by kernel_rfl
theorem Try.cells3 : Try.prog.cellsOf 3 = 1 := by kernel_rfl
theorem Try.cells5 : Try.prog.cellsOf 5 = 1 := by kernel_rfl

/-! ### What a call leaves alone: all blocks that were there, but those of the list -/
structure Fr (S : List Nat) (w w' : World) : Prop where
  os : w'.os = w.os
  tape : w'.tape = w.tape
  output : w'.output = w.output
  size : w.heap.size ≤ w'.heap.size
  block : ∀ k, k < w.heap.size → k ∉ S → w'.heap[k]? = w.heap[k]?

theorem below_drewN' {w : World} (n : Nat) : Below w.heap.size w (w.drewN n) := by
  induction n with
  | zero => exact Below.refl _ _
  | succ n ih => exact ⟨ih.os, ih.tape, ih.output, ih.size, ih.block⟩

namespace Fr
variable {S : List Nat} {w w' w'' : World}
theorem refl (S : List Nat) (w : World) : Fr S w w := ⟨rfl, rfl, rfl, Nat.le_refl _, fun _ _ _ => rfl⟩
theorem of_below (h : Below w.heap.size w w') : Fr S w w' := ⟨h.os, h.tape, h.output, h.size, fun k hk _ => h.block k hk⟩
theorem trans {S' : List Nat} (h : Fr S w w') (k : Fr S' w' w'') (hS : ∀ x, x ∈ S' → x ∈ S ∨ w.heap.size ≤ x) : Fr S w w'' :=
  ⟨k.os.trans h.os, k.tape.trans h.tape, k.output.trans h.output, Nat.le_trans h.size k.size, fun i hi hn =>
    (k.block i (Nat.lt_of_lt_of_le hi h.size) (fun hm => by rcases hS i hm with h' | h'; exact hn h'; omega)).trans (h.block i hi hn)⟩
theorem trans' (h : Fr S w w') (k : Fr S w' w'') : Fr S w w'' := h.trans k (fun x hx => .inl hx)
theorem setCell {p : Addr} (h : Fr S w w') (hp : p.block ∈ S ∨ w.heap.size ≤ p.block) (u : Value) : Fr S w (w'.setCell p u) :=
  h.trans (S' := [p.block]) ⟨rfl, rfl, rfl, by simp [World.setCell], fun k hk hn => Below.heap_setCell _ _ _ _ (by simpa using hn)⟩ (fun x hx => by
    simp at hx; subst hx; exact hp)
theorem alloc (h : Fr S w w') (o : Obj) : Fr S w (w'.alloc o) :=
  h.trans' ⟨rfl, rfl, rfl, by simp, fun k hk _ => Below.heap_alloc _ _ _ hk⟩
theorem drew (h : Fr S w w') : Fr S w w'.drew := ⟨h.os, h.tape, h.output, h.size, h.block⟩
theorem below {B : Nat} (h : Fr S w w') (hS : ∀ x, x ∈ S → B ≤ x) (hB : B ≤ w.heap.size) : Below B w w' :=
  ⟨h.os, h.tape, h.output, h.size, fun k hk => h.block k (by omega) (fun hm => by have := hS k hm; omega)⟩
theorem mono {S' : List Nat} (h : Fr S w w') (hS : ∀ x, x ∈ S → x ∈ S') : Fr S' w w' :=
  ⟨h.os, h.tape, h.output, h.size, fun k hk hn => h.block k hk (fun hm => hn (hS k hm))⟩
theorem drewN (h : Fr S w w') (n : Nat) : Fr S w (w'.drewN n) := by
  have hb : Below w'.heap.size w' (w'.drewN n) := below_drewN' n
  exact h.trans (S' := []) (of_below hb) (fun x hx => by simp at hx)
end Fr

/-- n numbers of kind k in block blk from off on -/
structure RowAt (k : IntKind) (w : World) (blk off n : Nat) (D : Row) : Prop where
  lt : blk < w.heap.size
  cell : ∀ t, t < n → w.cell? ⟨blk, off + t, none⟩ = some (.int k (D t))
  fz : ∀ t, t < n → w.frozen? ⟨blk, off + t, none⟩ = false

namespace RowAt
variable {k : IntKind} {w w' : World} {blk off n : Nat} {D : Row}
theorem of_block (h : RowAt k w blk off n D) (hl : blk < w'.heap.size) (e : w'.heap[blk]? = w.heap[blk]?) : RowAt k w' blk off n D :=
  ⟨hl, fun t ht => by rw [← h.cell t ht]; simp [World.cell?, e], fun t ht => by rw [← h.fz t ht]; simp [World.frozen?, e]⟩
theorem fr {S : List Nat} (h : RowAt k w blk off n D) (hf : Fr S w w') (hn : blk ∉ S) : RowAt k w' blk off n D := h.of_block (Nat.lt_of_lt_of_le h.lt hf.size) (hf.block _ h.lt hn)
theorem below {B : Nat} (h : RowAt k w blk off n D) (hb : Below B w w') (hB : blk < B) : RowAt k w' blk off n D := h.of_block (Nat.lt_of_lt_of_le h.lt hb.size) (hb.block _ hB)
theorem ext (h : RowAt k w blk off n D) (hb : Below w.heap.size w w') : RowAt k w' blk off n D := h.below hb h.lt
theorem drewN (h : RowAt k w blk off n D) (m : Nat) : RowAt k (w.drewN m) blk off n D := h.ext (below_drewN' m)
theorem drew (h : RowAt k w blk off n D) : RowAt k w.drew blk off n D := ⟨h.lt, h.cell, h.fz⟩
theorem alloc (h : RowAt k w blk off n D) (o : Obj) : RowAt k (w.alloc o) blk off n D := h.of_block (by have := h.lt; simp; omega) (Below.heap_alloc _ _ _ h.lt)
theorem setOther (h : RowAt k w blk off n D) {a : Addr} (ha : blk ≠ a.block) (v : Value) : RowAt k (w.setCell a v) blk off n D := h.of_block (by have := h.lt; simpa [World.setCell] using this) (Below.heap_setCell _ _ _ _ ha)
theorem frozen_set (w : World) (a b : Addr) (v : Value) : (w.setCell a v).frozen? b = w.frozen? b := by simp
theorem set (h : RowAt k w blk off n D) (i : Nat) (x : Int) : RowAt k (w.setCell ⟨blk, off + i, none⟩ (.int k x)) blk off n (fun t => if t = i then x else D t) := by
  refine ⟨by have := h.lt; simpa [World.setCell] using this, fun t ht => ?_, fun t ht => ?_⟩
  · by_cases e : t = i
    · subst e; rw [World.cell?_setCell_same _ _ _ (h.cell t ht)]; simp
    · rw [World.cell?_setCell_other _ _ _ _ (fun hh => e (by injection hh with _ h2; omega)), h.cell t ht, if_neg e]
  · rw [frozen_set]; exact h.fz t ht
theorem congr {D' : Row} (h : RowAt k w blk off n D) (e : ∀ t, t < n → D t = D' t) : RowAt k w blk off n D' :=
  ⟨h.lt, fun t ht => by rw [← e t ht]; exact h.cell t ht, h.fz⟩
theorem swap (h : RowAt k w blk off n D) (i j : Nat) : RowAt k ((w.setCell ⟨blk, off + i, none⟩ (.int k (D j))).setCell ⟨blk, off + j, none⟩ (.int k (D i))) blk off n (swp D i j) := by
  refine ((h.set i (D j)).set j (D i)).congr (fun t ht => ?_)
  simp only [swp]
  by_cases e : t = j
  · subst e
    rw [if_pos rfl]
    by_cases e2 : t = i
    · subst e2; rw [if_pos rfl]
    · rw [if_neg e2, if_pos rfl]
  · rw [if_neg e, if_neg e]
end RowAt

theorem Fr.below0 {S : List Nat} {w w' : World} (h : Fr S w w') (hb : ∀ k, k ∈ S → w'.heap[k]? = w.heap[k]?) : Below w.heap.size w w' :=
  ⟨h.os, h.tape, h.output, h.size, fun k hk => by
    by_cases e : k ∈ S
    · exact hb k e
    · exact h.block k hk e⟩

set_option maxHeartbeats 1000000 in
theorem isNaN_u64 (x : Int) (w : World) : Calls Try.prog 55 #[.int .u64 x] w fun e w' => e = .returned (.bool false) ∧ w' = w := by
  go_enter Try.func55, Try.ntmps55
  go_wp2
  go_ret
  exact ⟨by simp, rfl⟩

set_option maxHeartbeats 1000000 in
/-- cmp.Less at uint64 -/
theorem less_u64 (x y : Int) (w : World) : Calls Try.prog 45 #[.int .u64 x, .int .u64 y] w fun e w' => e = .returned (.bool (decide (x < y))) ∧ w' = w := by
  go_enter Try.func45, Try.ntmps45
  go_wp2_with (go_at_call 55; refine (isNaN_u64 _ _).mono ?_; rintro e w' ⟨rfl, rfl⟩)
  go_ret
  exact ⟨rfl, rfl⟩

end Go.Proofs.Qxb6601576a
