/-
  THE MEMORY OF AN INDEX, and the arithmetic of masks.
-/
import Derived.Test.Qxb6601018aProg
import Derived.Test.Qxb6601018aCore
import Derived.WalkKit
import Derived.WalkSpells
set_option linter.unusedVariables false
namespace Go.Proofs.Qxb6601018a
open Go.RowKit

theorem Try.cells59 : Try.prog.cellsOf 59 = 2 := by kernel_rfl
theorem Try.cells54 : Try.prog.cellsOf 54 = 4 := by kernel_rfl

/-! ### Masks -/
theorem u64_mask (x : Int) (e : Nat) (he : e ≤ 32) : bits .and .u64 x (((2 ^ e : Nat) : Int) - 1) = x % ((2 ^ e : Nat) : Int) := by
  have hp : 2 ^ e ≤ 2 ^ 32 := Nat.pow_le_pow_right (by decide) he
  have hp0 : 0 < 2 ^ e := Nat.two_pow_pos e
  have e1 : (((2 ^ e : Nat) : Int) - 1) = ((2 ^ e - 1 : Nat) : Int) := by omega
  have hm : (BitVec.ofInt 64 ((2 ^ e - 1 : Nat) : Int)).toNat = 2 ^ e - 1 := by
    rw [BitVec.ofInt_natCast, BitVec.toNat_ofNat]; exact Nat.mod_eq_of_lt (by omega)
  have key : (BitVec.ofInt 64 x &&& BitVec.ofInt 64 ((2 ^ e - 1 : Nat) : Int)).toNat = (x % ((2 ^ 64 : Nat) : Int)).toNat % 2 ^ e := by
    rw [BitVec.toNat_and, BitVec.toNat_ofInt, hm, Nat.and_two_pow_sub_one_eq_mod]
  rw [e1]
  show IntKind.u64.wrap ((BitVec.ofInt 64 x &&& BitVec.ofInt 64 ((2 ^ e - 1 : Nat) : Int)).toNat : Nat) = _
  rw [key, IntKind.wrap_u64]
  have hdvd : ((2 ^ e : Nat) : Int) ∣ ((2 ^ 64 : Nat) : Int) := by
    rw [Int.natCast_dvd_natCast]; exact Nat.pow_dvd_pow 2 (by omega)
  have h0 : 0 ≤ x % ((2 ^ 64 : Nat) : Int) := Int.emod_nonneg _ (by decide)
  have h2 : (((x % ((2 ^ 64 : Nat) : Int)).toNat % 2 ^ e : Nat) : Int) = x % ((2 ^ e : Nat) : Int) := by
    rw [Int.natCast_emod, Int.toNat_of_nonneg h0, Int.emod_emod_of_dvd _ hdvd]
  rw [h2]
  have h3 : 0 ≤ x % ((2 ^ e : Nat) : Int) := Int.emod_nonneg _ (by omega)
  have h4 : x % ((2 ^ e : Nat) : Int) < ((2 ^ e : Nat) : Int) := Int.emod_lt_of_pos _ (by omega)
  generalize x % ((2 ^ e : Nat) : Int) = y at *
  generalize 2 ^ e = m at *
  omega

theorem i64_mask (x : Int) (e : Nat) (he : e ≤ 32) : bits .and .i64 x (((2 ^ e : Nat) : Int) - 1) = x % ((2 ^ e : Nat) : Int) := by
  have hp : 2 ^ e ≤ 2 ^ 32 := Nat.pow_le_pow_right (by decide) he
  have hp0 : 0 < 2 ^ e := Nat.two_pow_pos e
  have e1 : (((2 ^ e : Nat) : Int) - 1) = ((2 ^ e - 1 : Nat) : Int) := by omega
  have hm : (BitVec.ofInt 64 ((2 ^ e - 1 : Nat) : Int)).toNat = 2 ^ e - 1 := by
    rw [BitVec.ofInt_natCast, BitVec.toNat_ofNat]; exact Nat.mod_eq_of_lt (by omega)
  have key : (BitVec.ofInt 64 x &&& BitVec.ofInt 64 ((2 ^ e - 1 : Nat) : Int)).toNat = (x % ((2 ^ 64 : Nat) : Int)).toNat % 2 ^ e := by
    rw [BitVec.toNat_and, BitVec.toNat_ofInt, hm, Nat.and_two_pow_sub_one_eq_mod]
  rw [e1]
  show IntKind.i64.wrap ((BitVec.ofInt 64 x &&& BitVec.ofInt 64 ((2 ^ e - 1 : Nat) : Int)).toNat : Nat) = _
  rw [key, IntKind.wrap_i64]
  have hdvd : ((2 ^ e : Nat) : Int) ∣ ((2 ^ 64 : Nat) : Int) := by
    rw [Int.natCast_dvd_natCast]; exact Nat.pow_dvd_pow 2 (by omega)
  have h0 : 0 ≤ x % ((2 ^ 64 : Nat) : Int) := Int.emod_nonneg _ (by decide)
  have h2 : (((x % ((2 ^ 64 : Nat) : Int)).toNat % 2 ^ e : Nat) : Int) = x % ((2 ^ e : Nat) : Int) := by
    rw [Int.natCast_emod, Int.toNat_of_nonneg h0, Int.emod_emod_of_dvd _ hdvd]
  rw [h2]
  have h3 : 0 ≤ x % ((2 ^ e : Nat) : Int) := Int.emod_nonneg _ (by omega)
  have h4 : x % ((2 ^ e : Nat) : Int) < ((2 ^ e : Nat) : Int) := Int.emod_lt_of_pos _ (by omega)
  generalize x % ((2 ^ e : Nat) : Int) = y at *
  generalize 2 ^ e = m at *
  omega

/-- a power of two within the sizes that are met -/
def Pw (n : Nat) : Prop := ∃ e, e ≤ 32 ∧ n = 2 ^ e

theorem Pw.u64 {n : Nat} (h : Pw n) (x : Nat) : bits .and .u64 (x : Int) ((n : Int) - 1) = ((x % n : Nat) : Int) := by
  obtain ⟨e, he, rfl⟩ := h
  rw [u64_mask _ e he, Int.natCast_emod]
theorem Pw.i64 {n : Nat} (h : Pw n) (x : Int) : bits .and .i64 x ((n : Int) - 1) = x % (n : Int) := by
  obtain ⟨e, he, rfl⟩ := h
  exact i64_mask _ e he
theorem Pw.pos {n : Nat} (h : Pw n) : 0 < n := by
  obtain ⟨e, he, rfl⟩ := h
  exact Nat.two_pow_pos e
theorem Pw.double {n : Nat} (h : Pw n) (hn : n ≤ 65536) : Pw (2 * n) := by
  obtain ⟨e, he, rfl⟩ := h
  refine ⟨e + 1, ?_, by rw [Nat.pow_succ]; omega⟩
  rcases Nat.lt_or_ge e 32 with h | h
  · omega
  · exfalso
    have : 2 ^ 32 ≤ 2 ^ e := Nat.pow_le_pow_right (by decide) h
    omega

theorem mod_nxt {n i : Nat} (hi : i < n) : (i + 1) % n = nxt n i := by
  unfold nxt; split
  · rename_i h; rw [h, Nat.mod_self]
  · exact Nat.mod_eq_of_lt (by omega)

theorem Pw.next {n i : Nat} (h : Pw n) (hi : i < n) : bits .and .u64 ((i : Int) + 1) ((n : Int) - 1) = ((nxt n i : Nat) : Int) := by
  have := h.u64 (i + 1)
  rw [mod_nxt hi] at this
  rw [← this]; rfl
theorem Pw.nextI {n i : Nat} (h : Pw n) (hi : i < n) : bits .and .i64 ((i : Int) + 1) ((n : Int) - 1) = ((nxt n i : Nat) : Int) := by
  rw [h.i64, ← mod_nxt hi, Int.natCast_emod]; rfl
theorem Pw.distI {n i j : Nat} (h : Pw n) (hi : i < n) (hj : j < n) : bits .and .i64 ((j : Int) - (i : Int)) ((n : Int) - 1) = ((dist n i j : Nat) : Int) := by
  rw [h.i64]
  unfold dist
  split
  · rw [Int.emod_eq_of_lt (by omega) (by omega)]; omega
  · rw [← Int.add_emod_right, Int.emod_eq_of_lt (by omega) (by omega)]; omega

/-! ### A table in memory -/
def TabAt (w : World) (b n : Nat) (T : Tab) : Prop :=
  ∃ c : Array Value, w.heap[b]? = some (.cells c 59 (0, 0)) ∧ c.size = n * 2 ∧
    ∀ i, i < n → c[i * 2]? = some (.int .u64 ((T i).1 : Int)) ∧ c[i * 2 + 1]? = some (.int .u64 ((T i).2 : Int))

namespace TabAt
variable {w : World} {b n : Nat} {T : Tab}
theorem cell0 (h : TabAt w b n T) {i : Nat} (hi : i < n) : w.cell? ⟨b, i * 2, none⟩ = some (.int .u64 ((T i).1 : Int)) := by
  obtain ⟨c, hb, _, hc⟩ := h
  simp [World.cell?, hb, (hc i hi).1]
theorem cell1 (h : TabAt w b n T) {i : Nat} (hi : i < n) : w.cell? ⟨b, i * 2 + 1, none⟩ = some (.int .u64 ((T i).2 : Int)) := by
  obtain ⟨c, hb, _, hc⟩ := h
  simp [World.cell?, hb, (hc i hi).2]
theorem frozen (h : TabAt w b n T) (i : Nat) : w.frozen? ⟨b, i, none⟩ = false := by
  obtain ⟨c, hb, _, _⟩ := h
  simp [World.frozen?, hb]
theorem lt (h : TabAt w b n T) : b < w.heap.size := by
  obtain ⟨c, hb, _, _⟩ := h
  obtain ⟨hlt, _⟩ := Array.getElem?_eq_some_iff.1 hb
  exact hlt
theorem of_block {w' : World} (h : TabAt w b n T) (e : w'.heap[b]? = w.heap[b]?) : TabAt w' b n T := by
  obtain ⟨c, hb, hn, hc⟩ := h
  exact ⟨c, e.trans hb, hn, hc⟩
theorem alloc (h : TabAt w b n T) (o : Obj) : TabAt (w.alloc o) b n T := h.of_block (Below.heap_alloc _ _ _ h.lt)
theorem setOther (h : TabAt w b n T) {a : Addr} (ha : b ≠ a.block) (v : Value) : TabAt (w.setCell a v) b n T := h.of_block (Below.heap_setCell _ _ _ _ ha)
theorem drew (h : TabAt w b n T) : TabAt w.drew b n T := h
theorem congr {T' : Tab} (h : TabAt w b n T) (e : ∀ i, i < n → T i = T' i) : TabAt w b n T' := by
  obtain ⟨c, hb, hn, hc⟩ := h
  exact ⟨c, hb, hn, fun i hi => by rw [← e i hi]; exact hc i hi⟩
theorem set1 (h : TabAt w b n T) (i y : Nat) : TabAt (w.setCell ⟨b, i * 2 + 1, none⟩ (.int .u64 (y : Int))) b n (upd T i ((T i).1, y)) := by
  obtain ⟨c, hb, hn, hc⟩ := h
  refine ⟨c.setIfInBounds (i * 2 + 1) (.int .u64 (y : Int)), ?_, by simpa using hn, fun j hj => ?_⟩
  · simp [World.setCell, Array.getElem?_modify, hb]
  · rw [Array.getElem?_setIfInBounds, Array.getElem?_setIfInBounds]
    by_cases e : j = i
    · subst e
      rw [if_neg (by omega), if_pos rfl, if_pos (by omega), upd_self]
      exact ⟨(hc j hj).1, rfl⟩
    · rw [if_neg (by omega), if_neg (by omega), upd_other _ _ _ _ e]
      exact hc j hj
theorem set2 (h : TabAt w b n T) (i x y : Nat) : TabAt ((w.setCell ⟨b, i * 2, none⟩ (.int .u64 (x : Int))).setCell ⟨b, i * 2 + 1, none⟩ (.int .u64 (y : Int))) b n (upd T i (x, y)) := by
  obtain ⟨c, hb, hn, hc⟩ := h
  have h1 : TabAt (w.setCell ⟨b, i * 2, none⟩ (.int .u64 (x : Int))) b n (upd T i (x, (T i).2)) := by
    refine ⟨c.setIfInBounds (i * 2) (.int .u64 (x : Int)), ?_, by simpa using hn, fun j hj => ?_⟩
    · simp [World.setCell, Array.getElem?_modify, hb]
    · rw [Array.getElem?_setIfInBounds, Array.getElem?_setIfInBounds]
      by_cases e : j = i
      · subst e
        rw [if_pos rfl, if_pos (by omega), if_neg (by omega), upd_self]
        exact ⟨rfl, (hc j hj).2⟩
      · rw [if_neg (by omega), if_neg (by omega), upd_other _ _ _ _ e]
        exact hc j hj
  have h2 := h1.set1 i y
  refine h2.congr (fun j hj => ?_)
  by_cases e : j = i
  · subst e; simp only [upd_self]
  · rw [upd_other _ _ _ _ e, upd_other _ _ _ _ e, upd_other _ _ _ _ e]
end TabAt

/-! ### What a call leaves alone: all blocks that were there, but those of the list -/
structure Fr (S : List Nat) (w w' : World) : Prop where
  os : w'.os = w.os
  tape : w'.tape = w.tape
  output : w'.output = w.output
  size : w.heap.size ≤ w'.heap.size
  block : ∀ k, k < w.heap.size → k ∉ S → w'.heap[k]? = w.heap[k]?

namespace Fr
variable {S : List Nat} {w w' w'' : World}
theorem refl (S : List Nat) (w : World) : Fr S w w := ⟨rfl, rfl, rfl, Nat.le_refl _, fun _ _ _ => rfl⟩
theorem of_below (h : Below w.heap.size w w') : Fr S w w' := ⟨h.os, h.tape, h.output, h.size, fun k hk _ => h.block k hk⟩
theorem trans {S' : List Nat} (h : Fr S w w') (k : Fr S' w' w'') (hS : ∀ x, x ∈ S' → x ∈ S ∨ w.heap.size ≤ x) : Fr S w w'' :=
  ⟨k.os.trans h.os, k.tape.trans h.tape, k.output.trans h.output, Nat.le_trans h.size k.size, fun i hi hn =>
    (k.block i (Nat.lt_of_lt_of_le hi h.size) (fun hm => by rcases hS i hm with h' | h'; exact hn h'; omega)).trans (h.block i hi hn)⟩
theorem trans' (h : Fr S w w') (k : Fr S w' w'') : Fr S w w'' := h.trans k (fun x hx => .inl hx)
theorem setCell {p : Addr} (h : Fr S w w') (hp : p.block ∈ S ∨ w.heap.size ≤ p.block) (u : Value) : Fr S w (w'.setCell p u) :=
  h.trans (S' := [p.block]) ⟨rfl, rfl, rfl, by simp [World.setCell], fun k hk hn => Below.heap_setCell _ _ _ _ (by simpa using hn)⟩ (fun x hx => by
    simp at hx; subst hx; exact hp)
theorem alloc (h : Fr S w w') (o : Obj) : Fr S w (w'.alloc o) :=
  h.trans' ⟨rfl, rfl, rfl, by simp, fun k hk _ => Below.heap_alloc _ _ _ hk⟩
theorem drew (h : Fr S w w') : Fr S w w'.drew := ⟨h.os, h.tape, h.output, h.size, h.block⟩
theorem below {B : Nat} (h : Fr S w w') (hS : ∀ x, x ∈ S → B ≤ x) (hB : B ≤ w.heap.size) : Below B w w' :=
  ⟨h.os, h.tape, h.output, h.size, fun k hk => h.block k (by omega) (fun hm => by have := hS k hm; omega)⟩
theorem mono {S' : List Nat} (h : Fr S w w') (hS : ∀ x, x ∈ S → x ∈ S') : Fr S' w w' :=
  ⟨h.os, h.tape, h.output, h.size, fun k hk hn => h.block k hk (fun hm => hn (hS k hm))⟩
end Fr

theorem TabAt.below {w w' : World} {b n B : Nat} {T : Tab} (h : TabAt w b n T) (hb : Below B w w') (hB : b < B) : TabAt w' b n T := h.of_block (hb.block b hB)
theorem TabAt.ext {w w' : World} {b n : Nat} {T : Tab} (h : TabAt w b n T) (hb : Below w.heap.size w w') : TabAt w' b n T := h.of_block (hb.block b h.lt)
theorem TabAt.fr {w w' : World} {b n : Nat} {T : Tab} {S : List Nat} (h : TabAt w b n T) (hf : Fr S w w') (hn : b ∉ S) : TabAt w' b n T := h.of_block (hf.block b h.lt hn)

/-! ### An index in memory -/
def oldV (x : Ix) (ob : Nat) : Value := if x.om = 0 then .slice none 0 0 else .slice (some ⟨ob, 0, none⟩) x.om x.om

theorem oldV_nil {x : Ix} {ob : Nat} (h : x.om = 0) : oldV x ob = .slice none 0 0 := by simp [oldV, h]
theorem oldV_some {x : Ix} {ob : Nat} (h : x.om ≠ 0) : oldV x ob = .slice (some ⟨ob, 0, none⟩) x.om x.om := by simp [oldV, h]

def HdAt (w : World) (b pb ob : Nat) (x : Ix) : Prop :=
  w.heap[b]? = some (.cells #[.slice (some ⟨pb, 0, none⟩) x.sz x.sz, .int .i64 (x.n : Int), oldV x ob, .int .i64 (x.nx : Int)] 54 (0, 0))

structure IxAt (w : World) (b pb ob : Nat) (x : Ix) : Prop where
  hd : HdAt w b pb ob x
  tab : TabAt w pb x.sz x.P
  old : x.om ≠ 0 → TabAt w ob x.om x.O
  ne1 : b ≠ pb
  ne2 : x.om ≠ 0 → b ≠ ob ∧ pb ≠ ob

namespace IxAt
variable {w w' : World} {b pb ob : Nat} {x : Ix}
theorem c0 (h : IxAt w b pb ob x) : w.cell? ⟨b, 0, none⟩ = some (.slice (some ⟨pb, 0, none⟩) x.sz x.sz) := by
  have := h.hd; unfold HdAt at this; simp [World.cell?, this]
theorem c1 (h : IxAt w b pb ob x) : w.cell? ⟨b, 1, none⟩ = some (.int .i64 (x.n : Int)) := by
  have := h.hd; unfold HdAt at this; simp [World.cell?, this]
theorem c2 (h : IxAt w b pb ob x) : w.cell? ⟨b, 2, none⟩ = some (oldV x ob) := by
  have := h.hd; unfold HdAt at this; simp [World.cell?, this]
theorem c3 (h : IxAt w b pb ob x) : w.cell? ⟨b, 3, none⟩ = some (.int .i64 (x.nx : Int)) := by
  have := h.hd; unfold HdAt at this; simp [World.cell?, this]
theorem fz (h : IxAt w b pb ob x) (i : Nat) : w.frozen? ⟨b, i, none⟩ = false := by
  have := h.hd; unfold HdAt at this; simp [World.frozen?, this]
theorem lt (h : IxAt w b pb ob x) : b < w.heap.size := by
  have := h.hd; unfold HdAt at this
  obtain ⟨hlt, _⟩ := Array.getElem?_eq_some_iff.1 this
  exact hlt
theorem of_blocks (h : IxAt w b pb ob x) (e1 : w'.heap[b]? = w.heap[b]?) (e2 : w'.heap[pb]? = w.heap[pb]?) (e3 : x.om ≠ 0 → w'.heap[ob]? = w.heap[ob]?) : IxAt w' b pb ob x :=
  ⟨e1.trans h.hd, h.tab.of_block e2, fun h0 => (h.old h0).of_block (e3 h0), h.ne1, h.ne2⟩
theorem ext (h : IxAt w b pb ob x) (hb : Below w.heap.size w w') : IxAt w' b pb ob x :=
  h.of_blocks (hb.block _ h.lt) (hb.block _ h.tab.lt) (fun h0 => hb.block _ (h.old h0).lt)
theorem fr {S : List Nat} (h : IxAt w b pb ob x) (hf : Fr S w w') (h1 : b ∉ S) (h2 : pb ∉ S) (h3 : x.om ≠ 0 → ob ∉ S) : IxAt w' b pb ob x :=
  h.of_blocks (hf.block _ h.lt h1) (hf.block _ h.tab.lt h2) (fun h0 => hf.block _ (h.old h0).lt (h3 h0))
theorem alloc (h : IxAt w b pb ob x) (o : Obj) : IxAt (w.alloc o) b pb ob x := h.ext ((Below.refl _ _).alloc (Nat.le_refl _) o)
theorem drew (h : IxAt w b pb ob x) : IxAt w.drew b pb ob x := ⟨h.hd, h.tab, h.old, h.ne1, h.ne2⟩
end IxAt

theorem hd_set {w : World} {b : Nat} {c : Array Value} (i : Nat) (v : Value) (h : w.heap[b]? = some (.cells c 54 (0, 0))) :
    (w.setCell ⟨b, i, none⟩ v).heap[b]? = some (.cells (c.setIfInBounds i v) 54 (0, 0)) := by
  simp [World.setCell, Array.getElem?_modify, h]

end Go.Proofs.Qxb6601018a
