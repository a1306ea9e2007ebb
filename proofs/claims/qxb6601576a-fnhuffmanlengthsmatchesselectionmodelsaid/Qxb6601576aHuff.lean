/-
  huffmanLengths.
-/
import Derived.Test.Qxb6601576aLight
import Derived.Test.Qxb6601576aMain
import Derived.WalkLawsBesides
set_option linter.unusedVariables false
namespace Go.Proofs.Qxb6601576a
open Go.RowKit

theorem zero74 (u : World) : (zeroValue 74).run Try.prog u = .ok (.agg (Array.replicate 258 (.int .u64 0))) u := by kernel_rfl
theorem zero65 (u : World) : (zeroValue 65).run Try.prog u = .ok (.agg (Array.replicate 516 (.int .i64 0))) u := by kernel_rfl

theorem z74 : ∃ Z : Array Value, Z = Array.replicate 258 (.int .u64 0) ∧ ∀ u, (zeroValue 74).run Try.prog u = .ok (.agg Z) u := ⟨_, rfl, zero74⟩
theorem z65 : ∃ Z : Array Value, Z = Array.replicate 516 (.int .i64 0) ∧ ∀ u, (zeroValue 65).run Try.prog u = .ok (.agg Z) u := ⟨_, rfl, zero65⟩

theorem und74 : Try.prog.underlying 74 = some (.array (Try.prog.arrayLen 74) (Try.prog.elem 74)) := by kernel_rfl
theorem alen74 : Try.prog.arrayLen 74 = 258 := by kernel_rfl
theorem size54 (u : World) : (sizeOf (Try.prog.elem 74)).run Try.prog u = .ok 1 u := by kernel_rfl

theorem slice74 (lb n : Nat) (hn : n ≤ 258) (u : World) : (Instr.sliceAt 74 (.pointer (some ⟨lb, 0, none⟩)) none (some (.int .i64 n)) none).run Try.prog u = .ok (.slice (some ⟨lb, 0, none⟩) n 258) u := by
  rw [run_sliceAt_array_h u 74 ⟨lb, 0, none⟩ und74 .i64 n (by omega) (by rw [alen74]; omega), size54, alen74]
  simp [slicedAt, Addr.add]

theorem row_fresh {k : IntKind} {u : World} {N t : Nat} {Z : Array Value} (hZ : Z = Array.replicate N (.int k 0)) : RowAt k (u.alloc (.cells Z t)) u.heap.size 0 N (fun _ => 0) := by
  subst hZ
  have hb : (u.alloc (Obj.cells (Array.replicate N (.int k 0)) t)).heap[u.heap.size]? = some (Obj.cells (Array.replicate N (.int k 0)) t) := by
    show (u.heap.push _)[u.heap.size]? = _
    rw [Array.getElem?_push]; simp
  refine ⟨by simp, fun s hs => ?_, fun s hs => ?_⟩
  · unfold World.cell?
    rw [hb]
    simp [hs]
  · unfold World.frozen?
    rw [hb]
    simp

theorem or9 (a : Nat) (s : Nat) (ha : a ≤ 4194304) (hs : s < 512) : bits .or .u64 ((a : Int) * 512) (s : Int) = (a : Int) * 512 + s := by
  have e1 : ((a : Int) * 512) = ((2 ^ 9 * a : Nat) : Int) := by omega
  have hm : (BitVec.ofInt 64 ((2 ^ 9 * a : Nat) : Int)).toNat = 2 ^ 9 * a := by
    rw [BitVec.ofInt_natCast, BitVec.toNat_ofNat]; exact Nat.mod_eq_of_lt (by omega)
  have hm2 : (BitVec.ofInt 64 (s : Int)).toNat = s := by
    rw [BitVec.ofInt_natCast, BitVec.toNat_ofNat]; exact Nat.mod_eq_of_lt (by omega)
  have key : (BitVec.ofInt 64 ((2 ^ 9 * a : Nat) : Int) ||| BitVec.ofInt 64 (s : Int)).toNat = 2 ^ 9 * a + s := by
    rw [BitVec.toNat_or, hm, hm2, ← Nat.two_pow_add_eq_or_of_lt (by omega)]
  rw [e1]
  show IntKind.u64.wrap ((BitVec.ofInt 64 ((2 ^ 9 * a : Nat) : Int) ||| BitVec.ofInt 64 (s : Int)).toNat : Nat) = _
  rw [key, IntKind.wrap_u64]
  omega

/-- behind s rounds of the first loop -/
structure St1 (w wr : World) (wp : Option Addr) (wcap n s : Nat) (wt : Row) : Prop where
  box : wr.cell? ⟨w.heap.size, 0, none⟩ = some (.slice wp n wcap)
  leaves : RowAt .u64 wr (w.heap.size + 1) 0 258 (fun t => if t < s then key wt t else 0)
  below : Below w.heap.size w wr

theorem St1.next {w wr : World} {wp : Option Addr} {wcap n s : Nat} {wt : Row} (h : St1 w wr wp wcap n s wt) : St1 w (wr.setCell ⟨w.heap.size + 1, s, none⟩ (.int .u64 (wt s * 512 + s))) wp wcap n (s + 1) wt := by
  have hf : Fr [w.heap.size + 1] wr (wr.setCell ⟨w.heap.size + 1, s, none⟩ (.int .u64 (wt s * 512 + s))) := (Fr.refl _ _).setCell (.inl (by simp)) _
  refine ⟨cell_fr h.box (by have := h.leaves.lt; omega) hf (by simp), ?_, h.below.setCell (by simp) _⟩
  have := h.leaves.set s (wt s * 512 + s)
  rw [Nat.zero_add] at this
  refine this.congr (fun t ht => ?_)
  by_cases e : t = s
  · subst e; simp [key]
  · by_cases e2 : t < s
    · rw [if_neg e, if_pos e2, if_pos (by omega)]
    · rw [if_neg e, if_neg e2, if_neg (by omega)]

/-- behind s rounds of the second loop -/
structure St2 (w wr : World) (B : Nat) (wp : Option Addr) (wcap n s : Nat) (wt K : Row) : Prop where
  hB : w.heap.size + 2 ≤ B
  box : wr.cell? ⟨w.heap.size, 0, none⟩ = some (.slice wp n wcap)
  leaves : RowAt .u64 wr (w.heap.size + 1) 0 n K
  weight : RowAt .i64 wr B 0 516 (fun t => if t < s then wt t else 0)
  parent : RowAt .i64 wr (B + 1) 0 516 (fun _ => 0)
  below : Below w.heap.size w wr

theorem St2.next {w wr : World} {B : Nat} {wp : Option Addr} {wcap n s : Nat} {wt K : Row} (h : St2 w wr B wp wcap n s wt K) : St2 w (wr.setCell ⟨B, s, none⟩ (.int .i64 (wt s))) B wp wcap n (s + 1) wt K := by
  have hB := h.hB
  have hf : Fr [B] wr (wr.setCell ⟨B, s, none⟩ (.int .i64 (wt s))) := (Fr.refl _ _).setCell (.inl (by simp)) _
  refine ⟨hB, cell_fr h.box (by have := h.leaves.lt; omega) hf (by simp; omega), h.leaves.fr hf (by simp; omega), ?_, h.parent.fr hf (by simp), h.below.setCell (by simp; omega) _⟩
  have := h.weight.set s (wt s)
  rw [Nat.zero_add] at this
  refine this.congr (fun t ht => ?_)
  by_cases e : t = s
  · subst e; simp
  · by_cases e2 : t < s
    · rw [if_neg e, if_pos e2, if_pos (by omega)]
    · rw [if_neg e, if_neg e2, if_neg (by omega)]

/-- the counters are laid -/
def LaidQ (v12 v13 v14 : Value) (w wc : World) (B : Nat) (wp : Option Addr) (wcap n : Nat) (wt K : Row) : Prop :=
  ∃ nb jb mb : Nat, v12 = .pointer (some ⟨nb, 0, none⟩) ∧ v13 = .pointer (some ⟨jb, 0, none⟩) ∧ v14 = .pointer (some ⟨mb, 0, none⟩) ∧
    HMem wc w.heap.size (w.heap.size + 1) B nb jb mb wp wcap n 0 n n K (fun t => if t < n then wt t else 0) ∧ RowAt .i64 wc (B + 1) 0 516 (fun _ => 0) ∧ Below w.heap.size w wc ∧ B + 1 < nb ∧ B + 1 < jb ∧ B + 1 < mb

theorem laid_of {w wr wc : World} {B : Nat} {wp : Option Addr} {wcap n : Nat} {wt K : Row} (h : St2 w wr B wp wcap n n wt K) (hf : Fr [] wr wc) {nb jb mb : Nat} (hn : wr.heap.size ≤ nb) (hj : wr.heap.size ≤ jb) (hm : wr.heap.size ≤ mb)
    (h1 : nb ≠ jb) (h2 : nb ≠ mb) (h3 : jb ≠ mb) (cn : CntAt wc nb 0) (cj : CntAt wc jb n) (cm : CntAt wc mb n) :
    LaidQ (.pointer (some ⟨nb, 0, none⟩)) (.pointer (some ⟨jb, 0, none⟩)) (.pointer (some ⟨mb, 0, none⟩)) w wc B wp wcap n wt K := by
  have hB := h.hB
  have hp := h.parent.lt
  have hl := h.leaves.lt
  refine ⟨nb, jb, mb, rfl, rfl, rfl, ⟨cell_fr h.box (by omega) hf (by simp), by have := hf.size; omega, h.leaves.fr hf (by simp), h.weight.fr hf (by simp), cn, cj, cm, by omega⟩, h.parent.fr hf (by simp), h.below.trans (hf.below (by simp) (by omega)), by omega, by omega, by omega⟩

theorem cnt_of_heap {u : World} {sb k t : Nat} (h : u.heap[sb]? = some (.cells #[.int .i64 (k : Int)] t)) : CntAt u sb k := by
  refine ⟨(Array.getElem?_eq_some_iff.1 h).1, ?_, ?_⟩
  · unfold World.cell?
    rw [h]
    simp
  · unfold World.frozen?
    rw [h]
    simp
theorem cnt1 (u : World) (s : Int) (k : Nat) (o o' : Obj) (hs : s = k) : CntAt (((u.alloc (.cells #[.int .i64 s] 3)).alloc o).alloc o') u.heap.size k := by
  subst hs
  refine cnt_of_heap (t := 3) ?_
  show (((u.heap.push _).push _).push _)[u.heap.size]? = _
  rw [Array.getElem?_push, if_neg (by simp; omega), Array.getElem?_push, if_neg (by simp), Array.getElem?_push, if_pos rfl]
theorem cnt2 (u : World) (s : Int) (k : Nat) (o o' : Obj) (hs : s = k) : CntAt (((u.alloc o).alloc (.cells #[.int .i64 s] 3)).alloc o') (u.heap.size + 1) k := by
  subst hs
  refine cnt_of_heap (t := 3) ?_
  show (((u.heap.push _).push _).push _)[u.heap.size + 1]? = _
  rw [Array.getElem?_push, if_neg (by simp), Array.getElem?_push, if_pos (by simp)]
theorem cnt3 (u : World) (s : Int) (k : Nat) (o o' : Obj) (hs : s = k) : CntAt (((u.alloc o).alloc o').alloc (.cells #[.int .i64 s] 3)) (u.heap.size + 2) k := by
  subst hs
  refine cnt_of_heap (t := 3) ?_
  show (((u.heap.push _).push _).push _)[u.heap.size + 2]? = _
  rw [Array.getElem?_push, if_pos (by simp)]
theorem fr3 (u : World) (o o' o'' : Obj) : Fr [] u (((u.alloc o).alloc o').alloc o'').drew := ((((Fr.refl _ _).alloc _).alloc _).alloc _).drew
theorem CntAt.drew {w : World} {sb s : Nat} (h : CntAt w sb s) : CntAt w.drew sb s := ⟨h.lt, h.cell, h.fz⟩

/-- the state of the main loop -/
def MainR (w wr : World) (B nb jb mb : Nat) (wp : Option Addr) (wcap n m : Nat) (wt K : Row) (sig : Nat → Nat) : Prop :=
  ∃ (i j : Nat) (T : Nat → Nat) (W P : Row), HMem wr w.heap.size (w.heap.size + 1) B nb jb mb wp wcap n i j m K W ∧ RowAt .i64 wr (B + 1) 0 516 P ∧ Below w.heap.size w wr ∧ Plain n wt sig T i j m W P

theorem HMem.setW {w : World} {bb lb wb nb jb mb : Nat} {wp : Option Addr} {wcap n i j m : Nat} {K W : Row} (h : HMem w bb lb wb nb jb mb wp wcap n i j m K W) (t : Nat) (x : Int) :
    HMem (w.setCell ⟨wb, t, none⟩ (.int .i64 x)) bb lb wb nb jb mb wp wcap n i j m K (fun s => if s = t then x else W s) := by
  have ho := h.ord
  have hf : Fr [wb] w (w.setCell ⟨wb, t, none⟩ (.int .i64 x)) := (Fr.refl _ _).setCell (.inl (by simp)) _
  have hw := h.weight.set t x
  rw [Nat.zero_add] at hw
  exact ⟨cell_fr h.box h.boxlt hf (by simp; omega), Nat.lt_of_lt_of_le h.boxlt hf.size, h.leaves.fr hf (by simp; omega), hw, h.next.fr hf (by simp; omega), h.joined.fr hf (by simp; omega), h.nodes.fr hf (by simp; omega), ho⟩
theorem HMem.drew {w : World} {bb lb wb nb jb mb : Nat} {wp : Option Addr} {wcap n i j m : Nat} {K W : Row} (h : HMem w bb lb wb nb jb mb wp wcap n i j m K W) : HMem w.drew bb lb wb nb jb mb wp wcap n i j m K W := h.drewN 1

/-- the depths from g on are reckoned -/
structure DepR (w wr : World) (B db : Nat) (wp : Option Addr) (wcap n g : Nat) (P : Row) (d : Nat → Nat) : Prop where
  box : wr.cell? ⟨w.heap.size, 0, none⟩ = some (.slice wp n wcap)
  parent : RowAt .i64 wr (B + 1) 0 516 P
  depth : RowAt .i64 wr db 0 516 (fun t => (d t : Int))
  below : Below w.heap.size w wr
  root : d (2 * n - 2) = 0
  deep : ∀ x, g ≤ x → x < 2 * n - 2 → d x = d (P x).toNat + 1
  bound : ∀ x, g ≤ x → x ≤ 2 * n - 2 → d x + x ≤ 2 * n - 2

theorem DepR.next {w wr : World} {B db : Nat} {wp : Option Addr} {wcap n g p : Nat} {P : Row} {d : Nat → Nat} (h : DepR w wr B db wp wcap n (g + 1) P d) (hr : ∀ x, x < 2 * n - 2 → ∃ p : Nat, P x = p ∧ x < p ∧ p ≤ 2 * n - 2)
    (hg : g < 2 * n - 2) (hp : P g = p) (hB : w.heap.size + 2 ≤ B) (hdb : B + 1 < db) :
    DepR w (wr.setCell ⟨db, g, none⟩ (.int .i64 ((d p : Int) + 1))) B db wp wcap n g P (fun t => if t = g then d p + 1 else d t) := by
  have hf : Fr [db] wr (wr.setCell ⟨db, g, none⟩ (.int .i64 ((d p : Int) + 1))) := (Fr.refl _ _).setCell (.inl (by simp)) _
  obtain ⟨p', e1, e2, e3⟩ := hr g hg
  have hpp : p' = p := by rw [hp] at e1; omega
  subst hpp
  refine ⟨cell_fr h.box (by have := h.parent.lt; omega) hf (by simp; omega), h.parent.fr hf (by simp; omega), ?_, h.below.setCell (by simp; omega) _, ?_, fun x h1 h2 => ?_, fun x h1 h2 => ?_⟩
  · have := h.depth.set g ((d p' : Int) + 1)
    rw [Nat.zero_add] at this
    refine this.congr (fun t ht => ?_)
    by_cases e : t = g
    · rw [if_pos e, if_pos e]; omega
    · rw [if_neg e, if_neg e]
  · rw [if_neg (by omega)]; exact h.root
  · obtain ⟨px, f1, f2, f3⟩ := hr x h2
    rw [f1, Int.toNat_natCast]
    by_cases e : x = g
    · subst e
      have : px = p' := by rw [hp] at f1; omega
      subst this
      rw [if_pos rfl, if_neg (by omega)]
    · rw [if_neg e, if_neg (by omega)]
      have := h.deep x (by omega) h2
      rw [f1, Int.toNat_natCast] at this
      exact this
  · by_cases e : x = g
    · subst e
      rw [if_pos rfl]
      have := h.bound p' (by omega) e3
      omega
    · rw [if_neg e]
      exact h.bound x (by omega) h2

/-- behind s rounds of the last loop -/
structure LastR (w wr : World) (db : Nat) (wp : Option Addr) (wcap n lblk loff ln s : Nat) (fits : Bool) (Ln : Row) (d : Nat → Nat) : Prop where
  box : wr.cell? ⟨w.heap.size, 0, none⟩ = some (.slice wp n wcap)
  depth : RowAt .i64 wr db 0 516 (fun t => (d t : Int))
  len : RowAt .u8 wr lblk loff ln (fun t => if t < s then ((min (d t) 255 : Nat) : Int) else Ln t)
  fr : Fr [lblk] w wr
  fit : fits = true ↔ ∀ t, t < s → d t ≤ 20

theorem LastR.next {w wr : World} {db : Nat} {wp : Option Addr} {wcap n lblk loff ln s : Nat} {fits : Bool} {Ln : Row} {d : Nat → Nat} (h : LastR w wr db wp wcap n lblk loff ln s fits Ln d)
    (hdb : w.heap.size < db) (hl : lblk < w.heap.size) (f' : Bool) (hf' : f' = true ↔ (fits = true ∧ d s ≤ 20)) :
    LastR w (wr.setCell ⟨lblk, loff + s, none⟩ (.int .u8 ((min (d s) 255 : Nat) : Int))) db wp wcap n lblk loff ln (s + 1) f' Ln d := by
  have hf : Fr [lblk] wr (wr.setCell ⟨lblk, loff + s, none⟩ (.int .u8 ((min (d s) 255 : Nat) : Int))) := (Fr.refl _ _).setCell (.inl (by simp)) _
  refine ⟨cell_fr h.box (by have := h.depth.lt; omega) hf (by simp; omega), h.depth.fr hf (by simp; omega), ?_, h.fr.trans' hf, ?_⟩
  · refine (h.len.set s _).congr (fun t ht => ?_)
    by_cases e : t = s
    · subst e; simp
    · by_cases e2 : t < s
      · rw [if_neg e, if_pos e2, if_pos (by omega)]
      · rw [if_neg e, if_neg e2, if_neg (by omega)]
  · rw [hf', h.fit]
    constructor
    · rintro ⟨h1, h2⟩ t ht
      by_cases e : t = s
      · subst e; exact h2
      · exact h1 t (by omega)
    · intro h1
      exact ⟨fun t ht => h1 t (by omega), h1 s (by omega)⟩

def LastQ (v104 v20 : Value) (w wr : World) (db : Nat) (wp : Option Addr) (wcap n lblk loff ln : Nat) (Ln : Row) (d : Nat → Nat) : Prop :=
  ∃ (s : Nat) (fits : Bool), v104 = .int .i64 s ∧ v20 = .bool fits ∧ s ≤ n ∧ LastR w wr db wp wcap n lblk loff ln s fits Ln d

/-- the answer of huffmanLengths -/
def HuffR (e : Ending) (w w' : World) (lblk loff ln n : Nat) (wt Ln : Row) : Prop :=
  ∃ (fits : Bool) (T : Nat → Nat) (W : Row) (d : Nat → Nat), e = .returned (.bool fits) ∧ TreeT n wt T W d ∧ RowAt .u8 w' lblk loff ln (fun t => if t < n then ((min (d t) 255 : Nat) : Int) else Ln t) ∧ Fr [lblk] w w' ∧ (fits = true ↔ ∀ s, s < n → d s ≤ 20)

set_option maxRecDepth 100000 in
set_option maxHeartbeats 32000000 in
theorem huffman_u64 (wblk woff wcap lblk loff ln lcap n : Nat) (wt Ln : Row) (w : World) (hW : RowAt .i64 w wblk woff n wt) (hLn : RowAt .u8 w lblk loff ln Ln) (hne : wblk ≠ lblk)
    (hn : n ≤ 258) (hn1 : 1 ≤ n) (hnl : n ≤ ln) (hln : ln ≤ 65536) (hw : ∀ q, q < n → 1 ≤ wt q ∧ wt q ≤ 4194304) :
    Calls Try.prog 32 #[.slice (some ⟨wblk, woff, none⟩) n wcap, .slice (some ⟨lblk, loff, none⟩) ln lcap] w fun e w' => HuffR e w w' lblk loff ln n wt Ln := by
  have hmf : ∀ (fn : Fn) (first cap : Array Value) (w : World), (Instr.makeFunc fn first cap).run Try.prog w = .ok (.func fn first cap) w := fun _ _ _ _ => rfl
  go_enter Try.func32, Try.ntmps32
  have HW : Hid (RowAt .i64 w wblk woff n wt) := hW
  have HLN : Hid (RowAt .u8 w lblk loff ln Ln) := hLn
  have HWT : Hid (∀ q, q < n → 1 ≤ wt q ∧ wt q ≤ 4194304) := hw
  have hwl := hW.lt
  have hll := hLn.lt
  clear hW hLn hw
  obtain ⟨Z74, eZ74, hZ74⟩ := z74
  obtain ⟨Z65, eZ65, hZ65⟩ := z65
  have EZ65 : Hid _ := eZ65
  clear eZ65
  have EZ74 : Hid _ := eZ74
  clear eZ74
  go_upto_region 2 with fail
  generalize hw1 : World.alloc _ _ = w1
  have HB1 : Hid (St1 w w1 (some ⟨wblk, woff, none⟩) wcap n 0 wt) := by
    rw [← hw1]
    refine ⟨by simp, ?_, ?_⟩
    · have := row_fresh (u := w.alloc (Obj.cells #[Value.slice (some ⟨wblk, woff, none⟩) n wcap] 50)) (t := 74) EZ74.out
      simpa using this
    · exact ((Below.refl _ _).alloc (Nat.le_refl _) _).alloc (by simp) _
  clear hw1
  have cb1 := HB1.out.box
  go_wp2_with fail
  go_loopw [24] (fun v24 wr => ∃ s : Nat, v24 = .int .i64 s ∧ s ≤ n ∧ St1 w wr (some ⟨wblk, woff, none⟩) wcap n s wt) (fun v24 _ => n - (intOf v24).toNat)
  case atStart => exact ⟨0, rfl, by omega, HB1.out⟩
  case round =>
    obtain ⟨s, rfl, hsn, hS1⟩ := hrel
    clear cb1
    have HS1 : Hid (St1 w wr (some ⟨wblk, woff, none⟩) wcap n s wt) := hS1
    by_cases hs : s < n
    · have hsi : (s : Int) < n := by omega
      have cw := (HW.out.below hS1.below hwl).cell s hs
      have cl := hS1.leaves.cell0 (t := s) (by omega)
      have fl := hS1.leaves.fz0 (t := s) (by omega)
      have hws := HWT.out s hs
      obtain ⟨a, ea⟩ : ∃ a : Nat, wt s = a := ⟨(wt s).toNat, by omega⟩
      have HNX : Hid (St1 w (wr.setCell ⟨w.heap.size + 1, s, none⟩ (.int .u64 (wt s * 512 + s))) (some ⟨wblk, woff, none⟩) wcap n (s + 1) wt) := hS1.next
      rw [ea] at cw hws
      have hor := or9 a s (by omega) (by omega)
      clear hS1
      go_wp2_with fail
      go_roundw
      case rel =>
        refine ⟨s + 1, by go_num, by omega, ?_⟩
        have := HNX.out
        rw [ea] at this
        exact this
      case measure => simp [intOf]; omega
    · have hsi : ¬ (s : Int) < n := by omega
      clear hS1
      have hsn2 : n = s := by omega
      subst hsn2
      have cb := HS1.out.box
      have hsl := slice74 (w.heap.size + 1) n hn
      go_wp2_with fail
      have hR1 : RowAt .u64 wr (w.heap.size + 1) 0 n (key wt) := by
        have := HS1.out.leaves
        exact ⟨this.lt, fun t ht => by rw [this.cell t (by omega)]; simp [ht], fun t ht => this.fz t (by omega)⟩
      refine (sort_u64 (w.heap.size + 1) 0 n 258 (by omega) (key wt) wr hR1).mono ?_
      rintro e w2 ⟨rfl, K, hKL, hKS⟩
      obtain ⟨sig, hord, hKe⟩ := order_of (by omega) hKL.perm hKS
      have HORD : Hid (Order n wt sig) := hord
      have HKE : Hid (∀ q, q < n → K q = wt (sig q) * 512 + sig q) := hKe
      have HK2 : Hid (RowAt .u64 w2 (w.heap.size + 1) 0 n K ∧ w2.cell? ⟨w.heap.size, 0, none⟩ = some (.slice (some ⟨wblk, woff, none⟩) n wcap) ∧ Below w.heap.size w w2 ∧ w.heap.size + 2 ≤ w2.heap.size) := by
        have hb := HS1.out.leaves.lt
        refine ⟨hKL.row, cell_fr cb (by omega) hKL.fr (by simp), ?_, by have := hKL.fr.size; omega⟩
        exact HS1.out.below.trans (hKL.fr.below (by simp) (by omega))
      clear hR1 hKL hKS hord hKe hsl HS1 HB1 cb
      go_upto_region 9 with fail
      generalize hw3 : World.alloc _ _ = w3
      have HS2 : Hid (St2 w w3 w2.heap.size (some ⟨wblk, woff, none⟩) wcap n 0 wt K) := by
        obtain ⟨k1, k2, k3, k4⟩ := HK2.out
        rw [← hw3]
        have hf : Fr [] w2 ((w2.alloc (Obj.cells Z65 65)).alloc (Obj.cells Z65 65)) := ((Fr.refl _ _).alloc _).alloc _
        refine ⟨k4, cell_fr k2 (by omega) hf (by simp), k1.fr hf (by simp), ?_, ?_, k3.trans (hf.below (by simp) (by omega))⟩
        · have := row_fresh (u := w2) (t := 65) EZ65.out
          exact (this.alloc _).congr (fun t _ => by simp)
        · have := row_fresh (u := w2.alloc (Obj.cells Z65 65)) (t := 65) EZ65.out
          simpa using this
      clear hw3 HK2
      have cb := HS2.out.box
      obtain ⟨B, eB⟩ : ∃ B, B = w2.heap.size := ⟨_, rfl⟩
      rw [← eB] at HS2 ⊢
      clear eB
      go_wp2_with fail
      go_loopw [44] (fun v44 wr => ∃ s : Nat, v44 = .int .i64 s ∧ s ≤ n ∧ St2 w wr B (some ⟨wblk, woff, none⟩) wcap n s wt K) (fun v44 _ => n - (intOf v44).toNat)
      case atStart => exact ⟨0, rfl, by omega, HS2.out⟩
      case round =>
        obtain ⟨s, rfl, hsn, hS2⟩ := hrel
        clear cb
        have HS3 : Hid (St2 w wr B (some ⟨wblk, woff, none⟩) wcap n s wt K) := hS2
        by_cases hs : s < n
        · have hsi : (s : Int) < n := by omega
          have cw := (HW.out.below hS2.below hwl).cell s hs
          have cl := hS2.weight.cell0 (t := s) (by omega)
          have fl := hS2.weight.fz0 (t := s) (by omega)
          have HNX : Hid (St2 w (wr.setCell ⟨B, s, none⟩ (.int .i64 (wt s))) B (some ⟨wblk, woff, none⟩) wcap n (s + 1) wt K) := hS2.next
          clear hS2
          go_wp2_with fail
          go_roundw
          case rel => exact ⟨s + 1, by go_num, by omega, HNX.out⟩
          case measure => simp [intOf]; omega
        · have hsi : ¬ (s : Int) < n := by omega
          clear hS2
          have hsn2 : n = s := by omega
          subst hsn2
          have cb := HS3.out.box
          clear HS2
          have hbs : w.heap.size < wr.heap.size := by have := HS3.out.leaves.lt; omega
          have hb0 : w.heap.size ≠ wr.heap.size := by omega
          have hb1 : w.heap.size ≠ wr.heap.size + 1 := by omega
          have hb2 : w.heap.size ≠ wr.heap.size + 2 := by omega
          have cb1 : ∀ o, (wr.alloc o).cell? ⟨w.heap.size, 0, none⟩ = some (.slice (some ⟨wblk, woff, none⟩) n wcap) := fun o => by
            rw [World.cell?_alloc_lt _ _ _ hbs]; exact cb
          have cb2 : ∀ o o', ((wr.alloc o).alloc o').cell? ⟨w.heap.size, 0, none⟩ = some (.slice (some ⟨wblk, woff, none⟩) n wcap) := fun o o' => by
            rw [World.cell?_alloc_lt _ _ _ (by simp; omega)]; exact cb1 o
          have cb3 : ∀ o o' o'', (((wr.alloc o).alloc o').alloc o'').cell? ⟨w.heap.size, 0, none⟩ = some (.slice (some ⟨wblk, woff, none⟩) n wcap) := fun o o' o'' => by
            rw [World.cell?_alloc_lt _ _ _ (by simp; omega)]; exact cb2 o o'
          go_upto_region 14 with fail
          go_cut [12, 13, 14] (fun v12 v13 v14 wc => LaidQ v12 v13 v14 w wc B (some ⟨wblk, woff, none⟩) wcap n wt K)
          case first =>
            go_region
            all_goals go_wp2_with fail
            · go_meet
              case rel => exact laid_of HS3.out (fr3 _ _ _ _) (by omega) (by omega) (by omega) (by omega) (by omega) (by omega) (cnt1 _ _ _ _ _ rfl).drew (cnt2 _ _ _ _ _ rfl).drew (cnt3 _ _ _ _ _ rfl).drew
            · go_meet
              case rel => exact laid_of HS3.out (fr3 _ _ _ _) (by omega) (by omega) (by omega) (by omega) (by omega) (by omega) (cnt1 _ _ _ _ _ rfl).drew (cnt3 _ _ _ _ _ rfl).drew (cnt2 _ _ _ _ _ rfl).drew
            · go_meet
              case rel => exact laid_of HS3.out (fr3 _ _ _ _) (by omega) (by omega) (by omega) (by omega) (by omega) (by omega) (cnt2 _ _ _ _ _ rfl).drew (cnt1 _ _ _ _ _ rfl).drew (cnt3 _ _ _ _ _ rfl).drew
            · go_meet
              case rel => exact laid_of HS3.out (fr3 _ _ _ _) (by omega) (by omega) (by omega) (by omega) (by omega) (by omega) (cnt3 _ _ _ _ _ rfl).drew (cnt1 _ _ _ _ _ rfl).drew (cnt2 _ _ _ _ _ rfl).drew
            · go_meet
              case rel => exact laid_of HS3.out (fr3 _ _ _ _) (by omega) (by omega) (by omega) (by omega) (by omega) (by omega) (cnt2 _ _ _ _ _ rfl).drew (cnt3 _ _ _ _ _ rfl).drew (cnt1 _ _ _ _ _ rfl).drew
            · go_meet
              case rel => exact laid_of HS3.out (fr3 _ _ _ _) (by omega) (by omega) (by omega) (by omega) (by omega) (by omega) (cnt3 _ _ _ _ _ rfl).drew (cnt2 _ _ _ _ _ rfl).drew (cnt1 _ _ _ _ _ rfl).drew
          case rest =>
            obtain ⟨nb, jb, mb, rfl, rfl, rfl, hM, hPar, hBel, ho1, ho2, ho3⟩ := hcut
            have HM0 : Hid (MainR w wc B nb jb mb (some ⟨wblk, woff, none⟩) wcap n n wt K sig) :=
              ⟨0, n, fun _ => 0, _, _, hM, hPar, hBel, plain_start HORD.out (fun s hs => (HWT.out s hs).1) (fun s hs => if_pos hs)⟩
            have hsum : sumTo wt n ≤ 1082130432 := by
              have h1 := sumTo_le (g := wt) (k := n) (B := 4194304) (fun t ht => (HWT.out t ht).2)
              omega
            have HSUM : Hid _ := hsum
            have hBb := HS3.out.hB
            clear hM hPar hBel HS3 cb cb1 cb2 cb3 hb0 hb1 hb2 hbs hsum
            go_wp2_with fail
            go_loopg [] (2 * n - n) (fun gk wr => ∃ m : Nat, n ≤ m ∧ m < 2 * n ∧ m + gk = 2 * n ∧ MainR w wr B nb jb mb (some ⟨wblk, woff, none⟩) wcap n m wt K sig)
            case atStart => exact ⟨n, Nat.le_refl _, by omega, by omega, HM0.out⟩
            case round =>
              obtain ⟨m, hnm, hm2, hgk, i, j, T, W, P, hM, hPar, hBel, hPl⟩ := hrel
              clear HM0
              have cnx := hM.next.cell
              have cjn := hM.joined.cell
              have cnd := hM.nodes.cell
              have cbx := hM.box
              obtain ⟨q1, q2, q3, q4⟩ := left_count hPl
              have HM : Hid (HMem wr w.heap.size (w.heap.size + 1) B nb jb mb (some ⟨wblk, woff, none⟩) wcap n i j m K W) := hM
              have HPAR : Hid (RowAt .i64 wr (B + 1) 0 516 P) := hPar
              have HBEL : Hid (Below w.heap.size w wr) := hBel
              have HPL : Hid (Plain n wt sig T i j m W P) := hPl
              clear hM hPar hBel hPl
              by_cases hm1 : m + 1 < 2 * n
              · have hci : 1 < (n : Int) - i + m - j := by omega
                go_wp2_with fail
                refine (lightest_u64 w.heap.size (w.heap.size + 1) B nb jb mb (some ⟨wblk, woff, none⟩) wcap n i j m K W wt sig wr HM.out hn q2 q3 (by omega) (avail1 HPL.out hm1) HKE.out HORD.out.lt HWT.out).mono ?_
                rintro e w5 ⟨x, i1, j1, rfl, hst1, hM5, hF5⟩
                have HST1 : Hid (StepQ n wt W sig i j m x i1 j1) := hst1
                have HM5 : Hid (HMem w5 w.heap.size (w.heap.size + 1) B nb jb mb (some ⟨wblk, woff, none⟩) wcap n i1 j1 m K W) := hM5
                have HF5 : Hid (Fr [nb, jb] wr w5) := hF5
                clear hst1 hM5 hF5
                obtain ⟨av, av2, av3⟩ := avail2 HPL.out hm1 HST1.out
                go_wp2_with fail
                refine (lightest_u64 w.heap.size (w.heap.size + 1) B nb jb mb (some ⟨wblk, woff, none⟩) wcap n i1 j1 m K W wt sig w5 HM5.out hn av2 av3 (by omega) av HKE.out HORD.out.lt HWT.out).mono ?_
                rintro e w6 ⟨y, i2, j2, rfl, hst2, hM6, hF6⟩
                obtain ⟨hx, hy, hxy, htot, hpx, hpy⟩ := takes_lt HORD.out HPL.out HST1.out hst2
                have HNX : Hid (Plain n wt sig (T2 T (2 * (m - n)) x y) i2 j2 (m + 1) (fun t => if t = m then W x + W y else W t) (fun t => if t = y then (m : Int) else if t = x then (m : Int) else P t)) := plain_step HORD.out HPL.out HST1.out hst2
                have hsm := HSUM.out
                have cnd6 := hM6.nodes.cell
                have fnd6 := hM6.nodes.fz
                have cx := hM6.weight.cell0 (t := x) (by omega)
                have cy := hM6.weight.cell0 (t := y) (by omega)
                have cmm := hM6.weight.cell0 (t := m) (by omega)
                have fmm := hM6.weight.fz0 (t := m) (by omega)
                have hord6 := hM6.ord
                have hPar6 : RowAt .i64 w6 (B + 1) 0 516 P := (HPAR.out.fr HF5.out (by simp; omega)).fr hF6 (by simp; omega)
                have HBEL6 : Hid (Below w.heap.size w w6) := by
                  have f1 : Fr [nb, jb] wr w6 := HF5.out.trans' hF6
                  exact HBEL.out.trans (f1.below (by simp; omega) HBEL.out.size)
                have px := hPar6.cell0 (t := x) (by omega)
                have py := hPar6.cell0 (t := y) (by omega)
                have fpx := hPar6.fz0 (t := x) (by omega)
                have fpy := hPar6.fz0 (t := y) (by omega)
                have HM6 : Hid (HMem w6 w.heap.size (w.heap.size + 1) B nb jb mb (some ⟨wblk, woff, none⟩) wcap n i2 j2 m K W) := hM6
                have HPAR6 : Hid (RowAt .i64 w6 (B + 1) 0 516 P) := hPar6
                clear hM6 hPar6 hst2 hF6
                go_wp2_with fail
                go_region
                generalize hw7 : World.drew _ = w7
                have hM7 : HMem w7 w.heap.size (w.heap.size + 1) B nb jb mb (some ⟨wblk, woff, none⟩) wcap n i2 j2 m K (fun t => if t = m then W x + W y else W t) := by
                  rw [← hw7]; exact (HM6.out.setW m _).drew
                have hPar7 : RowAt .i64 w7 (B + 1) 0 516 P := by rw [← hw7]; exact (HPAR6.out.setOther (by simp) _).drew
                have HBEL7 : Hid (Below w.heap.size w w7) := by rw [← hw7]; exact (HBEL6.out.setCell (by simp; omega) _).drew
                clear hw7 cnd6 fnd6 cx cy cmm fmm px py fpx fpy HM6 HPAR6 HBEL6
                have cnd7 := hM7.nodes.cell
                have px := hPar7.cell0 (t := x) (by omega)
                have py := hPar7.cell0 (t := y) (by omega)
                have fpx := hPar7.fz0 (t := x) (by omega)
                have fpy := hPar7.fz0 (t := y) (by omega)
                have HM7 : Hid (HMem w7 w.heap.size (w.heap.size + 1) B nb jb mb (some ⟨wblk, woff, none⟩) wcap n i2 j2 m K (fun t => if t = m then W x + W y else W t)) := hM7
                have HPAR7 : Hid (RowAt .i64 w7 (B + 1) 0 516 P) := hPar7
                clear hM7 hPar7
                go_wp2_with fail
                go_region
                generalize hw8 : World.drew _ = w8
                have hf8 : Fr [B + 1] w7 w8 := by rw [← hw8]; exact (((Fr.refl _ _).setCell (.inl (by simp)) _).setCell (.inl (by simp)) _).drew
                have hM8 : HMem w8 w.heap.size (w.heap.size + 1) B nb jb mb (some ⟨wblk, woff, none⟩) wcap n i2 j2 m K (fun t => if t = m then W x + W y else W t) :=
                  HM7.out.fr hf8 (by simp; omega) (by simp; omega) (by simp) (by simp; omega) (by simp; omega) (by simp; omega)
                have HPAR8 : Hid (RowAt .i64 w8 (B + 1) 0 516 (fun t => if t = y then (m : Int) else if t = x then (m : Int) else P t)) := by
                  rw [← hw8]
                  have := (HPAR7.out.set x m).set y m
                  rw [Nat.zero_add, Nat.zero_add] at this
                  exact this.drew
                have HBEL8 : Hid (Below w.heap.size w w8) := HBEL7.out.trans (hf8.below (by simp; omega) HBEL7.out.size)
                have cnd8 := hM8.nodes.cell
                have fnd8 := hM8.nodes.fz
                have HM8 : Hid (HMem w8 w.heap.size (w.heap.size + 1) B nb jb mb (some ⟨wblk, woff, none⟩) wcap n i2 j2 m K (fun t => if t = m then W x + W y else W t)) := hM8
                clear hw8 hf8 hM8 HM7 HPAR7 HBEL7 cnd7 px py fpx fpy
                go_wp2_with fail
                go_roundg (gk - 1)
                case measure => omega
                case rel =>
                  refine ⟨m + 1, by omega, by omega, by omega, i2, j2, _, _, _, HM8.out.setNodes (m + 1), HPAR8.out.setOther (by simp; omega) _, HBEL8.out.setCell (by simp; omega) _, HNX.out⟩
              · have hme : m = 2 * n - 1 := by omega
                subst hme
                have hci : ¬ 1 < (n : Int) - i + ((2 * n - 1 : Nat) : Int) - j := by omega
                have hrange := par_range HPL.out hn1
                have HRG : Hid _ := hrange
                clear hrange
                go_upto_region 22 with fail
                generalize hw9 : World.alloc _ _ = w9
                have hf9 : Fr [] wr w9 := by rw [← hw9]; exact (Fr.refl _ _).alloc _
                have hor := HM.out.ord
                have hdb : B + 1 < wr.heap.size := HPAR.out.lt
                have HD9 : Hid (DepR w w9 B wr.heap.size (some ⟨wblk, woff, none⟩) wcap n (2 * n - 2) P (fun _ => 0)) := by
                  refine ⟨cell_fr HM.out.box HM.out.boxlt hf9 (by simp), HPAR.out.fr hf9 (by simp), ?_, HBEL.out.trans (hf9.below (by simp) HBEL.out.size), rfl, fun x h1 h2 => by omega, fun x h1 h2 => by simp; omega⟩
                  rw [← hw9]
                  exact (row_fresh EZ65.out).congr (fun t _ => by simp)
                have cnd9 := (HM.out.nodes.fr hf9 (by simp)).cell
                obtain ⟨db, edb⟩ : ∃ db, db = wr.heap.size := ⟨_, rfl⟩
                rw [← edb] at HD9 hdb ⊢
                clear edb hw9 hf9 cnx cjn cnd cbx
                have h2n : ((2 * n - 1 : Nat) : Int) = 2 * (n : Int) - 1 := by omega
                rw [h2n] at cnd9
                go_wp2_with fail
                go_loopg [19] (2 * n - 2) (fun gk v19 wr2 => v19 = .int .i64 ((gk : Int) - 1) ∧ gk ≤ 2 * n - 2 ∧ ∃ d : Nat → Nat, DepR w wr2 B db (some ⟨wblk, woff, none⟩) wcap n gk P d)
                case atStart => exact ⟨by rw [show (2 * (n : Int) - 1 - 2) = ((2 * n - 2 : Nat) : Int) - 1 by omega], Nat.le_refl _, _, HD9.out⟩
                case round =>
                  obtain ⟨rfl, hgk2, d, hD⟩ := hrel
                  clear HD9 cnd9
                  have HD : Hid (DepR w wr B db (some ⟨wblk, woff, none⟩) wcap n gk P d) := hD
                  by_cases hg0 : gk = 0
                  · have e1 : (gk : Int) - 1 = -1 := by omega
                    rw [e1]
                    have hbox := hD.box
                    have HTREE : Hid (TreeT n wt T W d) := plain_end HPL.out hn1 hD.root (fun x hx => hD.deep x (by omega) hx)
                    have HL0 : Hid (LastR w wr db (some ⟨wblk, woff, none⟩) wcap n lblk loff ln 0 true Ln d) :=
                      ⟨hD.box, hD.depth, (HLN.out.below hD.below hll).congr (fun t _ => by simp), Fr.of_below hD.below, by simp⟩
                    clear hD HD
                    go_wp2_with fail
                    go_loopw [104, 20] (fun v104 v20 wr3 => LastQ v104 v20 w wr3 db (some ⟨wblk, woff, none⟩) wcap n lblk loff ln Ln d) (fun v104 _ _ => n - (intOf v104).toNat)
                    case atStart => exact ⟨0, true, rfl, rfl, Nat.zero_le _, HL0.out⟩
                    case round =>
                      obtain ⟨s, fits, rfl, rfl, hsn, hL⟩ := hrel
                      have HL : Hid (LastR w wr db (some ⟨wblk, woff, none⟩) wcap n lblk loff ln s fits Ln d) := hL
                      clear HL0 hbox
                      by_cases hs : s < n
                      · have hsi : (s : Int) < n := by omega
                        have cd := hL.depth.cell0 (t := s) (by omega)
                        have cl := hL.len.cell s (by omega)
                        have fl := hL.len.fz s (by omega)
                        have hdb2 : w.heap.size < db := by omega
                        have HNX : Hid (∀ f' : Bool, (f' = true ↔ (fits = true ∧ d s ≤ 20)) → LastR w (wr.setCell ⟨lblk, loff + s, none⟩ (.int .u8 ((min (d s) 255 : Nat) : Int))) db (some ⟨wblk, woff, none⟩) wcap n lblk loff ln (s + 1) f' Ln d) := fun f' h => hL.next hdb2 hll f' h
                        clear hL
                        have emin : ((min (d s) 255 : Nat) : Int) = min ((d s : Nat) : Int) 255 := by omega
                        rw [emin] at HNX
                        clear emin
                        go_wp2_with fail
                        · rename_i hfit
                          exact ⟨⟨s + 1, _, by go_num, rfl, by omega, HNX.out _ ⟨fun h => ⟨hfit, by have := of_decide_eq_true h; omega⟩, fun h => decide_eq_true (by omega)⟩⟩, by simp [intOf]; omega⟩
                        · rename_i hfit
                          exact ⟨⟨s + 1, _, by go_num, rfl, by omega, HNX.out _ ⟨fun h => (by cases h), fun h => absurd h.1 hfit⟩⟩, by simp [intOf]; omega⟩
                      · have hsi : ¬ (s : Int) < n := by omega
                        have hsn2 : n = s := by omega
                        subst hsn2
                        clear hL
                        go_wp2_with fail
                        go_ret
                        exact ⟨fits, T, W, d, rfl, HTREE.out, HL.out.len, HL.out.fr, HL.out.fit⟩
                  · obtain ⟨g, eg⟩ : ∃ g, gk = g + 1 := ⟨gk - 1, by omega⟩
                    have e1 : (gk : Int) - 1 = g := by omega
                    rw [e1]
                    rw [eg] at hD
                    obtain ⟨p, ep, hgp, hp2⟩ := HRG.out g (by omega)
                    have cp := hD.parent.cell0 (t := g) (by omega)
                    rw [ep] at cp
                    have cd := hD.depth.cell0 (t := p) (by omega)
                    have cg := hD.depth.cell0 (t := g) (by omega)
                    have fg := hD.depth.fz0 (t := g) (by omega)
                    have hdp := hD.bound p (by omega) hp2
                    have HNX : Hid (DepR w (wr.setCell ⟨db, g, none⟩ (.int .i64 ((d p : Int) + 1))) B db (some ⟨wblk, woff, none⟩) wcap n g P (fun t => if t = g then d p + 1 else d t)) := hD.next HRG.out (by omega) ep hBb hdb
                    clear hD HD
                    go_wp2_with fail
                    go_roundg g
                    case measure => omega
                    case rel => exact ⟨by go_num, by omega, _, HNX.out⟩

end Go.Proofs.Qxb6601576a
