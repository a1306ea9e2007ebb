/-
  huffmanLengths of no symbols; ZZHuffmanLengths.
-/
import Derived.Test.Qxb6601576aHuff
import Derived.Test.Qxb6601576aClone
set_option linter.unusedVariables false
namespace Go.Proofs.Qxb6601576a
open Go.RowKit

def Quiet0 (w w' : World) (e : Ending) : Prop := e = .returned (.bool true) ∧ Below w.heap.size w w'

theorem zzhuff_u64 (wblk woff wcap lblk loff ln lcap n : Nat) (wt Ln : Row) (w : World) (hW : RowAt .i64 w wblk woff n wt) (hLn : RowAt .u8 w lblk loff ln Ln) (hne : wblk ≠ lblk)
    (hn : n ≤ 258) (hn1 : 1 ≤ n) (hnl : n ≤ ln) (hln : ln ≤ 65536) (hw : ∀ q, q < n → 1 ≤ wt q ∧ wt q ≤ 4194304) :
    Calls Try.prog 26 #[.slice (some ⟨wblk, woff, none⟩) n wcap, .slice (some ⟨lblk, loff, none⟩) ln lcap] w fun e w' => HuffR e w w' lblk loff ln n wt Ln := by
  have HW : Hid (RowAt .i64 w wblk woff n wt) := hW
  have HL : Hid (RowAt .u8 w lblk loff ln Ln) := hLn
  have HQ : Hid (∀ q, q < n → 1 ≤ wt q ∧ wt q ≤ 4194304) := hw
  clear hW hLn hw
  go_enter Try.func26, Try.ntmps26
  go_wp2_with fail
  refine (huffman_u64 wblk woff wcap lblk loff ln lcap n wt Ln w HW.out HL.out hne hn hn1 hnl hln HQ.out).mono ?_
  rintro e w' ⟨fits, T, W, d, rfl, h1, h2, h3, h4⟩
  go_wp2_with fail
  go_ret
  exact ⟨fits, T, W, d, rfl, h1, h2, h3, h4⟩

set_option maxRecDepth 100000 in
set_option maxHeartbeats 16000000 in
theorem huffman0 (a0 a1 : Option Addr) (c0 l1 c1 : Nat) (w : World) : Calls Try.prog 32 #[.slice a0 0 c0, .slice a1 l1 c1] w fun e w' => Quiet0 w w' e := by
  have hmf : ∀ (fn : Fn) (first cap : Array Value) (w : World), (Instr.makeFunc fn first cap).run Try.prog w = .ok (.func fn first cap) w := fun _ _ _ _ => rfl
  go_enter Try.func32, Try.ntmps32
  obtain ⟨Z74, eZ74, hZ74⟩ := z74
  obtain ⟨Z65, eZ65, hZ65⟩ := z65
  have EZ65 : Hid _ := eZ65
  clear eZ65
  have EZ74 : Hid _ := eZ74
  clear eZ74
  go_upto_region 2 with fail
  generalize hw1 : World.alloc _ _ = w1
  have HB1 : Hid (St1 w w1 a0 c0 0 0 (fun _ => 0)) := by
    rw [← hw1]
    refine ⟨by simp, ?_, ?_⟩
    · have := row_fresh (u := w.alloc (Obj.cells #[Value.slice a0 0 c0] 50)) (t := 74) EZ74.out
      simpa using this
    · exact ((Below.refl _ _).alloc (Nat.le_refl _) _).alloc (by simp) _
  clear hw1
  have cb1 := HB1.out.box
  go_wp2_with fail
  go_loopw [24] (fun v24 wr => v24 = .int .i64 0 ∧ wr = w1) (fun _ _ => 0)
  case atStart => exact ⟨rfl, rfl⟩
  case round =>
    obtain ⟨rfl, rfl⟩ := hrel
    have hsl := slice74 (w.heap.size + 1) 0 (by omega)
    have hsl0 : ∀ u, (Instr.sliceAt 74 (.pointer (some ⟨w.heap.size + 1, 0, none⟩)) none (some (.int .i64 0)) none).run Try.prog u = .ok (.slice (some ⟨w.heap.size + 1, 0, none⟩) 0 258) u := hsl
    clear hsl
    go_wp2_with fail
    have hR1 : RowAt .u64 wr (w.heap.size + 1) 0 0 (fun _ => 0) := ⟨HB1.out.leaves.lt, fun t ht => by omega, fun t ht => by omega⟩
    refine (sort_u64 (w.heap.size + 1) 0 0 258 (by omega) (fun _ => 0) wr hR1).mono ?_
    rintro e w2 ⟨rfl, K, hKL, hKS⟩
    have HK2 : Hid (RowAt .u64 w2 (w.heap.size + 1) 0 0 K ∧ w2.cell? ⟨w.heap.size, 0, none⟩ = some (.slice a0 0 c0) ∧ Below w.heap.size w w2 ∧ w.heap.size + 2 ≤ w2.heap.size) := by
      have hb := HB1.out.leaves.lt
      refine ⟨hKL.row, cell_fr cb1 (by omega) hKL.fr (by simp), ?_, by have := hKL.fr.size; omega⟩
      exact HB1.out.below.trans (hKL.fr.below (by simp) (by omega))
    clear hR1 hKL hKS hsl0 HB1 cb1
    go_upto_region 9 with fail
    generalize hw3 : World.alloc _ _ = w3
    have HS2 : Hid (St2 w w3 w2.heap.size a0 c0 0 0 (fun _ => 0) K) := by
      obtain ⟨k1, k2, k3, k4⟩ := HK2.out
      rw [← hw3]
      have hf : Fr [] w2 ((w2.alloc (Obj.cells Z65 65)).alloc (Obj.cells Z65 65)) := ((Fr.refl _ _).alloc _).alloc _
      refine ⟨k4, cell_fr k2 (by omega) hf (by simp), k1.fr hf (by simp), ?_, ?_, k3.trans (hf.below (by simp) (by omega))⟩
      · have := row_fresh (u := w2) (t := 65) EZ65.out
        exact (this.alloc _).congr (fun t _ => by simp)
      · have := row_fresh (u := w2.alloc (Obj.cells Z65 65)) (t := 65) EZ65.out
        simpa using this
    clear hw3 HK2
    have cb := HS2.out.box
    obtain ⟨B, eB⟩ : ∃ B, B = w2.heap.size := ⟨_, rfl⟩
    rw [← eB] at HS2 ⊢
    clear eB
    go_wp2_with fail
    go_loopw [44] (fun v44 wr => v44 = .int .i64 0 ∧ wr = w3) (fun _ _ => 0)
    case atStart => exact ⟨rfl, rfl⟩
    case round =>
      obtain ⟨rfl, rfl⟩ := hrel
      have hbs : w.heap.size < wr.heap.size := by have := HS2.out.leaves.lt; omega
      have hb0 : w.heap.size ≠ wr.heap.size := by omega
      have hb1 : w.heap.size ≠ wr.heap.size + 1 := by omega
      have hb2 : w.heap.size ≠ wr.heap.size + 2 := by omega
      have cb1 : ∀ o, (wr.alloc o).cell? ⟨w.heap.size, 0, none⟩ = some (.slice a0 0 c0) := fun o => by
        rw [World.cell?_alloc_lt _ _ _ hbs]; exact cb
      have cb2 : ∀ o o', ((wr.alloc o).alloc o').cell? ⟨w.heap.size, 0, none⟩ = some (.slice a0 0 c0) := fun o o' => by
        rw [World.cell?_alloc_lt _ _ _ (by simp; omega)]; exact cb1 o
      have cb3 : ∀ o o' o'', (((wr.alloc o).alloc o').alloc o'').cell? ⟨w.heap.size, 0, none⟩ = some (.slice a0 0 c0) := fun o o' o'' => by
        rw [World.cell?_alloc_lt _ _ _ (by simp; omega)]; exact cb2 o o'
      go_upto_region 14 with fail
      go_cut [12, 13, 14] (fun v12 v13 v14 wc => LaidQ v12 v13 v14 w wc B a0 c0 0 (fun _ => 0) K)
      case first =>
        go_region
        all_goals go_wp2_with fail
        · go_meet
          case rel => exact laid_of HS2.out (fr3 _ _ _ _) (by omega) (by omega) (by omega) (by omega) (by omega) (by omega) (cnt1 _ _ _ _ _ rfl).drew (cnt2 _ _ _ _ _ rfl).drew (cnt3 _ _ _ _ _ rfl).drew
        · go_meet
          case rel => exact laid_of HS2.out (fr3 _ _ _ _) (by omega) (by omega) (by omega) (by omega) (by omega) (by omega) (cnt1 _ _ _ _ _ rfl).drew (cnt3 _ _ _ _ _ rfl).drew (cnt2 _ _ _ _ _ rfl).drew
        · go_meet
          case rel => exact laid_of HS2.out (fr3 _ _ _ _) (by omega) (by omega) (by omega) (by omega) (by omega) (by omega) (cnt2 _ _ _ _ _ rfl).drew (cnt1 _ _ _ _ _ rfl).drew (cnt3 _ _ _ _ _ rfl).drew
        · go_meet
          case rel => exact laid_of HS2.out (fr3 _ _ _ _) (by omega) (by omega) (by omega) (by omega) (by omega) (by omega) (cnt3 _ _ _ _ _ rfl).drew (cnt1 _ _ _ _ _ rfl).drew (cnt2 _ _ _ _ _ rfl).drew
        · go_meet
          case rel => exact laid_of HS2.out (fr3 _ _ _ _) (by omega) (by omega) (by omega) (by omega) (by omega) (by omega) (cnt2 _ _ _ _ _ rfl).drew (cnt3 _ _ _ _ _ rfl).drew (cnt1 _ _ _ _ _ rfl).drew
        · go_meet
          case rel => exact laid_of HS2.out (fr3 _ _ _ _) (by omega) (by omega) (by omega) (by omega) (by omega) (by omega) (cnt3 _ _ _ _ _ rfl).drew (cnt2 _ _ _ _ _ rfl).drew (cnt1 _ _ _ _ _ rfl).drew
      case rest =>
        obtain ⟨nb, jb, mb, rfl, rfl, rfl, hM, hPar, hBel, ho1, ho2, ho3⟩ := hcut
        have cnx := hM.next.cell
        have cjn := hM.joined.cell
        have cnd := hM.nodes.cell
        have cbx := hM.box
        have HM : Hid _ := hM
        have HBEL : Hid (Below w.heap.size w wc) := hBel
        clear hM hPar hBel HS2 cb cb1 cb2 cb3 hb0 hb1 hb2 hbs
        go_wp2_with fail
        go_loopw [] (fun wr => wr = wc) (fun _ => 0)
        case atStart => rfl
        case round =>
          subst hrel
          go_upto_region 22 with fail
          generalize hw9 : World.alloc _ _ = w9
          have hf9 : Fr [] wr w9 := by rw [← hw9]; exact (Fr.refl _ _).alloc _
          have cnd9 := (HM.out.nodes.fr hf9 (by simp)).cell
          have cbx9 := cell_fr HM.out.box HM.out.boxlt hf9 (by simp)
          have HBEL9 : Hid (Below w.heap.size w w9) := HBEL.out.trans (hf9.below (by simp) HBEL.out.size)
          clear hw9 hf9 cnx cjn cnd cbx HM HBEL
          go_wp2_with fail
          go_loopw [19] (fun v19 wr => v19 = .int .i64 (-2) ∧ wr = w9) (fun _ _ => 0)
          case atStart => exact ⟨rfl, rfl⟩
          case round =>
            obtain ⟨rfl, rfl⟩ := hrel
            go_wp2_with fail
            go_loopw [104, 20] (fun v104 v20 wr' => v104 = .int .i64 0 ∧ v20 = .bool true ∧ wr' = wr) (fun _ _ _ => 0)
            case atStart => exact ⟨rfl, rfl, rfl⟩
            case round =>
              obtain ⟨rfl, rfl, rfl⟩ := hrel
              go_wp2_with fail
              go_ret
              exact ⟨rfl, HBEL9.out⟩

theorem zzhuff0 (a0 a1 : Option Addr) (c0 l1 c1 : Nat) (w : World) : Calls Try.prog 26 #[.slice a0 0 c0, .slice a1 l1 c1] w fun e w' => Quiet0 w w' e := by
  go_enter Try.func26, Try.ntmps26
  go_wp2_with fail
  refine (huffman0 a0 a1 c0 l1 c1 w).mono ?_
  rintro e w' ⟨rfl, h1⟩
  go_wp2_with fail
  go_ret
  exact ⟨rfl, h1⟩

end Go.Proofs.Qxb6601576a
