/- The tables that are made anew at each call. Lines of the walks printed by gen_tables.py. -/
import Derived.Test.YtnpkihobbcglcaaGreatDoorQ01
import Derived.Test.YtnpkihobbcglcaaGreatDoorQ03
set_option linter.unusedSimpArgs false
set_option linter.unusedVariables false

/- T1: The tables that are made anew at each call. Lines of the walks printed by gen_tables.py. -/
namespace Go.Proofs.YtnpkihobbcglcaaGreatDoor
open Go Go.RowKit

/-- At tb lies a table of rows of numbers (those that are asked for), all of it in blocks from B on. -/
def IsTab (w : World) (B tb : Nat) (k : IntKind) (T : TypeId) (ask : List Nat) (rows : List (List Int)) : Prop :=
  ∀ y, y ∈ ask → ∃ b, B ≤ b ∧ w.cell? ⟨tb, y, none⟩ = some (.slice (some ⟨b, 0, none⟩) (rows.getD y []).length (rows.getD y []).length) ∧ Ints w b k T (rows.getD y [])
theorem IsTab.frm {S : Nat → Prop} {w w' : World} {B tb : Nat} {k : IntKind} {T : TypeId} {ask : List Nat} {rows : List (List Int)} (h : IsTab w B tb k T ask rows) (htb : tb < w.heap.size) (hb : B ≤ tb) (hf : Frm S w w') (hs : ∀ j, B ≤ j → ¬ S j) : IsTab w' B tb k T ask rows :=
  fun y hy => by
    obtain ⟨b, h1, h2, h3⟩ := h y hy
    exact ⟨b, h1, by rw [hf.cell htb (hs tb hb)]; exact h2, h3.frm hf (hs b h1)⟩
theorem Blk.toInts {w : World} {b : Nat} {k : IntKind} {T : TypeId} {xs : List Int} (h : Blk w b (intCells k xs) T) : Ints w b k T xs := h
def AllOf (p : Nat → Prop) : List Nat → Prop
  | [] => True
  | a :: l => p a ∧ AllOf p l
theorem mem_ask {p : Nat → Prop} : ∀ (l : List Nat) (_ : AllOf p l), ∀ y, y ∈ l → p y
  | a :: l, h, y, hy => by
    rcases List.mem_cons.1 hy with e | e
    · rw [e]; exact h.1
    · exact mem_ask l h.2 y e

def pdpRows : List (List Int) := [[1, 1, 1, 1, 1, 1, 1], [1, 0, 0, 0, 0, 0, 1], [1, 0, 1, 1, 1, 0, 1], [1, 0, 1, 1, 1, 0, 1], [1, 0, 1, 1, 1, 0, 1], [1, 0, 0, 0, 0, 0, 1], [1, 1, 1, 1, 1, 1, 1]]
set_option maxRecDepth 100000 in
set_option maxHeartbeats 4000000 in
theorem pdp_any (w : World) : Calls Tryz.prog 173 #[] w fun e w' => (∃ tb, e = .returned (.slice (some ⟨tb, 0, none⟩) 7 7) ∧ w.heap.size ≤ tb ∧ tb < w'.heap.size ∧ IsTab w' w.heap.size tb .i8 57 [0, 1, 2, 3, 4, 5, 6] pdpRows) ∧ Kept w w' := by
  go_enter Tryz.func173, Tryz.ntmps173
  go_wp2_with (first | (with_reducible refine wpList_build (o := ⟨some 1, _, _, _, _, _⟩) rfl 124 7 _ rfl (intCells .i8 [1, 1, 1, 1, 1, 1, 1]) 57 (fun _ => by kernel_rfl) ?_; intro b0 w0 hb0 he0 hk0; replace he0 := Nat.le_of_eq he0.symm; replace hb0 := Lib.hid hb0; replace hk0 := Lib.hid hk0) | (with_reducible refine wpList_build (o := ⟨some 2, _, _, _, _, _⟩) rfl 124 7 _ rfl (intCells .i8 [1, 0, 0, 0, 0, 0, 1]) 57 (fun _ => by kernel_rfl) ?_; intro b1 w1 hb1 he1 hk1; replace he1 := Nat.le_of_eq he1.symm; replace hb1 := Lib.hid hb1; replace hk1 := Lib.hid hk1) | (with_reducible refine wpList_build (o := ⟨some 3, _, _, _, _, _⟩) rfl 124 7 _ rfl (intCells .i8 [1, 0, 1, 1, 1, 0, 1]) 57 (fun _ => by kernel_rfl) ?_; intro b2 w2 hb2 he2 hk2; replace he2 := Nat.le_of_eq he2.symm; replace hb2 := Lib.hid hb2; replace hk2 := Lib.hid hk2) | (with_reducible refine wpList_build (o := ⟨some 4, _, _, _, _, _⟩) rfl 124 7 _ rfl (intCells .i8 [1, 0, 1, 1, 1, 0, 1]) 57 (fun _ => by kernel_rfl) ?_; intro b3 w3 hb3 he3 hk3; replace he3 := Nat.le_of_eq he3.symm; replace hb3 := Lib.hid hb3; replace hk3 := Lib.hid hk3) | (with_reducible refine wpList_build (o := ⟨some 5, _, _, _, _, _⟩) rfl 124 7 _ rfl (intCells .i8 [1, 0, 1, 1, 1, 0, 1]) 57 (fun _ => by kernel_rfl) ?_; intro b4 w4 hb4 he4 hk4; replace he4 := Nat.le_of_eq he4.symm; replace hb4 := Lib.hid hb4; replace hk4 := Lib.hid hk4) | (with_reducible refine wpList_build (o := ⟨some 6, _, _, _, _, _⟩) rfl 124 7 _ rfl (intCells .i8 [1, 0, 0, 0, 0, 0, 1]) 57 (fun _ => by kernel_rfl) ?_; intro b5 w5 hb5 he5 hk5; replace he5 := Nat.le_of_eq he5.symm; replace hb5 := Lib.hid hb5; replace hk5 := Lib.hid hk5) | (with_reducible refine wpList_build (o := ⟨some 7, _, _, _, _, _⟩) rfl 124 7 _ rfl (intCells .i8 [1, 1, 1, 1, 1, 1, 1]) 57 (fun _ => by kernel_rfl) ?_; intro b6 w6 hb6 he6 hk6; replace he6 := Nat.le_of_eq he6.symm; replace hb6 := Lib.hid hb6; replace hk6 := Lib.hid hk6) | (with_reducible refine wpList_build (o := ⟨some 8, _, _, _, _, _⟩) rfl 121 7 _ rfl #[.slice (some ⟨b0, 0, none⟩) 7 7, .slice (some ⟨b1, 0, none⟩) 7 7, .slice (some ⟨b2, 0, none⟩) 7 7, .slice (some ⟨b3, 0, none⟩) 7 7, .slice (some ⟨b4, 0, none⟩) 7 7, .slice (some ⟨b5, 0, none⟩) 7 7, .slice (some ⟨b6, 0, none⟩) 7 7] 124 (fun _ => by kernel_rfl) ?_; intro tb wt hbt het hkt; replace het := Nat.le_of_eq het.symm; replace hbt := Lib.hid hbt; replace hkt := Lib.hid hkt))
  go_ret
  have s6 := hkt.out
  have s5 := hk6.out.trans s6
  have s4 := hk5.out.trans s5
  have s3 := hk4.out.trans s4
  have s2 := hk3.out.trans s3
  have s1 := hk2.out.trans s2
  have s0 := hk1.out.trans s1
  have sw := hk0.out.trans s0
  have p0 := hk0.out.size
  have p1 := Nat.le_trans p0 hk1.out.size
  have p2 := Nat.le_trans p1 hk2.out.size
  have p3 := Nat.le_trans p2 hk3.out.size
  have p4 := Nat.le_trans p3 hk4.out.size
  have p5 := Nat.le_trans p4 hk5.out.size
  have p6 := Nat.le_trans p5 hk6.out.size
  refine ⟨⟨tb, rfl, by omega, hbt.out.lt, mem_ask _ ?_⟩, sw⟩
  refine ⟨⟨b0, by omega, by rw [hbt.out.cell]; rfl, (hb0.out.toInts).frm s0 (fun h => h)⟩, ⟨b1, by omega, by rw [hbt.out.cell]; rfl, (hb1.out.toInts).frm s1 (fun h => h)⟩, ⟨b2, by omega, by rw [hbt.out.cell]; rfl, (hb2.out.toInts).frm s2 (fun h => h)⟩, ⟨b3, by omega, by rw [hbt.out.cell]; rfl, (hb3.out.toInts).frm s3 (fun h => h)⟩, ⟨b4, by omega, by rw [hbt.out.cell]; rfl, (hb4.out.toInts).frm s4 (fun h => h)⟩, ⟨b5, by omega, by rw [hbt.out.cell]; rfl, (hb5.out.toInts).frm s5 (fun h => h)⟩, ⟨b6, by omega, by rw [hbt.out.cell]; rfl, (hb6.out.toInts).frm s6 (fun h => h)⟩, trivial⟩

def papRows : List (List Int) := [[1, 1, 1, 1, 1], [1, 0, 0, 0, 1], [1, 0, 1, 0, 1], [1, 0, 0, 0, 1], [1, 1, 1, 1, 1]]
set_option maxRecDepth 100000 in
set_option maxHeartbeats 4000000 in
theorem pap_any (w : World) : Calls Tryz.prog 211 #[] w fun e w' => (∃ tb, e = .returned (.slice (some ⟨tb, 0, none⟩) 5 5) ∧ w.heap.size ≤ tb ∧ tb < w'.heap.size ∧ IsTab w' w.heap.size tb .i8 57 [0, 1, 2, 3, 4] papRows) ∧ Kept w w' := by
  go_enter Tryz.func211, Tryz.ntmps211
  go_wp2_with (first | (with_reducible refine wpList_build (o := ⟨some 1, _, _, _, _, _⟩) rfl 124 5 _ rfl (intCells .i8 [1, 1, 1, 1, 1]) 57 (fun _ => by kernel_rfl) ?_; intro b0 w0 hb0 he0 hk0; replace he0 := Nat.le_of_eq he0.symm; replace hb0 := Lib.hid hb0; replace hk0 := Lib.hid hk0) | (with_reducible refine wpList_build (o := ⟨some 2, _, _, _, _, _⟩) rfl 124 5 _ rfl (intCells .i8 [1, 0, 0, 0, 1]) 57 (fun _ => by kernel_rfl) ?_; intro b1 w1 hb1 he1 hk1; replace he1 := Nat.le_of_eq he1.symm; replace hb1 := Lib.hid hb1; replace hk1 := Lib.hid hk1) | (with_reducible refine wpList_build (o := ⟨some 3, _, _, _, _, _⟩) rfl 124 5 _ rfl (intCells .i8 [1, 0, 1, 0, 1]) 57 (fun _ => by kernel_rfl) ?_; intro b2 w2 hb2 he2 hk2; replace he2 := Nat.le_of_eq he2.symm; replace hb2 := Lib.hid hb2; replace hk2 := Lib.hid hk2) | (with_reducible refine wpList_build (o := ⟨some 4, _, _, _, _, _⟩) rfl 124 5 _ rfl (intCells .i8 [1, 0, 0, 0, 1]) 57 (fun _ => by kernel_rfl) ?_; intro b3 w3 hb3 he3 hk3; replace he3 := Nat.le_of_eq he3.symm; replace hb3 := Lib.hid hb3; replace hk3 := Lib.hid hk3) | (with_reducible refine wpList_build (o := ⟨some 5, _, _, _, _, _⟩) rfl 124 5 _ rfl (intCells .i8 [1, 1, 1, 1, 1]) 57 (fun _ => by kernel_rfl) ?_; intro b4 w4 hb4 he4 hk4; replace he4 := Nat.le_of_eq he4.symm; replace hb4 := Lib.hid hb4; replace hk4 := Lib.hid hk4) | (with_reducible refine wpList_build (o := ⟨some 6, _, _, _, _, _⟩) rfl 121 5 _ rfl #[.slice (some ⟨b0, 0, none⟩) 5 5, .slice (some ⟨b1, 0, none⟩) 5 5, .slice (some ⟨b2, 0, none⟩) 5 5, .slice (some ⟨b3, 0, none⟩) 5 5, .slice (some ⟨b4, 0, none⟩) 5 5] 124 (fun _ => by kernel_rfl) ?_; intro tb wt hbt het hkt; replace het := Nat.le_of_eq het.symm; replace hbt := Lib.hid hbt; replace hkt := Lib.hid hkt))
  go_ret
  have s4 := hkt.out
  have s3 := hk4.out.trans s4
  have s2 := hk3.out.trans s3
  have s1 := hk2.out.trans s2
  have s0 := hk1.out.trans s1
  have sw := hk0.out.trans s0
  have p0 := hk0.out.size
  have p1 := Nat.le_trans p0 hk1.out.size
  have p2 := Nat.le_trans p1 hk2.out.size
  have p3 := Nat.le_trans p2 hk3.out.size
  have p4 := Nat.le_trans p3 hk4.out.size
  refine ⟨⟨tb, rfl, by omega, hbt.out.lt, mem_ask _ ?_⟩, sw⟩
  refine ⟨⟨b0, by omega, by rw [hbt.out.cell]; rfl, (hb0.out.toInts).frm s0 (fun h => h)⟩, ⟨b1, by omega, by rw [hbt.out.cell]; rfl, (hb1.out.toInts).frm s1 (fun h => h)⟩, ⟨b2, by omega, by rw [hbt.out.cell]; rfl, (hb2.out.toInts).frm s2 (fun h => h)⟩, ⟨b3, by omega, by rw [hbt.out.cell]; rfl, (hb3.out.toInts).frm s3 (fun h => h)⟩, ⟨b4, by omega, by rw [hbt.out.cell]; rfl, (hb4.out.toInts).frm s4 (fun h => h)⟩, trivial⟩

def ticRows : List (List Int) := [[8, 0], [8, 1], [8, 2], [8, 3], [8, 4], [8, 5], [8, 7], [8, 8], [7, 8], [5, 8], [4, 8], [3, 8], [2, 8], [1, 8], [0, 8]]
set_option maxRecDepth 100000 in
set_option maxHeartbeats 4000000 in
theorem tic_any (w : World) : Calls Tryz.prog 140 #[] w fun e w' => (∃ tb, e = .returned (.slice (some ⟨tb, 0, none⟩) 15 15) ∧ w.heap.size ≤ tb ∧ tb < w'.heap.size ∧ IsTab w' w.heap.size tb .i64 3 [0, 1, 2, 3, 4, 5, 6, 7, 8, 9, 10, 11, 12, 13, 14] ticRows) ∧ Kept w w' := by
  go_enter Tryz.func140, Tryz.ntmps140
  go_wp2_with (first | (with_reducible refine wpList_build (o := ⟨some 1, _, _, _, _, _⟩) rfl 117 2 _ rfl (intCells .i64 [8, 0]) 3 (fun _ => by kernel_rfl) ?_; intro b0 w0 hb0 he0 hk0; replace he0 := Nat.le_of_eq he0.symm; replace hb0 := Lib.hid hb0; replace hk0 := Lib.hid hk0) | (with_reducible refine wpList_build (o := ⟨some 2, _, _, _, _, _⟩) rfl 117 2 _ rfl (intCells .i64 [8, 1]) 3 (fun _ => by kernel_rfl) ?_; intro b1 w1 hb1 he1 hk1; replace he1 := Nat.le_of_eq he1.symm; replace hb1 := Lib.hid hb1; replace hk1 := Lib.hid hk1) | (with_reducible refine wpList_build (o := ⟨some 3, _, _, _, _, _⟩) rfl 117 2 _ rfl (intCells .i64 [8, 2]) 3 (fun _ => by kernel_rfl) ?_; intro b2 w2 hb2 he2 hk2; replace he2 := Nat.le_of_eq he2.symm; replace hb2 := Lib.hid hb2; replace hk2 := Lib.hid hk2) | (with_reducible refine wpList_build (o := ⟨some 4, _, _, _, _, _⟩) rfl 117 2 _ rfl (intCells .i64 [8, 3]) 3 (fun _ => by kernel_rfl) ?_; intro b3 w3 hb3 he3 hk3; replace he3 := Nat.le_of_eq he3.symm; replace hb3 := Lib.hid hb3; replace hk3 := Lib.hid hk3) | (with_reducible refine wpList_build (o := ⟨some 5, _, _, _, _, _⟩) rfl 117 2 _ rfl (intCells .i64 [8, 4]) 3 (fun _ => by kernel_rfl) ?_; intro b4 w4 hb4 he4 hk4; replace he4 := Nat.le_of_eq he4.symm; replace hb4 := Lib.hid hb4; replace hk4 := Lib.hid hk4) | (with_reducible refine wpList_build (o := ⟨some 6, _, _, _, _, _⟩) rfl 117 2 _ rfl (intCells .i64 [8, 5]) 3 (fun _ => by kernel_rfl) ?_; intro b5 w5 hb5 he5 hk5; replace he5 := Nat.le_of_eq he5.symm; replace hb5 := Lib.hid hb5; replace hk5 := Lib.hid hk5) | (with_reducible refine wpList_build (o := ⟨some 7, _, _, _, _, _⟩) rfl 117 2 _ rfl (intCells .i64 [8, 7]) 3 (fun _ => by kernel_rfl) ?_; intro b6 w6 hb6 he6 hk6; replace he6 := Nat.le_of_eq he6.symm; replace hb6 := Lib.hid hb6; replace hk6 := Lib.hid hk6) | (with_reducible refine wpList_build (o := ⟨some 8, _, _, _, _, _⟩) rfl 117 2 _ rfl (intCells .i64 [8, 8]) 3 (fun _ => by kernel_rfl) ?_; intro b7 w7 hb7 he7 hk7; replace he7 := Nat.le_of_eq he7.symm; replace hb7 := Lib.hid hb7; replace hk7 := Lib.hid hk7) | (with_reducible refine wpList_build (o := ⟨some 9, _, _, _, _, _⟩) rfl 117 2 _ rfl (intCells .i64 [7, 8]) 3 (fun _ => by kernel_rfl) ?_; intro b8 w8 hb8 he8 hk8; replace he8 := Nat.le_of_eq he8.symm; replace hb8 := Lib.hid hb8; replace hk8 := Lib.hid hk8) | (with_reducible refine wpList_build (o := ⟨some 10, _, _, _, _, _⟩) rfl 117 2 _ rfl (intCells .i64 [5, 8]) 3 (fun _ => by kernel_rfl) ?_; intro b9 w9 hb9 he9 hk9; replace he9 := Nat.le_of_eq he9.symm; replace hb9 := Lib.hid hb9; replace hk9 := Lib.hid hk9) | (with_reducible refine wpList_build (o := ⟨some 11, _, _, _, _, _⟩) rfl 117 2 _ rfl (intCells .i64 [4, 8]) 3 (fun _ => by kernel_rfl) ?_; intro b10 w10 hb10 he10 hk10; replace he10 := Nat.le_of_eq he10.symm; replace hb10 := Lib.hid hb10; replace hk10 := Lib.hid hk10) | (with_reducible refine wpList_build (o := ⟨some 12, _, _, _, _, _⟩) rfl 117 2 _ rfl (intCells .i64 [3, 8]) 3 (fun _ => by kernel_rfl) ?_; intro b11 w11 hb11 he11 hk11; replace he11 := Nat.le_of_eq he11.symm; replace hb11 := Lib.hid hb11; replace hk11 := Lib.hid hk11) | (with_reducible refine wpList_build (o := ⟨some 13, _, _, _, _, _⟩) rfl 117 2 _ rfl (intCells .i64 [2, 8]) 3 (fun _ => by kernel_rfl) ?_; intro b12 w12 hb12 he12 hk12; replace he12 := Nat.le_of_eq he12.symm; replace hb12 := Lib.hid hb12; replace hk12 := Lib.hid hk12) | (with_reducible refine wpList_build (o := ⟨some 14, _, _, _, _, _⟩) rfl 117 2 _ rfl (intCells .i64 [1, 8]) 3 (fun _ => by kernel_rfl) ?_; intro b13 w13 hb13 he13 hk13; replace he13 := Nat.le_of_eq he13.symm; replace hb13 := Lib.hid hb13; replace hk13 := Lib.hid hk13) | (with_reducible refine wpList_build (o := ⟨some 15, _, _, _, _, _⟩) rfl 117 2 _ rfl (intCells .i64 [0, 8]) 3 (fun _ => by kernel_rfl) ?_; intro b14 w14 hb14 he14 hk14; replace he14 := Nat.le_of_eq he14.symm; replace hb14 := Lib.hid hb14; replace hk14 := Lib.hid hk14) | (with_reducible refine wpList_build (o := ⟨some 16, _, _, _, _, _⟩) rfl 220 15 _ rfl #[.slice (some ⟨b0, 0, none⟩) 2 2, .slice (some ⟨b1, 0, none⟩) 2 2, .slice (some ⟨b2, 0, none⟩) 2 2, .slice (some ⟨b3, 0, none⟩) 2 2, .slice (some ⟨b4, 0, none⟩) 2 2, .slice (some ⟨b5, 0, none⟩) 2 2, .slice (some ⟨b6, 0, none⟩) 2 2, .slice (some ⟨b7, 0, none⟩) 2 2, .slice (some ⟨b8, 0, none⟩) 2 2, .slice (some ⟨b9, 0, none⟩) 2 2, .slice (some ⟨b10, 0, none⟩) 2 2, .slice (some ⟨b11, 0, none⟩) 2 2, .slice (some ⟨b12, 0, none⟩) 2 2, .slice (some ⟨b13, 0, none⟩) 2 2, .slice (some ⟨b14, 0, none⟩) 2 2] 117 (fun _ => by kernel_rfl) ?_; intro tb wt hbt het hkt; replace het := Nat.le_of_eq het.symm; replace hbt := Lib.hid hbt; replace hkt := Lib.hid hkt))
  go_ret
  have s14 := hkt.out
  have s13 := hk14.out.trans s14
  have s12 := hk13.out.trans s13
  have s11 := hk12.out.trans s12
  have s10 := hk11.out.trans s11
  have s9 := hk10.out.trans s10
  have s8 := hk9.out.trans s9
  have s7 := hk8.out.trans s8
  have s6 := hk7.out.trans s7
  have s5 := hk6.out.trans s6
  have s4 := hk5.out.trans s5
  have s3 := hk4.out.trans s4
  have s2 := hk3.out.trans s3
  have s1 := hk2.out.trans s2
  have s0 := hk1.out.trans s1
  have sw := hk0.out.trans s0
  have p0 := hk0.out.size
  have p1 := Nat.le_trans p0 hk1.out.size
  have p2 := Nat.le_trans p1 hk2.out.size
  have p3 := Nat.le_trans p2 hk3.out.size
  have p4 := Nat.le_trans p3 hk4.out.size
  have p5 := Nat.le_trans p4 hk5.out.size
  have p6 := Nat.le_trans p5 hk6.out.size
  have p7 := Nat.le_trans p6 hk7.out.size
  have p8 := Nat.le_trans p7 hk8.out.size
  have p9 := Nat.le_trans p8 hk9.out.size
  have p10 := Nat.le_trans p9 hk10.out.size
  have p11 := Nat.le_trans p10 hk11.out.size
  have p12 := Nat.le_trans p11 hk12.out.size
  have p13 := Nat.le_trans p12 hk13.out.size
  have p14 := Nat.le_trans p13 hk14.out.size
  refine ⟨⟨tb, rfl, by omega, hbt.out.lt, mem_ask _ ?_⟩, sw⟩
  refine ⟨⟨b0, by omega, by rw [hbt.out.cell]; rfl, (hb0.out.toInts).frm s0 (fun h => h)⟩, ⟨b1, by omega, by rw [hbt.out.cell]; rfl, (hb1.out.toInts).frm s1 (fun h => h)⟩, ⟨b2, by omega, by rw [hbt.out.cell]; rfl, (hb2.out.toInts).frm s2 (fun h => h)⟩, ⟨b3, by omega, by rw [hbt.out.cell]; rfl, (hb3.out.toInts).frm s3 (fun h => h)⟩, ⟨b4, by omega, by rw [hbt.out.cell]; rfl, (hb4.out.toInts).frm s4 (fun h => h)⟩, ⟨b5, by omega, by rw [hbt.out.cell]; rfl, (hb5.out.toInts).frm s5 (fun h => h)⟩, ⟨b6, by omega, by rw [hbt.out.cell]; rfl, (hb6.out.toInts).frm s6 (fun h => h)⟩, ⟨b7, by omega, by rw [hbt.out.cell]; rfl, (hb7.out.toInts).frm s7 (fun h => h)⟩, ⟨b8, by omega, by rw [hbt.out.cell]; rfl, (hb8.out.toInts).frm s8 (fun h => h)⟩, ⟨b9, by omega, by rw [hbt.out.cell]; rfl, (hb9.out.toInts).frm s9 (fun h => h)⟩, ⟨b10, by omega, by rw [hbt.out.cell]; rfl, (hb10.out.toInts).frm s10 (fun h => h)⟩, ⟨b11, by omega, by rw [hbt.out.cell]; rfl, (hb11.out.toInts).frm s11 (fun h => h)⟩, ⟨b12, by omega, by rw [hbt.out.cell]; rfl, (hb12.out.toInts).frm s12 (fun h => h)⟩, ⟨b13, by omega, by rw [hbt.out.cell]; rfl, (hb13.out.toInts).frm s13 (fun h => h)⟩, ⟨b14, by omega, by rw [hbt.out.cell]; rfl, (hb14.out.toInts).frm s14 (fun h => h)⟩, trivial⟩

def pacRows : List (List Int) := [[-1, -1, -1, -1, -1, -1, -1], [6, 18, -1, -1, -1, -1, -1], [6, 22, -1, -1, -1, -1, -1], [6, 26, -1, -1, -1, -1, -1], [6, 30, -1, -1, -1, -1, -1], [6, 34, -1, -1, -1, -1, -1], [6, 22, 38, -1, -1, -1, -1], [6, 24, 42, -1, -1, -1, -1], [6, 26, 46, -1, -1, -1, -1], [6, 28, 50, -1, -1, -1, -1], [6, 30, 54, -1, -1, -1, -1], [6, 32, 58, -1, -1, -1, -1], [6, 34, 62, -1, -1, -1, -1], [6, 26, 46, 66, -1, -1, -1], [6, 26, 48, 70, -1, -1, -1], [6, 26, 50, 74, -1, -1, -1], [6, 30, 54, 78, -1, -1, -1], [6, 30, 56, 82, -1, -1, -1], [6, 30, 58, 86, -1, -1, -1], [6, 34, 62, 90, -1, -1, -1], [6, 28, 50, 72, 94, -1, -1], [6, 26, 50, 74, 98, -1, -1], [6, 30, 54, 78, 102, -1, -1], [6, 28, 54, 80, 106, -1, -1], [6, 32, 58, 84, 110, -1, -1], [6, 30, 58, 86, 114, -1, -1], [6, 34, 62, 90, 118, -1, -1], [6, 26, 50, 74, 98, 122, -1], [6, 30, 54, 78, 102, 126, -1], [6, 26, 52, 78, 104, 130, -1], [6, 30, 56, 82, 108, 134, -1], [6, 34, 60, 86, 112, 138, -1], [6, 30, 58, 86, 114, 142, -1], [6, 34, 62, 90, 118, 146, -1], [6, 30, 54, 78, 102, 126, 150], [6, 24, 50, 76, 102, 128, 154], [6, 28, 54, 80, 106, 132, 158], [6, 32, 58, 84, 110, 136, 162], [6, 26, 54, 82, 110, 138, 166], [6, 30, 58, 86, 114, 142, 170]]
set_option maxRecDepth 100000 in
set_option maxHeartbeats 4000000 in
theorem pac_any (w : World) : Calls Tryz.prog 178 #[] w fun e w' => (∃ tb, e = .returned (.slice (some ⟨tb, 0, none⟩) 40 40) ∧ w.heap.size ≤ tb ∧ tb < w'.heap.size ∧ IsTab w' w.heap.size tb .i64 3 [1, 2, 3, 4, 5, 6] pacRows) ∧ Kept w w' := by
  go_enter Tryz.func178, Tryz.ntmps178
  go_wp2_with (first | (with_reducible refine wpList_build (o := ⟨some 1, _, _, _, _, _⟩) rfl 117 7 _ rfl (intCells .i64 [-1, -1, -1, -1, -1, -1, -1]) 3 (fun _ => by kernel_rfl) ?_; intro b0 w0 hb0 he0 hk0; replace he0 := Nat.le_of_eq he0.symm; replace hb0 := Lib.hid hb0; replace hk0 := Lib.hid hk0) | (with_reducible refine wpList_build (o := ⟨some 2, _, _, _, _, _⟩) rfl 117 7 _ rfl (intCells .i64 [6, 18, -1, -1, -1, -1, -1]) 3 (fun _ => by kernel_rfl) ?_; intro b1 w1 hb1 he1 hk1; replace he1 := Nat.le_of_eq he1.symm; replace hb1 := Lib.hid hb1; replace hk1 := Lib.hid hk1) | (with_reducible refine wpList_build (o := ⟨some 3, _, _, _, _, _⟩) rfl 117 7 _ rfl (intCells .i64 [6, 22, -1, -1, -1, -1, -1]) 3 (fun _ => by kernel_rfl) ?_; intro b2 w2 hb2 he2 hk2; replace he2 := Nat.le_of_eq he2.symm; replace hb2 := Lib.hid hb2; replace hk2 := Lib.hid hk2) | (with_reducible refine wpList_build (o := ⟨some 4, _, _, _, _, _⟩) rfl 117 7 _ rfl (intCells .i64 [6, 26, -1, -1, -1, -1, -1]) 3 (fun _ => by kernel_rfl) ?_; intro b3 w3 hb3 he3 hk3; replace he3 := Nat.le_of_eq he3.symm; replace hb3 := Lib.hid hb3; replace hk3 := Lib.hid hk3) | (with_reducible refine wpList_build (o := ⟨some 5, _, _, _, _, _⟩) rfl 117 7 _ rfl (intCells .i64 [6, 30, -1, -1, -1, -1, -1]) 3 (fun _ => by kernel_rfl) ?_; intro b4 w4 hb4 he4 hk4; replace he4 := Nat.le_of_eq he4.symm; replace hb4 := Lib.hid hb4; replace hk4 := Lib.hid hk4) | (with_reducible refine wpList_build (o := ⟨some 6, _, _, _, _, _⟩) rfl 117 7 _ rfl (intCells .i64 [6, 34, -1, -1, -1, -1, -1]) 3 (fun _ => by kernel_rfl) ?_; intro b5 w5 hb5 he5 hk5; replace he5 := Nat.le_of_eq he5.symm; replace hb5 := Lib.hid hb5; replace hk5 := Lib.hid hk5) | (with_reducible refine wpList_build (o := ⟨some 7, _, _, _, _, _⟩) rfl 117 7 _ rfl (intCells .i64 [6, 22, 38, -1, -1, -1, -1]) 3 (fun _ => by kernel_rfl) ?_; intro b6 w6 hb6 he6 hk6; replace he6 := Nat.le_of_eq he6.symm; replace hb6 := Lib.hid hb6; replace hk6 := Lib.hid hk6) | (with_reducible refine wpList_build (o := ⟨some 8, _, _, _, _, _⟩) rfl 117 7 _ rfl (intCells .i64 [6, 24, 42, -1, -1, -1, -1]) 3 (fun _ => by kernel_rfl) ?_; intro b7 w7 hb7 he7 hk7; replace he7 := Nat.le_of_eq he7.symm; replace hb7 := Lib.hid hb7; replace hk7 := Lib.hid hk7) | (with_reducible refine wpList_build (o := ⟨some 9, _, _, _, _, _⟩) rfl 117 7 _ rfl (intCells .i64 [6, 26, 46, -1, -1, -1, -1]) 3 (fun _ => by kernel_rfl) ?_; intro b8 w8 hb8 he8 hk8; replace he8 := Nat.le_of_eq he8.symm; replace hb8 := Lib.hid hb8; replace hk8 := Lib.hid hk8) | (with_reducible refine wpList_build (o := ⟨some 10, _, _, _, _, _⟩) rfl 117 7 _ rfl (intCells .i64 [6, 28, 50, -1, -1, -1, -1]) 3 (fun _ => by kernel_rfl) ?_; intro b9 w9 hb9 he9 hk9; replace he9 := Nat.le_of_eq he9.symm; replace hb9 := Lib.hid hb9; replace hk9 := Lib.hid hk9) | (with_reducible refine wpList_build (o := ⟨some 11, _, _, _, _, _⟩) rfl 117 7 _ rfl (intCells .i64 [6, 30, 54, -1, -1, -1, -1]) 3 (fun _ => by kernel_rfl) ?_; intro b10 w10 hb10 he10 hk10; replace he10 := Nat.le_of_eq he10.symm; replace hb10 := Lib.hid hb10; replace hk10 := Lib.hid hk10) | (with_reducible refine wpList_build (o := ⟨some 12, _, _, _, _, _⟩) rfl 117 7 _ rfl (intCells .i64 [6, 32, 58, -1, -1, -1, -1]) 3 (fun _ => by kernel_rfl) ?_; intro b11 w11 hb11 he11 hk11; replace he11 := Nat.le_of_eq he11.symm; replace hb11 := Lib.hid hb11; replace hk11 := Lib.hid hk11) | (with_reducible refine wpList_build (o := ⟨some 13, _, _, _, _, _⟩) rfl 117 7 _ rfl (intCells .i64 [6, 34, 62, -1, -1, -1, -1]) 3 (fun _ => by kernel_rfl) ?_; intro b12 w12 hb12 he12 hk12; replace he12 := Nat.le_of_eq he12.symm; replace hb12 := Lib.hid hb12; replace hk12 := Lib.hid hk12) | (with_reducible refine wpList_build (o := ⟨some 14, _, _, _, _, _⟩) rfl 117 7 _ rfl (intCells .i64 [6, 26, 46, 66, -1, -1, -1]) 3 (fun _ => by kernel_rfl) ?_; intro b13 w13 hb13 he13 hk13; replace he13 := Nat.le_of_eq he13.symm; replace hb13 := Lib.hid hb13; replace hk13 := Lib.hid hk13) | (with_reducible refine wpList_build (o := ⟨some 15, _, _, _, _, _⟩) rfl 117 7 _ rfl (intCells .i64 [6, 26, 48, 70, -1, -1, -1]) 3 (fun _ => by kernel_rfl) ?_; intro b14 w14 hb14 he14 hk14; replace he14 := Nat.le_of_eq he14.symm; replace hb14 := Lib.hid hb14; replace hk14 := Lib.hid hk14) | (with_reducible refine wpList_build (o := ⟨some 16, _, _, _, _, _⟩) rfl 117 7 _ rfl (intCells .i64 [6, 26, 50, 74, -1, -1, -1]) 3 (fun _ => by kernel_rfl) ?_; intro b15 w15 hb15 he15 hk15; replace he15 := Nat.le_of_eq he15.symm; replace hb15 := Lib.hid hb15; replace hk15 := Lib.hid hk15) | (with_reducible refine wpList_build (o := ⟨some 17, _, _, _, _, _⟩) rfl 117 7 _ rfl (intCells .i64 [6, 30, 54, 78, -1, -1, -1]) 3 (fun _ => by kernel_rfl) ?_; intro b16 w16 hb16 he16 hk16; replace he16 := Nat.le_of_eq he16.symm; replace hb16 := Lib.hid hb16; replace hk16 := Lib.hid hk16) | (with_reducible refine wpList_build (o := ⟨some 18, _, _, _, _, _⟩) rfl 117 7 _ rfl (intCells .i64 [6, 30, 56, 82, -1, -1, -1]) 3 (fun _ => by kernel_rfl) ?_; intro b17 w17 hb17 he17 hk17; replace he17 := Nat.le_of_eq he17.symm; replace hb17 := Lib.hid hb17; replace hk17 := Lib.hid hk17) | (with_reducible refine wpList_build (o := ⟨some 19, _, _, _, _, _⟩) rfl 117 7 _ rfl (intCells .i64 [6, 30, 58, 86, -1, -1, -1]) 3 (fun _ => by kernel_rfl) ?_; intro b18 w18 hb18 he18 hk18; replace he18 := Nat.le_of_eq he18.symm; replace hb18 := Lib.hid hb18; replace hk18 := Lib.hid hk18) | (with_reducible refine wpList_build (o := ⟨some 20, _, _, _, _, _⟩) rfl 117 7 _ rfl (intCells .i64 [6, 34, 62, 90, -1, -1, -1]) 3 (fun _ => by kernel_rfl) ?_; intro b19 w19 hb19 he19 hk19; replace he19 := Nat.le_of_eq he19.symm; replace hb19 := Lib.hid hb19; replace hk19 := Lib.hid hk19) | (with_reducible refine wpList_build (o := ⟨some 21, _, _, _, _, _⟩) rfl 117 7 _ rfl (intCells .i64 [6, 28, 50, 72, 94, -1, -1]) 3 (fun _ => by kernel_rfl) ?_; intro b20 w20 hb20 he20 hk20; replace he20 := Nat.le_of_eq he20.symm; replace hb20 := Lib.hid hb20; replace hk20 := Lib.hid hk20) | (with_reducible refine wpList_build (o := ⟨some 22, _, _, _, _, _⟩) rfl 117 7 _ rfl (intCells .i64 [6, 26, 50, 74, 98, -1, -1]) 3 (fun _ => by kernel_rfl) ?_; intro b21 w21 hb21 he21 hk21; replace he21 := Nat.le_of_eq he21.symm; replace hb21 := Lib.hid hb21; replace hk21 := Lib.hid hk21) | (with_reducible refine wpList_build (o := ⟨some 23, _, _, _, _, _⟩) rfl 117 7 _ rfl (intCells .i64 [6, 30, 54, 78, 102, -1, -1]) 3 (fun _ => by kernel_rfl) ?_; intro b22 w22 hb22 he22 hk22; replace he22 := Nat.le_of_eq he22.symm; replace hb22 := Lib.hid hb22; replace hk22 := Lib.hid hk22) | (with_reducible refine wpList_build (o := ⟨some 24, _, _, _, _, _⟩) rfl 117 7 _ rfl (intCells .i64 [6, 28, 54, 80, 106, -1, -1]) 3 (fun _ => by kernel_rfl) ?_; intro b23 w23 hb23 he23 hk23; replace he23 := Nat.le_of_eq he23.symm; replace hb23 := Lib.hid hb23; replace hk23 := Lib.hid hk23) | (with_reducible refine wpList_build (o := ⟨some 25, _, _, _, _, _⟩) rfl 117 7 _ rfl (intCells .i64 [6, 32, 58, 84, 110, -1, -1]) 3 (fun _ => by kernel_rfl) ?_; intro b24 w24 hb24 he24 hk24; replace he24 := Nat.le_of_eq he24.symm; replace hb24 := Lib.hid hb24; replace hk24 := Lib.hid hk24) | (with_reducible refine wpList_build (o := ⟨some 26, _, _, _, _, _⟩) rfl 117 7 _ rfl (intCells .i64 [6, 30, 58, 86, 114, -1, -1]) 3 (fun _ => by kernel_rfl) ?_; intro b25 w25 hb25 he25 hk25; replace he25 := Nat.le_of_eq he25.symm; replace hb25 := Lib.hid hb25; replace hk25 := Lib.hid hk25) | (with_reducible refine wpList_build (o := ⟨some 27, _, _, _, _, _⟩) rfl 117 7 _ rfl (intCells .i64 [6, 34, 62, 90, 118, -1, -1]) 3 (fun _ => by kernel_rfl) ?_; intro b26 w26 hb26 he26 hk26; replace he26 := Nat.le_of_eq he26.symm; replace hb26 := Lib.hid hb26; replace hk26 := Lib.hid hk26) | (with_reducible refine wpList_build (o := ⟨some 28, _, _, _, _, _⟩) rfl 117 7 _ rfl (intCells .i64 [6, 26, 50, 74, 98, 122, -1]) 3 (fun _ => by kernel_rfl) ?_; intro b27 w27 hb27 he27 hk27; replace he27 := Nat.le_of_eq he27.symm; replace hb27 := Lib.hid hb27; replace hk27 := Lib.hid hk27) | (with_reducible refine wpList_build (o := ⟨some 29, _, _, _, _, _⟩) rfl 117 7 _ rfl (intCells .i64 [6, 30, 54, 78, 102, 126, -1]) 3 (fun _ => by kernel_rfl) ?_; intro b28 w28 hb28 he28 hk28; replace he28 := Nat.le_of_eq he28.symm; replace hb28 := Lib.hid hb28; replace hk28 := Lib.hid hk28) | (with_reducible refine wpList_build (o := ⟨some 30, _, _, _, _, _⟩) rfl 117 7 _ rfl (intCells .i64 [6, 26, 52, 78, 104, 130, -1]) 3 (fun _ => by kernel_rfl) ?_; intro b29 w29 hb29 he29 hk29; replace he29 := Nat.le_of_eq he29.symm; replace hb29 := Lib.hid hb29; replace hk29 := Lib.hid hk29) | (with_reducible refine wpList_build (o := ⟨some 31, _, _, _, _, _⟩) rfl 117 7 _ rfl (intCells .i64 [6, 30, 56, 82, 108, 134, -1]) 3 (fun _ => by kernel_rfl) ?_; intro b30 w30 hb30 he30 hk30; replace he30 := Nat.le_of_eq he30.symm; replace hb30 := Lib.hid hb30; replace hk30 := Lib.hid hk30) | (with_reducible refine wpList_build (o := ⟨some 32, _, _, _, _, _⟩) rfl 117 7 _ rfl (intCells .i64 [6, 34, 60, 86, 112, 138, -1]) 3 (fun _ => by kernel_rfl) ?_; intro b31 w31 hb31 he31 hk31; replace he31 := Nat.le_of_eq he31.symm; replace hb31 := Lib.hid hb31; replace hk31 := Lib.hid hk31) | (with_reducible refine wpList_build (o := ⟨some 33, _, _, _, _, _⟩) rfl 117 7 _ rfl (intCells .i64 [6, 30, 58, 86, 114, 142, -1]) 3 (fun _ => by kernel_rfl) ?_; intro b32 w32 hb32 he32 hk32; replace he32 := Nat.le_of_eq he32.symm; replace hb32 := Lib.hid hb32; replace hk32 := Lib.hid hk32) | (with_reducible refine wpList_build (o := ⟨some 34, _, _, _, _, _⟩) rfl 117 7 _ rfl (intCells .i64 [6, 34, 62, 90, 118, 146, -1]) 3 (fun _ => by kernel_rfl) ?_; intro b33 w33 hb33 he33 hk33; replace he33 := Nat.le_of_eq he33.symm; replace hb33 := Lib.hid hb33; replace hk33 := Lib.hid hk33) | (with_reducible refine wpList_build (o := ⟨some 35, _, _, _, _, _⟩) rfl 117 7 _ rfl (intCells .i64 [6, 30, 54, 78, 102, 126, 150]) 3 (fun _ => by kernel_rfl) ?_; intro b34 w34 hb34 he34 hk34; replace he34 := Nat.le_of_eq he34.symm; replace hb34 := Lib.hid hb34; replace hk34 := Lib.hid hk34) | (with_reducible refine wpList_build (o := ⟨some 36, _, _, _, _, _⟩) rfl 117 7 _ rfl (intCells .i64 [6, 24, 50, 76, 102, 128, 154]) 3 (fun _ => by kernel_rfl) ?_; intro b35 w35 hb35 he35 hk35; replace he35 := Nat.le_of_eq he35.symm; replace hb35 := Lib.hid hb35; replace hk35 := Lib.hid hk35) | (with_reducible refine wpList_build (o := ⟨some 37, _, _, _, _, _⟩) rfl 117 7 _ rfl (intCells .i64 [6, 28, 54, 80, 106, 132, 158]) 3 (fun _ => by kernel_rfl) ?_; intro b36 w36 hb36 he36 hk36; replace he36 := Nat.le_of_eq he36.symm; replace hb36 := Lib.hid hb36; replace hk36 := Lib.hid hk36) | (with_reducible refine wpList_build (o := ⟨some 38, _, _, _, _, _⟩) rfl 117 7 _ rfl (intCells .i64 [6, 32, 58, 84, 110, 136, 162]) 3 (fun _ => by kernel_rfl) ?_; intro b37 w37 hb37 he37 hk37; replace he37 := Nat.le_of_eq he37.symm; replace hb37 := Lib.hid hb37; replace hk37 := Lib.hid hk37) | (with_reducible refine wpList_build (o := ⟨some 39, _, _, _, _, _⟩) rfl 117 7 _ rfl (intCells .i64 [6, 26, 54, 82, 110, 138, 166]) 3 (fun _ => by kernel_rfl) ?_; intro b38 w38 hb38 he38 hk38; replace he38 := Nat.le_of_eq he38.symm; replace hb38 := Lib.hid hb38; replace hk38 := Lib.hid hk38) | (with_reducible refine wpList_build (o := ⟨some 40, _, _, _, _, _⟩) rfl 117 7 _ rfl (intCells .i64 [6, 30, 58, 86, 114, 142, 170]) 3 (fun _ => by kernel_rfl) ?_; intro b39 w39 hb39 he39 hk39; replace he39 := Nat.le_of_eq he39.symm; replace hb39 := Lib.hid hb39; replace hk39 := Lib.hid hk39) | (with_reducible refine wpList_build (o := ⟨some 41, _, _, _, _, _⟩) rfl 220 40 _ rfl #[.slice (some ⟨b0, 0, none⟩) 7 7, .slice (some ⟨b1, 0, none⟩) 7 7, .slice (some ⟨b2, 0, none⟩) 7 7, .slice (some ⟨b3, 0, none⟩) 7 7, .slice (some ⟨b4, 0, none⟩) 7 7, .slice (some ⟨b5, 0, none⟩) 7 7, .slice (some ⟨b6, 0, none⟩) 7 7, .slice (some ⟨b7, 0, none⟩) 7 7, .slice (some ⟨b8, 0, none⟩) 7 7, .slice (some ⟨b9, 0, none⟩) 7 7, .slice (some ⟨b10, 0, none⟩) 7 7, .slice (some ⟨b11, 0, none⟩) 7 7, .slice (some ⟨b12, 0, none⟩) 7 7, .slice (some ⟨b13, 0, none⟩) 7 7, .slice (some ⟨b14, 0, none⟩) 7 7, .slice (some ⟨b15, 0, none⟩) 7 7, .slice (some ⟨b16, 0, none⟩) 7 7, .slice (some ⟨b17, 0, none⟩) 7 7, .slice (some ⟨b18, 0, none⟩) 7 7, .slice (some ⟨b19, 0, none⟩) 7 7, .slice (some ⟨b20, 0, none⟩) 7 7, .slice (some ⟨b21, 0, none⟩) 7 7, .slice (some ⟨b22, 0, none⟩) 7 7, .slice (some ⟨b23, 0, none⟩) 7 7, .slice (some ⟨b24, 0, none⟩) 7 7, .slice (some ⟨b25, 0, none⟩) 7 7, .slice (some ⟨b26, 0, none⟩) 7 7, .slice (some ⟨b27, 0, none⟩) 7 7, .slice (some ⟨b28, 0, none⟩) 7 7, .slice (some ⟨b29, 0, none⟩) 7 7, .slice (some ⟨b30, 0, none⟩) 7 7, .slice (some ⟨b31, 0, none⟩) 7 7, .slice (some ⟨b32, 0, none⟩) 7 7, .slice (some ⟨b33, 0, none⟩) 7 7, .slice (some ⟨b34, 0, none⟩) 7 7, .slice (some ⟨b35, 0, none⟩) 7 7, .slice (some ⟨b36, 0, none⟩) 7 7, .slice (some ⟨b37, 0, none⟩) 7 7, .slice (some ⟨b38, 0, none⟩) 7 7, .slice (some ⟨b39, 0, none⟩) 7 7] 117 (fun _ => by kernel_rfl) ?_; intro tb wt hbt het hkt; replace het := Nat.le_of_eq het.symm; replace hbt := Lib.hid hbt; replace hkt := Lib.hid hkt))
  go_ret
  have s39 := hkt.out
  have s38 := hk39.out.trans s39
  have s37 := hk38.out.trans s38
  have s36 := hk37.out.trans s37
  have s35 := hk36.out.trans s36
  have s34 := hk35.out.trans s35
  have s33 := hk34.out.trans s34
  have s32 := hk33.out.trans s33
  have s31 := hk32.out.trans s32
  have s30 := hk31.out.trans s31
  have s29 := hk30.out.trans s30
  have s28 := hk29.out.trans s29
  have s27 := hk28.out.trans s28
  have s26 := hk27.out.trans s27
  have s25 := hk26.out.trans s26
  have s24 := hk25.out.trans s25
  have s23 := hk24.out.trans s24
  have s22 := hk23.out.trans s23
  have s21 := hk22.out.trans s22
  have s20 := hk21.out.trans s21
  have s19 := hk20.out.trans s20
  have s18 := hk19.out.trans s19
  have s17 := hk18.out.trans s18
  have s16 := hk17.out.trans s17
  have s15 := hk16.out.trans s16
  have s14 := hk15.out.trans s15
  have s13 := hk14.out.trans s14
  have s12 := hk13.out.trans s13
  have s11 := hk12.out.trans s12
  have s10 := hk11.out.trans s11
  have s9 := hk10.out.trans s10
  have s8 := hk9.out.trans s9
  have s7 := hk8.out.trans s8
  have s6 := hk7.out.trans s7
  have s5 := hk6.out.trans s6
  have s4 := hk5.out.trans s5
  have s3 := hk4.out.trans s4
  have s2 := hk3.out.trans s3
  have s1 := hk2.out.trans s2
  have s0 := hk1.out.trans s1
  have sw := hk0.out.trans s0
  have p0 := hk0.out.size
  have p1 := Nat.le_trans p0 hk1.out.size
  have p2 := Nat.le_trans p1 hk2.out.size
  have p3 := Nat.le_trans p2 hk3.out.size
  have p4 := Nat.le_trans p3 hk4.out.size
  have p5 := Nat.le_trans p4 hk5.out.size
  have p6 := Nat.le_trans p5 hk6.out.size
  have p7 := Nat.le_trans p6 hk7.out.size
  have p8 := Nat.le_trans p7 hk8.out.size
  have p9 := Nat.le_trans p8 hk9.out.size
  have p10 := Nat.le_trans p9 hk10.out.size
  have p11 := Nat.le_trans p10 hk11.out.size
  have p12 := Nat.le_trans p11 hk12.out.size
  have p13 := Nat.le_trans p12 hk13.out.size
  have p14 := Nat.le_trans p13 hk14.out.size
  have p15 := Nat.le_trans p14 hk15.out.size
  have p16 := Nat.le_trans p15 hk16.out.size
  have p17 := Nat.le_trans p16 hk17.out.size
  have p18 := Nat.le_trans p17 hk18.out.size
  have p19 := Nat.le_trans p18 hk19.out.size
  have p20 := Nat.le_trans p19 hk20.out.size
  have p21 := Nat.le_trans p20 hk21.out.size
  have p22 := Nat.le_trans p21 hk22.out.size
  have p23 := Nat.le_trans p22 hk23.out.size
  have p24 := Nat.le_trans p23 hk24.out.size
  have p25 := Nat.le_trans p24 hk25.out.size
  have p26 := Nat.le_trans p25 hk26.out.size
  have p27 := Nat.le_trans p26 hk27.out.size
  have p28 := Nat.le_trans p27 hk28.out.size
  have p29 := Nat.le_trans p28 hk29.out.size
  have p30 := Nat.le_trans p29 hk30.out.size
  have p31 := Nat.le_trans p30 hk31.out.size
  have p32 := Nat.le_trans p31 hk32.out.size
  have p33 := Nat.le_trans p32 hk33.out.size
  have p34 := Nat.le_trans p33 hk34.out.size
  have p35 := Nat.le_trans p34 hk35.out.size
  have p36 := Nat.le_trans p35 hk36.out.size
  have p37 := Nat.le_trans p36 hk37.out.size
  have p38 := Nat.le_trans p37 hk38.out.size
  have p39 := Nat.le_trans p38 hk39.out.size
  refine ⟨⟨tb, rfl, by omega, hbt.out.lt, mem_ask _ ?_⟩, sw⟩
  refine ⟨⟨b1, by omega, by rw [hbt.out.cell]; rfl, (hb1.out.toInts).frm s1 (fun h => h)⟩, ⟨b2, by omega, by rw [hbt.out.cell]; rfl, (hb2.out.toInts).frm s2 (fun h => h)⟩, ⟨b3, by omega, by rw [hbt.out.cell]; rfl, (hb3.out.toInts).frm s3 (fun h => h)⟩, ⟨b4, by omega, by rw [hbt.out.cell]; rfl, (hb4.out.toInts).frm s4 (fun h => h)⟩, ⟨b5, by omega, by rw [hbt.out.cell]; rfl, (hb5.out.toInts).frm s5 (fun h => h)⟩, ⟨b6, by omega, by rw [hbt.out.cell]; rfl, (hb6.out.toInts).frm s6 (fun h => h)⟩, trivial⟩

def fidRows : List (List Int) := [[21522, 0], [20773, 1], [24188, 2], [23371, 3], [17913, 4], [16590, 5], [20375, 6], [19104, 7], [30660, 8], [29427, 9], [32170, 10], [30877, 11], [26159, 12], [25368, 13], [27713, 14], [26998, 15], [5769, 16], [5054, 17], [7399, 18], [6608, 19], [1890, 20], [597, 21], [3340, 22], [2107, 23], [13663, 24], [12392, 25], [16177, 26], [14854, 27], [9396, 28], [8579, 29], [11994, 30], [11245, 31]]
set_option maxRecDepth 100000 in
set_option maxHeartbeats 4000000 in
theorem fid_any (w : World) : Calls Tryz.prog 255 #[] w fun e w' => (∃ tb, e = .returned (.slice (some ⟨tb, 0, none⟩) 32 32) ∧ w.heap.size ≤ tb ∧ tb < w'.heap.size ∧ IsTab w' w.heap.size tb .u64 165 [0, 1, 2, 3, 4, 5, 6, 7, 8, 9, 10, 11, 12, 13, 14, 15, 16, 17, 18, 19, 20, 21, 22, 23, 24, 25, 26, 27, 28, 29, 30, 31] fidRows) ∧ Kept w w' := by
  go_enter Tryz.func255, Tryz.ntmps255
  go_wp2_with (first | (with_reducible refine wpList_build (o := ⟨some 1, _, _, _, _, _⟩) rfl 364 2 _ rfl (intCells .u64 [21522, 0]) 165 (fun _ => by kernel_rfl) ?_; intro b0 w0 hb0 he0 hk0; replace he0 := Nat.le_of_eq he0.symm; replace hb0 := Lib.hid hb0; replace hk0 := Lib.hid hk0) | (with_reducible refine wpList_build (o := ⟨some 2, _, _, _, _, _⟩) rfl 364 2 _ rfl (intCells .u64 [20773, 1]) 165 (fun _ => by kernel_rfl) ?_; intro b1 w1 hb1 he1 hk1; replace he1 := Nat.le_of_eq he1.symm; replace hb1 := Lib.hid hb1; replace hk1 := Lib.hid hk1) | (with_reducible refine wpList_build (o := ⟨some 3, _, _, _, _, _⟩) rfl 364 2 _ rfl (intCells .u64 [24188, 2]) 165 (fun _ => by kernel_rfl) ?_; intro b2 w2 hb2 he2 hk2; replace he2 := Nat.le_of_eq he2.symm; replace hb2 := Lib.hid hb2; replace hk2 := Lib.hid hk2) | (with_reducible refine wpList_build (o := ⟨some 4, _, _, _, _, _⟩) rfl 364 2 _ rfl (intCells .u64 [23371, 3]) 165 (fun _ => by kernel_rfl) ?_; intro b3 w3 hb3 he3 hk3; replace he3 := Nat.le_of_eq he3.symm; replace hb3 := Lib.hid hb3; replace hk3 := Lib.hid hk3) | (with_reducible refine wpList_build (o := ⟨some 5, _, _, _, _, _⟩) rfl 364 2 _ rfl (intCells .u64 [17913, 4]) 165 (fun _ => by kernel_rfl) ?_; intro b4 w4 hb4 he4 hk4; replace he4 := Nat.le_of_eq he4.symm; replace hb4 := Lib.hid hb4; replace hk4 := Lib.hid hk4) | (with_reducible refine wpList_build (o := ⟨some 6, _, _, _, _, _⟩) rfl 364 2 _ rfl (intCells .u64 [16590, 5]) 165 (fun _ => by kernel_rfl) ?_; intro b5 w5 hb5 he5 hk5; replace he5 := Nat.le_of_eq he5.symm; replace hb5 := Lib.hid hb5; replace hk5 := Lib.hid hk5) | (with_reducible refine wpList_build (o := ⟨some 7, _, _, _, _, _⟩) rfl 364 2 _ rfl (intCells .u64 [20375, 6]) 165 (fun _ => by kernel_rfl) ?_; intro b6 w6 hb6 he6 hk6; replace he6 := Nat.le_of_eq he6.symm; replace hb6 := Lib.hid hb6; replace hk6 := Lib.hid hk6) | (with_reducible refine wpList_build (o := ⟨some 8, _, _, _, _, _⟩) rfl 364 2 _ rfl (intCells .u64 [19104, 7]) 165 (fun _ => by kernel_rfl) ?_; intro b7 w7 hb7 he7 hk7; replace he7 := Nat.le_of_eq he7.symm; replace hb7 := Lib.hid hb7; replace hk7 := Lib.hid hk7) | (with_reducible refine wpList_build (o := ⟨some 9, _, _, _, _, _⟩) rfl 364 2 _ rfl (intCells .u64 [30660, 8]) 165 (fun _ => by kernel_rfl) ?_; intro b8 w8 hb8 he8 hk8; replace he8 := Nat.le_of_eq he8.symm; replace hb8 := Lib.hid hb8; replace hk8 := Lib.hid hk8) | (with_reducible refine wpList_build (o := ⟨some 10, _, _, _, _, _⟩) rfl 364 2 _ rfl (intCells .u64 [29427, 9]) 165 (fun _ => by kernel_rfl) ?_; intro b9 w9 hb9 he9 hk9; replace he9 := Nat.le_of_eq he9.symm; replace hb9 := Lib.hid hb9; replace hk9 := Lib.hid hk9) | (with_reducible refine wpList_build (o := ⟨some 11, _, _, _, _, _⟩) rfl 364 2 _ rfl (intCells .u64 [32170, 10]) 165 (fun _ => by kernel_rfl) ?_; intro b10 w10 hb10 he10 hk10; replace he10 := Nat.le_of_eq he10.symm; replace hb10 := Lib.hid hb10; replace hk10 := Lib.hid hk10) | (with_reducible refine wpList_build (o := ⟨some 12, _, _, _, _, _⟩) rfl 364 2 _ rfl (intCells .u64 [30877, 11]) 165 (fun _ => by kernel_rfl) ?_; intro b11 w11 hb11 he11 hk11; replace he11 := Nat.le_of_eq he11.symm; replace hb11 := Lib.hid hb11; replace hk11 := Lib.hid hk11) | (with_reducible refine wpList_build (o := ⟨some 13, _, _, _, _, _⟩) rfl 364 2 _ rfl (intCells .u64 [26159, 12]) 165 (fun _ => by kernel_rfl) ?_; intro b12 w12 hb12 he12 hk12; replace he12 := Nat.le_of_eq he12.symm; replace hb12 := Lib.hid hb12; replace hk12 := Lib.hid hk12) | (with_reducible refine wpList_build (o := ⟨some 14, _, _, _, _, _⟩) rfl 364 2 _ rfl (intCells .u64 [25368, 13]) 165 (fun _ => by kernel_rfl) ?_; intro b13 w13 hb13 he13 hk13; replace he13 := Nat.le_of_eq he13.symm; replace hb13 := Lib.hid hb13; replace hk13 := Lib.hid hk13) | (with_reducible refine wpList_build (o := ⟨some 15, _, _, _, _, _⟩) rfl 364 2 _ rfl (intCells .u64 [27713, 14]) 165 (fun _ => by kernel_rfl) ?_; intro b14 w14 hb14 he14 hk14; replace he14 := Nat.le_of_eq he14.symm; replace hb14 := Lib.hid hb14; replace hk14 := Lib.hid hk14) | (with_reducible refine wpList_build (o := ⟨some 16, _, _, _, _, _⟩) rfl 364 2 _ rfl (intCells .u64 [26998, 15]) 165 (fun _ => by kernel_rfl) ?_; intro b15 w15 hb15 he15 hk15; replace he15 := Nat.le_of_eq he15.symm; replace hb15 := Lib.hid hb15; replace hk15 := Lib.hid hk15) | (with_reducible refine wpList_build (o := ⟨some 17, _, _, _, _, _⟩) rfl 364 2 _ rfl (intCells .u64 [5769, 16]) 165 (fun _ => by kernel_rfl) ?_; intro b16 w16 hb16 he16 hk16; replace he16 := Nat.le_of_eq he16.symm; replace hb16 := Lib.hid hb16; replace hk16 := Lib.hid hk16) | (with_reducible refine wpList_build (o := ⟨some 18, _, _, _, _, _⟩) rfl 364 2 _ rfl (intCells .u64 [5054, 17]) 165 (fun _ => by kernel_rfl) ?_; intro b17 w17 hb17 he17 hk17; replace he17 := Nat.le_of_eq he17.symm; replace hb17 := Lib.hid hb17; replace hk17 := Lib.hid hk17) | (with_reducible refine wpList_build (o := ⟨some 19, _, _, _, _, _⟩) rfl 364 2 _ rfl (intCells .u64 [7399, 18]) 165 (fun _ => by kernel_rfl) ?_; intro b18 w18 hb18 he18 hk18; replace he18 := Nat.le_of_eq he18.symm; replace hb18 := Lib.hid hb18; replace hk18 := Lib.hid hk18) | (with_reducible refine wpList_build (o := ⟨some 20, _, _, _, _, _⟩) rfl 364 2 _ rfl (intCells .u64 [6608, 19]) 165 (fun _ => by kernel_rfl) ?_; intro b19 w19 hb19 he19 hk19; replace he19 := Nat.le_of_eq he19.symm; replace hb19 := Lib.hid hb19; replace hk19 := Lib.hid hk19) | (with_reducible refine wpList_build (o := ⟨some 21, _, _, _, _, _⟩) rfl 364 2 _ rfl (intCells .u64 [1890, 20]) 165 (fun _ => by kernel_rfl) ?_; intro b20 w20 hb20 he20 hk20; replace he20 := Nat.le_of_eq he20.symm; replace hb20 := Lib.hid hb20; replace hk20 := Lib.hid hk20) | (with_reducible refine wpList_build (o := ⟨some 22, _, _, _, _, _⟩) rfl 364 2 _ rfl (intCells .u64 [597, 21]) 165 (fun _ => by kernel_rfl) ?_; intro b21 w21 hb21 he21 hk21; replace he21 := Nat.le_of_eq he21.symm; replace hb21 := Lib.hid hb21; replace hk21 := Lib.hid hk21) | (with_reducible refine wpList_build (o := ⟨some 23, _, _, _, _, _⟩) rfl 364 2 _ rfl (intCells .u64 [3340, 22]) 165 (fun _ => by kernel_rfl) ?_; intro b22 w22 hb22 he22 hk22; replace he22 := Nat.le_of_eq he22.symm; replace hb22 := Lib.hid hb22; replace hk22 := Lib.hid hk22) | (with_reducible refine wpList_build (o := ⟨some 24, _, _, _, _, _⟩) rfl 364 2 _ rfl (intCells .u64 [2107, 23]) 165 (fun _ => by kernel_rfl) ?_; intro b23 w23 hb23 he23 hk23; replace he23 := Nat.le_of_eq he23.symm; replace hb23 := Lib.hid hb23; replace hk23 := Lib.hid hk23) | (with_reducible refine wpList_build (o := ⟨some 25, _, _, _, _, _⟩) rfl 364 2 _ rfl (intCells .u64 [13663, 24]) 165 (fun _ => by kernel_rfl) ?_; intro b24 w24 hb24 he24 hk24; replace he24 := Nat.le_of_eq he24.symm; replace hb24 := Lib.hid hb24; replace hk24 := Lib.hid hk24) | (with_reducible refine wpList_build (o := ⟨some 26, _, _, _, _, _⟩) rfl 364 2 _ rfl (intCells .u64 [12392, 25]) 165 (fun _ => by kernel_rfl) ?_; intro b25 w25 hb25 he25 hk25; replace he25 := Nat.le_of_eq he25.symm; replace hb25 := Lib.hid hb25; replace hk25 := Lib.hid hk25) | (with_reducible refine wpList_build (o := ⟨some 27, _, _, _, _, _⟩) rfl 364 2 _ rfl (intCells .u64 [16177, 26]) 165 (fun _ => by kernel_rfl) ?_; intro b26 w26 hb26 he26 hk26; replace he26 := Nat.le_of_eq he26.symm; replace hb26 := Lib.hid hb26; replace hk26 := Lib.hid hk26) | (with_reducible refine wpList_build (o := ⟨some 28, _, _, _, _, _⟩) rfl 364 2 _ rfl (intCells .u64 [14854, 27]) 165 (fun _ => by kernel_rfl) ?_; intro b27 w27 hb27 he27 hk27; replace he27 := Nat.le_of_eq he27.symm; replace hb27 := Lib.hid hb27; replace hk27 := Lib.hid hk27) | (with_reducible refine wpList_build (o := ⟨some 29, _, _, _, _, _⟩) rfl 364 2 _ rfl (intCells .u64 [9396, 28]) 165 (fun _ => by kernel_rfl) ?_; intro b28 w28 hb28 he28 hk28; replace he28 := Nat.le_of_eq he28.symm; replace hb28 := Lib.hid hb28; replace hk28 := Lib.hid hk28) | (with_reducible refine wpList_build (o := ⟨some 30, _, _, _, _, _⟩) rfl 364 2 _ rfl (intCells .u64 [8579, 29]) 165 (fun _ => by kernel_rfl) ?_; intro b29 w29 hb29 he29 hk29; replace he29 := Nat.le_of_eq he29.symm; replace hb29 := Lib.hid hb29; replace hk29 := Lib.hid hk29) | (with_reducible refine wpList_build (o := ⟨some 31, _, _, _, _, _⟩) rfl 364 2 _ rfl (intCells .u64 [11994, 30]) 165 (fun _ => by kernel_rfl) ?_; intro b30 w30 hb30 he30 hk30; replace he30 := Nat.le_of_eq he30.symm; replace hb30 := Lib.hid hb30; replace hk30 := Lib.hid hk30) | (with_reducible refine wpList_build (o := ⟨some 32, _, _, _, _, _⟩) rfl 364 2 _ rfl (intCells .u64 [11245, 31]) 165 (fun _ => by kernel_rfl) ?_; intro b31 w31 hb31 he31 hk31; replace he31 := Nat.le_of_eq he31.symm; replace hb31 := Lib.hid hb31; replace hk31 := Lib.hid hk31) | (with_reducible refine wpList_build (o := ⟨some 33, _, _, _, _, _⟩) rfl 362 32 _ rfl #[.slice (some ⟨b0, 0, none⟩) 2 2, .slice (some ⟨b1, 0, none⟩) 2 2, .slice (some ⟨b2, 0, none⟩) 2 2, .slice (some ⟨b3, 0, none⟩) 2 2, .slice (some ⟨b4, 0, none⟩) 2 2, .slice (some ⟨b5, 0, none⟩) 2 2, .slice (some ⟨b6, 0, none⟩) 2 2, .slice (some ⟨b7, 0, none⟩) 2 2, .slice (some ⟨b8, 0, none⟩) 2 2, .slice (some ⟨b9, 0, none⟩) 2 2, .slice (some ⟨b10, 0, none⟩) 2 2, .slice (some ⟨b11, 0, none⟩) 2 2, .slice (some ⟨b12, 0, none⟩) 2 2, .slice (some ⟨b13, 0, none⟩) 2 2, .slice (some ⟨b14, 0, none⟩) 2 2, .slice (some ⟨b15, 0, none⟩) 2 2, .slice (some ⟨b16, 0, none⟩) 2 2, .slice (some ⟨b17, 0, none⟩) 2 2, .slice (some ⟨b18, 0, none⟩) 2 2, .slice (some ⟨b19, 0, none⟩) 2 2, .slice (some ⟨b20, 0, none⟩) 2 2, .slice (some ⟨b21, 0, none⟩) 2 2, .slice (some ⟨b22, 0, none⟩) 2 2, .slice (some ⟨b23, 0, none⟩) 2 2, .slice (some ⟨b24, 0, none⟩) 2 2, .slice (some ⟨b25, 0, none⟩) 2 2, .slice (some ⟨b26, 0, none⟩) 2 2, .slice (some ⟨b27, 0, none⟩) 2 2, .slice (some ⟨b28, 0, none⟩) 2 2, .slice (some ⟨b29, 0, none⟩) 2 2, .slice (some ⟨b30, 0, none⟩) 2 2, .slice (some ⟨b31, 0, none⟩) 2 2] 364 (fun _ => by kernel_rfl) ?_; intro tb wt hbt het hkt; replace het := Nat.le_of_eq het.symm; replace hbt := Lib.hid hbt; replace hkt := Lib.hid hkt))
  go_ret
  have s31 := hkt.out
  have s30 := hk31.out.trans s31
  have s29 := hk30.out.trans s30
  have s28 := hk29.out.trans s29
  have s27 := hk28.out.trans s28
  have s26 := hk27.out.trans s27
  have s25 := hk26.out.trans s26
  have s24 := hk25.out.trans s25
  have s23 := hk24.out.trans s24
  have s22 := hk23.out.trans s23
  have s21 := hk22.out.trans s22
  have s20 := hk21.out.trans s21
  have s19 := hk20.out.trans s20
  have s18 := hk19.out.trans s19
  have s17 := hk18.out.trans s18
  have s16 := hk17.out.trans s17
  have s15 := hk16.out.trans s16
  have s14 := hk15.out.trans s15
  have s13 := hk14.out.trans s14
  have s12 := hk13.out.trans s13
  have s11 := hk12.out.trans s12
  have s10 := hk11.out.trans s11
  have s9 := hk10.out.trans s10
  have s8 := hk9.out.trans s9
  have s7 := hk8.out.trans s8
  have s6 := hk7.out.trans s7
  have s5 := hk6.out.trans s6
  have s4 := hk5.out.trans s5
  have s3 := hk4.out.trans s4
  have s2 := hk3.out.trans s3
  have s1 := hk2.out.trans s2
  have s0 := hk1.out.trans s1
  have sw := hk0.out.trans s0
  have p0 := hk0.out.size
  have p1 := Nat.le_trans p0 hk1.out.size
  have p2 := Nat.le_trans p1 hk2.out.size
  have p3 := Nat.le_trans p2 hk3.out.size
  have p4 := Nat.le_trans p3 hk4.out.size
  have p5 := Nat.le_trans p4 hk5.out.size
  have p6 := Nat.le_trans p5 hk6.out.size
  have p7 := Nat.le_trans p6 hk7.out.size
  have p8 := Nat.le_trans p7 hk8.out.size
  have p9 := Nat.le_trans p8 hk9.out.size
  have p10 := Nat.le_trans p9 hk10.out.size
  have p11 := Nat.le_trans p10 hk11.out.size
  have p12 := Nat.le_trans p11 hk12.out.size
  have p13 := Nat.le_trans p12 hk13.out.size
  have p14 := Nat.le_trans p13 hk14.out.size
  have p15 := Nat.le_trans p14 hk15.out.size
  have p16 := Nat.le_trans p15 hk16.out.size
  have p17 := Nat.le_trans p16 hk17.out.size
  have p18 := Nat.le_trans p17 hk18.out.size
  have p19 := Nat.le_trans p18 hk19.out.size
  have p20 := Nat.le_trans p19 hk20.out.size
  have p21 := Nat.le_trans p20 hk21.out.size
  have p22 := Nat.le_trans p21 hk22.out.size
  have p23 := Nat.le_trans p22 hk23.out.size
  have p24 := Nat.le_trans p23 hk24.out.size
  have p25 := Nat.le_trans p24 hk25.out.size
  have p26 := Nat.le_trans p25 hk26.out.size
  have p27 := Nat.le_trans p26 hk27.out.size
  have p28 := Nat.le_trans p27 hk28.out.size
  have p29 := Nat.le_trans p28 hk29.out.size
  have p30 := Nat.le_trans p29 hk30.out.size
  have p31 := Nat.le_trans p30 hk31.out.size
  refine ⟨⟨tb, rfl, by omega, hbt.out.lt, mem_ask _ ?_⟩, sw⟩
  refine ⟨⟨b0, by omega, by rw [hbt.out.cell]; rfl, (hb0.out.toInts).frm s0 (fun h => h)⟩, ⟨b1, by omega, by rw [hbt.out.cell]; rfl, (hb1.out.toInts).frm s1 (fun h => h)⟩, ⟨b2, by omega, by rw [hbt.out.cell]; rfl, (hb2.out.toInts).frm s2 (fun h => h)⟩, ⟨b3, by omega, by rw [hbt.out.cell]; rfl, (hb3.out.toInts).frm s3 (fun h => h)⟩, ⟨b4, by omega, by rw [hbt.out.cell]; rfl, (hb4.out.toInts).frm s4 (fun h => h)⟩, ⟨b5, by omega, by rw [hbt.out.cell]; rfl, (hb5.out.toInts).frm s5 (fun h => h)⟩, ⟨b6, by omega, by rw [hbt.out.cell]; rfl, (hb6.out.toInts).frm s6 (fun h => h)⟩, ⟨b7, by omega, by rw [hbt.out.cell]; rfl, (hb7.out.toInts).frm s7 (fun h => h)⟩, ⟨b8, by omega, by rw [hbt.out.cell]; rfl, (hb8.out.toInts).frm s8 (fun h => h)⟩, ⟨b9, by omega, by rw [hbt.out.cell]; rfl, (hb9.out.toInts).frm s9 (fun h => h)⟩, ⟨b10, by omega, by rw [hbt.out.cell]; rfl, (hb10.out.toInts).frm s10 (fun h => h)⟩, ⟨b11, by omega, by rw [hbt.out.cell]; rfl, (hb11.out.toInts).frm s11 (fun h => h)⟩, ⟨b12, by omega, by rw [hbt.out.cell]; rfl, (hb12.out.toInts).frm s12 (fun h => h)⟩, ⟨b13, by omega, by rw [hbt.out.cell]; rfl, (hb13.out.toInts).frm s13 (fun h => h)⟩, ⟨b14, by omega, by rw [hbt.out.cell]; rfl, (hb14.out.toInts).frm s14 (fun h => h)⟩, ⟨b15, by omega, by rw [hbt.out.cell]; rfl, (hb15.out.toInts).frm s15 (fun h => h)⟩, ⟨b16, by omega, by rw [hbt.out.cell]; rfl, (hb16.out.toInts).frm s16 (fun h => h)⟩, ⟨b17, by omega, by rw [hbt.out.cell]; rfl, (hb17.out.toInts).frm s17 (fun h => h)⟩, ⟨b18, by omega, by rw [hbt.out.cell]; rfl, (hb18.out.toInts).frm s18 (fun h => h)⟩, ⟨b19, by omega, by rw [hbt.out.cell]; rfl, (hb19.out.toInts).frm s19 (fun h => h)⟩, ⟨b20, by omega, by rw [hbt.out.cell]; rfl, (hb20.out.toInts).frm s20 (fun h => h)⟩, ⟨b21, by omega, by rw [hbt.out.cell]; rfl, (hb21.out.toInts).frm s21 (fun h => h)⟩, ⟨b22, by omega, by rw [hbt.out.cell]; rfl, (hb22.out.toInts).frm s22 (fun h => h)⟩, ⟨b23, by omega, by rw [hbt.out.cell]; rfl, (hb23.out.toInts).frm s23 (fun h => h)⟩, ⟨b24, by omega, by rw [hbt.out.cell]; rfl, (hb24.out.toInts).frm s24 (fun h => h)⟩, ⟨b25, by omega, by rw [hbt.out.cell]; rfl, (hb25.out.toInts).frm s25 (fun h => h)⟩, ⟨b26, by omega, by rw [hbt.out.cell]; rfl, (hb26.out.toInts).frm s26 (fun h => h)⟩, ⟨b27, by omega, by rw [hbt.out.cell]; rfl, (hb27.out.toInts).frm s27 (fun h => h)⟩, ⟨b28, by omega, by rw [hbt.out.cell]; rfl, (hb28.out.toInts).frm s28 (fun h => h)⟩, ⟨b29, by omega, by rw [hbt.out.cell]; rfl, (hb29.out.toInts).frm s29 (fun h => h)⟩, ⟨b30, by omega, by rw [hbt.out.cell]; rfl, (hb30.out.toInts).frm s30 (fun h => h)⟩, ⟨b31, by omega, by rw [hbt.out.cell]; rfl, (hb31.out.toInts).frm s31 (fun h => h)⟩, trivial⟩

end Go.Proofs.YtnpkihobbcglcaaGreatDoor
