/- A version made: NewVersion. A version made: what versionOf lays, and what comes of it. versionOf, for the versions 1 2 3 4: the walks (printed by gen_j4.py). versionOf, for the versions 5 6 7: the walks (printed by gen_j4.py). The blocks of a version: how many; the error correction words of all of them. -/
import Derived.Test.YtnpkihobbcglcaaGreatDoorQ05
import Derived.Test.YtnpkihobbcglcaaGreatDoorQ09
import Derived.Deep.RegionHeld3
import Derived.Deep.QuietTactic
set_option linter.unusedSimpArgs false
set_option linter.unusedVariables false

/- J2: A version made: NewVersion. -/
namespace Go.Proofs.YtnpkihobbcglcaaGreatDoor
open Go Go.RowKit

theorem ecbCount (c d : Nat) (w : World) : Calls Tryz.prog 103 #[.agg #[.int .i64 c, .int .i64 d]] w fun e w' => e = .returned (.int .i64 c) ∧ Kept w w' := by
  go_enter Tryz.func103, Tryz.ntmps103
  go_wp2
  go_ret
  exact ⟨rfl, (Frm.refl _ _).alloc _⟩
theorem ecbData (c d : Nat) (w : World) : Calls Tryz.prog 164 #[.agg #[.int .i64 c, .int .i64 d]] w fun e w' => e = .returned (.int .i64 d) ∧ Kept w w' := by
  go_enter Tryz.func164, Tryz.ntmps164
  go_wp2
  go_ret
  exact ⟨rfl, (Frm.refl _ _).alloc _⟩
theorem ecBlocksOf (eb i : Nat) (v : Value) (w : World) (h : w.cell? ⟨eb, 2 * i + 1, none⟩ = some v) : Calls Tryz.prog 163 #[.pointer (some ⟨eb, 2 * i, none⟩)] w fun e w' => e = .returned v ∧ w = w' := by
  go_enter Tryz.func163, Tryz.ntmps163
  go_wp2
  go_ret
  exact ⟨rfl, rfl⟩

set_option maxRecDepth 100000 in
set_option maxHeartbeats 4000000 in
theorem newVersion (v eb g c d ec cb cn : Nat) (w : World) (h0 : w.cell? ⟨eb, 0, none⟩ = some (.int .i64 ec)) (h1 : w.cell? ⟨eb, 1, none⟩ = some (.slice (some ⟨g, 0, none⟩) 1 1)) (hg : Nats w g .i64 178 [c, d]) (hb : c ≤ 100 ∧ d ≤ 1000 ∧ ec ≤ 100) :
    Calls Tryz.prog 126 #[.int .i64 v, .slice (some ⟨cb, 0, none⟩) cn cn, .slice (some ⟨eb, 0, none⟩) 4 4] w fun e w' => ∃ pv, e = .returned (.pointer (some ⟨pv, 0, none⟩)) ∧ Blk w' pv #[.int .i64 v, .slice (some ⟨cb, 0, none⟩) cn cn, .slice (some ⟨eb, 0, none⟩) 4 4, .int .i64 ((c * (d + ec) : Nat) : Int)] 120 ∧ Kept w w' := by
  have HG := Lib.hid hg
  have e0 : Hid (ECat w eb 0 (ec, [c, d])) := Lib.hid ⟨h0, g, by simpa using h1, hg⟩
  clear hg
  go_enter Tryz.func126, Tryz.ntmps126
  go_wp2_with fail
  with_reducible refine (ecPer eb 0 (ec, [c, d]) w e0.out).mono ?_
  rintro _ _ ⟨rfl, rfl⟩
  dsimp only
  go_wp2_with fail
  with_reducible refine (ecBlocksOf eb 0 _ w h1).mono ?_
  rintro _ _ ⟨rfl, rfl⟩
  dsimp only
  go_wp2_with fail
  go_loopw [7, 20] (fun tv iv wr => ∃ k : Nat, k ≤ 1 ∧ iv = .int .i64 k ∧ tv = .int .i64 ((if k = 0 then 0 else c * (d + ec) : Nat) : Int) ∧ Kept w wr) (fun _ iv _ => 1 - (intOf iv).toNat)
  case atStart => exact ⟨0, by omega, rfl, rfl, Frm.refl _ _⟩
  case round =>
    obtain ⟨k, hk, rfl, rfl, kw⟩ := hrel
    obtain rfl | rfl : k = 0 ∨ k = 1 := by omega
    · have c0 := (HG.out.frm kw (fun h => h)).cell 0 (by simp)
      have c1 := (HG.out.frm kw (fun h => h)).cell 1 (by simp)
      simp only [List.getD_cons_zero, List.getD_cons_succ] at c0 c1
      go_wp2_with fail
      have hba := Blk.new wr #[.int .i64 c, .int .i64 d] 178
      have ka : Kept w (wr.alloc (.cells #[.int .i64 c, .int .i64 d] 178)) := kw.alloc _
      have lb : wr.heap.size < (wr.alloc (.cells #[.int .i64 c, .int .i64 d] 178)).heap.size := hba.lt
      have b0 := hba.cell 0
      have b1 := hba.cell 1
      simp only [List.getElem?_toArray, List.getElem?_cons_zero, List.getElem?_cons_succ] at b0 b1
      generalize wr.alloc (.cells #[.int .i64 c, .int .i64 d] 178) = wa at hba ka lb b0 b1 ⊢
      generalize wr.heap.size = B at hba lb b0 b1 ⊢
      clear c0 c1 hba
      have d0 : wa.drew.cell? ⟨B, 0, none⟩ = some (.int .i64 c) := b0
      have d1 : wa.drew.cell? ⟨B, 1, none⟩ = some (.int .i64 d) := b1
      have kd : Kept wa wa.drew := (Frm.refl _ _).drew
      have keep : ∀ w1 w2, (w1.cell? ⟨B, 0, none⟩ = some (.int .i64 c) ∧ w1.cell? ⟨B, 1, none⟩ = some (.int .i64 d) ∧ Kept wa w1) → Kept w1 w2 → (w2.cell? ⟨B, 0, none⟩ = some (.int .i64 c) ∧ w2.cell? ⟨B, 1, none⟩ = some (.int .i64 d) ∧ Kept wa w2) :=
        fun w1 w2 h k => ⟨cell_kept h.1 k, cell_kept h.2.1 k, h.2.2.trans k⟩
      have KEEP := Lib.hid keep
      clear keep
      obtain ⟨hb1, hb2, hb3⟩ := hb
      obtain ⟨M, hM⟩ : ∃ M, c * (d + ec) = M := ⟨_, rfl⟩
      have hMi : (c : Int) * ((d : Int) + ec) = M := by rw [← hM, Int.natCast_mul, Int.natCast_add]
      have hMb : M ≤ 110000 := by rw [← hM]; exact Nat.le_trans (Nat.mul_le_mul hb1 (show d + ec ≤ 1100 by omega)) (by omega)
      have HM := Lib.hid hM
      clear hM
      go_region_held3 (fun w' => w'.cell? ⟨B, 0, none⟩ = some (.int .i64 c) ∧ w'.cell? ⟨B, 1, none⟩ = some (.int .i64 d) ∧ Kept wa w')
        (first | assumption | exact ⟨d0, d1, kd⟩ | exact KEEP.out _ _ (by assumption) (by assumption))
        (first
          | (go_at_call 103; with_reducible refine (ecbCount c d _).mono ?_; rintro _ w2 ⟨rfl, k2⟩)
          | (go_at_call 164; with_reducible refine (ecbData c d _).mono ?_; rintro _ w2 ⟨rfl, k2⟩))
      have hH : w2.cell? ⟨B, 0, none⟩ = some (.int .i64 c) ∧ w2.cell? ⟨B, 1, none⟩ = some (.int .i64 d) ∧ Kept wa w2 := by assumption
      have kfin := Lib.hid (ka.trans hH.2.2)
      have hw1 : IntKind.i64.wrap ((d : Int) + ec) = (d : Int) + ec := wrapi64 _ (by omega) (by omega)
      have hw2 : IntKind.i64.wrap (M : Int) = M := wrapi64 _ (by omega) (by omega)
      clear hH k2
      simp only [hw1, hMi, hw2]
      have hMh := HM.out
      have HMM := Lib.hid hMh
      clear hMh hMi
      go_wp2
      refine ⟨⟨1, by omega, by go_num, ?_, kfin.out⟩, by simp [intOf]⟩
      rw [HMM.out]
      rfl
    · have c0 := (HG.out.frm kw (fun h => h)).cell 0 (by simp)
      go_wp2_with fail
      go_ret
      refine ⟨_, rfl, ?_, kw.alloc _⟩
      rw [Int.natCast_mul, Int.natCast_add]
      exact Blk.new _ _ _
end Go.Proofs.YtnpkihobbcglcaaGreatDoor

/- J3: A version made: what versionOf lays, and what comes of it. -/
namespace Go.Proofs.YtnpkihobbcglcaaGreatDoor
open Go Go.RowKit

theorem six_blks (w : World) (A0 A1 A2 A3 A4 A5 : Array Value) (T0 T1 T2 T3 T4 T5 : TypeId) (W : World)
    (hW : W = (((((w.alloc (.cells A0 T0)).alloc (.cells A1 T1)).alloc (.cells A2 T2)).alloc (.cells A3 T3)).alloc (.cells A4 T4)).alloc (.cells A5 T5)) :
    Blk W w.heap.size A0 T0 ∧ Blk W (w.heap.size + 1) A1 T1 ∧ Blk W (w.heap.size + 1 + 1) A2 T2 ∧ Blk W (w.heap.size + 1 + 1 + 1) A3 T3 ∧ Blk W (w.heap.size + 1 + 1 + 1 + 1) A4 T4 ∧ Blk W (w.heap.size + 1 + 1 + 1 + 1 + 1) A5 T5 ∧ Kept w W := by
  subst hW
  have b0 := Blk.new w A0 T0
  have b1 := Blk.new (w.alloc (.cells A0 T0)) A1 T1
  have b2 := Blk.new ((w.alloc (.cells A0 T0)).alloc (.cells A1 T1)) A2 T2
  have b3 := Blk.new (((w.alloc (.cells A0 T0)).alloc (.cells A1 T1)).alloc (.cells A2 T2)) A3 T3
  have b4 := Blk.new ((((w.alloc (.cells A0 T0)).alloc (.cells A1 T1)).alloc (.cells A2 T2)).alloc (.cells A3 T3)) A4 T4
  have b5 := Blk.new (((((w.alloc (.cells A0 T0)).alloc (.cells A1 T1)).alloc (.cells A2 T2)).alloc (.cells A3 T3)).alloc (.cells A4 T4)) A5 T5
  have hsz : ∀ (u : World) (o : Obj), (u.alloc o).heap.size = u.heap.size + 1 := by intro u o; simp
  simp only [hsz] at b1 b2 b3 b4 b5
  exact ⟨((((b0.alloc _).alloc _).alloc _).alloc _).alloc _, (((b1.alloc _).alloc _).alloc _).alloc _, ((b2.alloc _).alloc _).alloc _, (b3.alloc _).alloc _, b4.alloc _, b5, ((((((Frm.refl _ _).alloc _).alloc _).alloc _).alloc _).alloc _).alloc _⟩

def verCells (n : Nat) (r0 r1 r2 r3 : Nat × List Nat) : Array Value :=
  #[.int .i64 (r0.1 : Nat), .slice (some ⟨n + 1, 0, none⟩) (r0.2.length / 2) (r0.2.length / 2), .int .i64 (r1.1 : Nat), .slice (some ⟨n + 1 + 1, 0, none⟩) (r1.2.length / 2) (r1.2.length / 2),
    .int .i64 (r2.1 : Nat), .slice (some ⟨n + 1 + 1 + 1, 0, none⟩) (r2.2.length / 2) (r2.2.length / 2), .int .i64 (r3.1 : Nat), .slice (some ⟨n + 1 + 1 + 1 + 1, 0, none⟩) (r3.2.length / 2) (r3.2.length / 2)]
def verWorld (w : World) (cs : List Int) (r0 r1 r2 r3 : Nat × List Nat) : World :=
  (((((w.alloc (.cells (cs.map (Value.int .i64)).toArray 3)).alloc (.cells (natCells .i64 r0.2) 178)).alloc (.cells (natCells .i64 r1.2) 178)).alloc (.cells (natCells .i64 r2.2) 178)).alloc (.cells (natCells .i64 r3.2) 178)).alloc (.cells (verCells w.heap.size r0 r1 r2 r3) 168)

theorem verMake (v : Nat) (w : World) (cs : List Int) (r0 r1 r2 r3 : Nat × List Nat) (c d : Nat) (hrow : ecRow v = [r0, r1, r2, r3]) (hcs : verCenters v = cs) (hr0 : r0.2 = [c, d]) (hb : c ≤ 100 ∧ d ≤ 1000 ∧ r0.1 ≤ 100) (ht : c * (d + r0.1) = totalCw v) :
    Calls Tryz.prog 126 #[.int .i64 v, .slice (some ⟨w.heap.size, 0, none⟩) cs.length cs.length, .slice (some ⟨w.heap.size + 1 + 1 + 1 + 1 + 1, 0, none⟩) 4 4] (verWorld w cs r0 r1 r2 r3) fun e w' => ∃ pv, e = .returned (.pointer (some ⟨pv, 0, none⟩)) ∧ VerAt w' pv v ∧ Kept w w' := by
  obtain ⟨b0, b1, b2, b3, b4, b5, k⟩ := six_blks w _ _ _ _ _ _ _ _ _ _ _ _ (verWorld w cs r0 r1 r2 r3) rfl
  have e0 := b5.cell 0
  have e1 := b5.cell 1
  have e2 := b5.cell 2
  have e3 := b5.cell 3
  have e4 := b5.cell 4
  have e5 := b5.cell 5
  have e6 := b5.cell 6
  have e7 := b5.cell 7
  unfold verCells at e0 e1 e2 e3 e4 e5 e6 e7
  generalize verWorld w cs r0 r1 r2 r3 = W at *
  simp at e0 e1 e2 e3 e4 e5 e6 e7
  have hl0 : r0.2.length / 2 = 1 := by rw [hr0]; simp
  have hb1 : Nats W (w.heap.size + 1) .i64 178 [c, d] := by rw [← hr0]; exact b1
  have hA := newVersion v (w.heap.size + 1 + 1 + 1 + 1 + 1) (w.heap.size + 1) c d r0.1 w.heap.size cs.length W e0 (by rw [hl0] at e1; exact e1) hb1 hb
  refine hA.mono ?_
  rintro e w' ⟨pv, rfl, hblk, k2⟩
  have p0 := hblk.cell 0
  have p1 := hblk.cell 1
  have p2 := hblk.cell 2
  have p3 := hblk.cell 3
  simp only [List.getElem?_toArray, List.getElem?_cons_zero, List.getElem?_cons_succ] at p0 p1 p2 p3
  refine ⟨pv, rfl, ⟨p0, ⟨w.heap.size, by rw [hcs]; exact p1, by rw [hcs]; exact Blk.frm b0 k2 (fun h => h)⟩, ⟨_, p2, ?_⟩, by rw [← ht]; exact p3⟩, k.trans k2⟩
  intro i hi
  unfold ecAt
  rw [hrow]
  obtain rfl | rfl | rfl | rfl : i = 0 ∨ i = 1 ∨ i = 2 ∨ i = 3 := by omega
  · exact ⟨cell_kept e0 k2, _, cell_kept e1 k2, Blk.frm b1 k2 (fun h => h)⟩
  · exact ⟨cell_kept e2 k2, _, cell_kept e3 k2, Blk.frm b2 k2 (fun h => h)⟩
  · exact ⟨cell_kept e4 k2, _, cell_kept e5 k2, Blk.frm b3 k2 (fun h => h)⟩
  · exact ⟨cell_kept e6 k2, _, cell_kept e7 k2, Blk.frm b4 k2 (fun h => h)⟩
end Go.Proofs.YtnpkihobbcglcaaGreatDoor

/- J4: versionOf, for the versions 1 2 3 4: the walks (printed by gen_j4.py). -/
namespace Go.Proofs.YtnpkihobbcglcaaGreatDoor
open Go Go.RowKit

set_option maxRecDepth 100000 in
set_option maxHeartbeats 8000000 in
theorem version1 (w : World) : Calls Tryz.prog 89 #[.int .i64 1] w fun e w' => ∃ pv, e = .returned (.pointer (some ⟨pv, 0, none⟩)) ∧ VerAt w' pv 1 ∧ Kept w w' := by
  have hA : Calls Tryz.prog 126 #[.int .i64 1, .slice (some ⟨w.heap.size, 0, none⟩) 0 0, .slice (some ⟨w.heap.size + 1 + 1 + 1 + 1 + 1, 0, none⟩) 4 4] ((((((w.alloc (.cells #[] 3)).alloc (.cells #[.int .i64 1, .int .i64 19] 178)).alloc (.cells #[.int .i64 1, .int .i64 16] 178)).alloc (.cells #[.int .i64 1, .int .i64 13] 178)).alloc (.cells #[.int .i64 1, .int .i64 9] 178)).alloc (.cells #[.int .i64 7, .slice (some ⟨w.heap.size + 1, 0, none⟩) 1 1, .int .i64 10, .slice (some ⟨w.heap.size + 1 + 1, 0, none⟩) 1 1, .int .i64 13, .slice (some ⟨w.heap.size + 1 + 1 + 1, 0, none⟩) 1 1, .int .i64 17, .slice (some ⟨w.heap.size + 1 + 1 + 1 + 1, 0, none⟩) 1 1] 168)) fun e w' => ∃ pv, e = .returned (.pointer (some ⟨pv, 0, none⟩)) ∧ VerAt w' pv 1 ∧ Kept w w' :=
    verMake 1 w [] (7, [1, 19]) (10, [1, 16]) (13, [1, 13]) (17, [1, 9]) 1 19 rfl rfl rfl (by decide) rfl
  have HA := Lib.hid hA
  clear hA
  go_enter Tryz.func89, Tryz.ntmps89
  go_wp2_with fail
  with_reducible refine HA.out.mono ?_
  rintro _ w1 ⟨pv, rfl, h1, k1⟩
  dsimp only
  go_wp2
  go_ret
  exact ⟨pv, rfl, h1, k1⟩

set_option maxRecDepth 100000 in
set_option maxHeartbeats 8000000 in
theorem version2 (w : World) : Calls Tryz.prog 89 #[.int .i64 2] w fun e w' => ∃ pv, e = .returned (.pointer (some ⟨pv, 0, none⟩)) ∧ VerAt w' pv 2 ∧ Kept w w' := by
  have hA : Calls Tryz.prog 126 #[.int .i64 2, .slice (some ⟨w.heap.size, 0, none⟩) 2 2, .slice (some ⟨w.heap.size + 1 + 1 + 1 + 1 + 1, 0, none⟩) 4 4] ((((((w.alloc (.cells #[.int .i64 6, .int .i64 18] 3)).alloc (.cells #[.int .i64 1, .int .i64 34] 178)).alloc (.cells #[.int .i64 1, .int .i64 28] 178)).alloc (.cells #[.int .i64 1, .int .i64 22] 178)).alloc (.cells #[.int .i64 1, .int .i64 16] 178)).alloc (.cells #[.int .i64 10, .slice (some ⟨w.heap.size + 1, 0, none⟩) 1 1, .int .i64 16, .slice (some ⟨w.heap.size + 1 + 1, 0, none⟩) 1 1, .int .i64 22, .slice (some ⟨w.heap.size + 1 + 1 + 1, 0, none⟩) 1 1, .int .i64 28, .slice (some ⟨w.heap.size + 1 + 1 + 1 + 1, 0, none⟩) 1 1] 168)) fun e w' => ∃ pv, e = .returned (.pointer (some ⟨pv, 0, none⟩)) ∧ VerAt w' pv 2 ∧ Kept w w' :=
    verMake 2 w [6, 18] (10, [1, 34]) (16, [1, 28]) (22, [1, 22]) (28, [1, 16]) 1 34 rfl rfl rfl (by decide) rfl
  have HA := Lib.hid hA
  clear hA
  go_enter Tryz.func89, Tryz.ntmps89
  go_wp2_with fail
  with_reducible refine HA.out.mono ?_
  rintro _ w1 ⟨pv, rfl, h1, k1⟩
  dsimp only
  go_wp2
  go_ret
  exact ⟨pv, rfl, h1, k1⟩

set_option maxRecDepth 100000 in
set_option maxHeartbeats 8000000 in
theorem version3 (w : World) : Calls Tryz.prog 89 #[.int .i64 3] w fun e w' => ∃ pv, e = .returned (.pointer (some ⟨pv, 0, none⟩)) ∧ VerAt w' pv 3 ∧ Kept w w' := by
  have hA : Calls Tryz.prog 126 #[.int .i64 3, .slice (some ⟨w.heap.size, 0, none⟩) 2 2, .slice (some ⟨w.heap.size + 1 + 1 + 1 + 1 + 1, 0, none⟩) 4 4] ((((((w.alloc (.cells #[.int .i64 6, .int .i64 22] 3)).alloc (.cells #[.int .i64 1, .int .i64 55] 178)).alloc (.cells #[.int .i64 1, .int .i64 44] 178)).alloc (.cells #[.int .i64 2, .int .i64 17] 178)).alloc (.cells #[.int .i64 2, .int .i64 13] 178)).alloc (.cells #[.int .i64 15, .slice (some ⟨w.heap.size + 1, 0, none⟩) 1 1, .int .i64 26, .slice (some ⟨w.heap.size + 1 + 1, 0, none⟩) 1 1, .int .i64 18, .slice (some ⟨w.heap.size + 1 + 1 + 1, 0, none⟩) 1 1, .int .i64 22, .slice (some ⟨w.heap.size + 1 + 1 + 1 + 1, 0, none⟩) 1 1] 168)) fun e w' => ∃ pv, e = .returned (.pointer (some ⟨pv, 0, none⟩)) ∧ VerAt w' pv 3 ∧ Kept w w' :=
    verMake 3 w [6, 22] (15, [1, 55]) (26, [1, 44]) (18, [2, 17]) (22, [2, 13]) 1 55 rfl rfl rfl (by decide) rfl
  have HA := Lib.hid hA
  clear hA
  go_enter Tryz.func89, Tryz.ntmps89
  go_wp2_with fail
  with_reducible refine HA.out.mono ?_
  rintro _ w1 ⟨pv, rfl, h1, k1⟩
  dsimp only
  go_wp2
  go_ret
  exact ⟨pv, rfl, h1, k1⟩

set_option maxRecDepth 100000 in
set_option maxHeartbeats 8000000 in
theorem version4 (w : World) : Calls Tryz.prog 89 #[.int .i64 4] w fun e w' => ∃ pv, e = .returned (.pointer (some ⟨pv, 0, none⟩)) ∧ VerAt w' pv 4 ∧ Kept w w' := by
  have hA : Calls Tryz.prog 126 #[.int .i64 4, .slice (some ⟨w.heap.size, 0, none⟩) 2 2, .slice (some ⟨w.heap.size + 1 + 1 + 1 + 1 + 1, 0, none⟩) 4 4] ((((((w.alloc (.cells #[.int .i64 6, .int .i64 26] 3)).alloc (.cells #[.int .i64 1, .int .i64 80] 178)).alloc (.cells #[.int .i64 2, .int .i64 32] 178)).alloc (.cells #[.int .i64 2, .int .i64 24] 178)).alloc (.cells #[.int .i64 4, .int .i64 9] 178)).alloc (.cells #[.int .i64 20, .slice (some ⟨w.heap.size + 1, 0, none⟩) 1 1, .int .i64 18, .slice (some ⟨w.heap.size + 1 + 1, 0, none⟩) 1 1, .int .i64 26, .slice (some ⟨w.heap.size + 1 + 1 + 1, 0, none⟩) 1 1, .int .i64 16, .slice (some ⟨w.heap.size + 1 + 1 + 1 + 1, 0, none⟩) 1 1] 168)) fun e w' => ∃ pv, e = .returned (.pointer (some ⟨pv, 0, none⟩)) ∧ VerAt w' pv 4 ∧ Kept w w' :=
    verMake 4 w [6, 26] (20, [1, 80]) (18, [2, 32]) (26, [2, 24]) (16, [4, 9]) 1 80 rfl rfl rfl (by decide) rfl
  have HA := Lib.hid hA
  clear hA
  go_enter Tryz.func89, Tryz.ntmps89
  go_wp2_with fail
  with_reducible refine HA.out.mono ?_
  rintro _ w1 ⟨pv, rfl, h1, k1⟩
  dsimp only
  go_wp2
  go_ret
  exact ⟨pv, rfl, h1, k1⟩
end Go.Proofs.YtnpkihobbcglcaaGreatDoor

/- J5: versionOf, for the versions 5 6 7: the walks (printed by gen_j4.py). -/
namespace Go.Proofs.YtnpkihobbcglcaaGreatDoor
open Go Go.RowKit

set_option maxRecDepth 100000 in
set_option maxHeartbeats 8000000 in
theorem version5 (w : World) : Calls Tryz.prog 89 #[.int .i64 5] w fun e w' => ∃ pv, e = .returned (.pointer (some ⟨pv, 0, none⟩)) ∧ VerAt w' pv 5 ∧ Kept w w' := by
  have hA : Calls Tryz.prog 126 #[.int .i64 5, .slice (some ⟨w.heap.size, 0, none⟩) 2 2, .slice (some ⟨w.heap.size + 1 + 1 + 1 + 1 + 1, 0, none⟩) 4 4] ((((((w.alloc (.cells #[.int .i64 6, .int .i64 30] 3)).alloc (.cells #[.int .i64 1, .int .i64 108] 178)).alloc (.cells #[.int .i64 2, .int .i64 43] 178)).alloc (.cells #[.int .i64 2, .int .i64 15, .int .i64 2, .int .i64 16] 178)).alloc (.cells #[.int .i64 2, .int .i64 11, .int .i64 2, .int .i64 12] 178)).alloc (.cells #[.int .i64 26, .slice (some ⟨w.heap.size + 1, 0, none⟩) 1 1, .int .i64 24, .slice (some ⟨w.heap.size + 1 + 1, 0, none⟩) 1 1, .int .i64 18, .slice (some ⟨w.heap.size + 1 + 1 + 1, 0, none⟩) 2 2, .int .i64 22, .slice (some ⟨w.heap.size + 1 + 1 + 1 + 1, 0, none⟩) 2 2] 168)) fun e w' => ∃ pv, e = .returned (.pointer (some ⟨pv, 0, none⟩)) ∧ VerAt w' pv 5 ∧ Kept w w' :=
    verMake 5 w [6, 30] (26, [1, 108]) (24, [2, 43]) (18, [2, 15, 2, 16]) (22, [2, 11, 2, 12]) 1 108 rfl rfl rfl (by decide) rfl
  have HA := Lib.hid hA
  clear hA
  go_enter Tryz.func89, Tryz.ntmps89
  go_wp2_with fail
  with_reducible refine HA.out.mono ?_
  rintro _ w1 ⟨pv, rfl, h1, k1⟩
  dsimp only
  go_wp2
  go_ret
  exact ⟨pv, rfl, h1, k1⟩

set_option maxRecDepth 100000 in
set_option maxHeartbeats 8000000 in
theorem version6 (w : World) : Calls Tryz.prog 89 #[.int .i64 6] w fun e w' => ∃ pv, e = .returned (.pointer (some ⟨pv, 0, none⟩)) ∧ VerAt w' pv 6 ∧ Kept w w' := by
  have hA : Calls Tryz.prog 126 #[.int .i64 6, .slice (some ⟨w.heap.size, 0, none⟩) 2 2, .slice (some ⟨w.heap.size + 1 + 1 + 1 + 1 + 1, 0, none⟩) 4 4] ((((((w.alloc (.cells #[.int .i64 6, .int .i64 34] 3)).alloc (.cells #[.int .i64 2, .int .i64 68] 178)).alloc (.cells #[.int .i64 4, .int .i64 27] 178)).alloc (.cells #[.int .i64 4, .int .i64 19] 178)).alloc (.cells #[.int .i64 4, .int .i64 15] 178)).alloc (.cells #[.int .i64 18, .slice (some ⟨w.heap.size + 1, 0, none⟩) 1 1, .int .i64 16, .slice (some ⟨w.heap.size + 1 + 1, 0, none⟩) 1 1, .int .i64 24, .slice (some ⟨w.heap.size + 1 + 1 + 1, 0, none⟩) 1 1, .int .i64 28, .slice (some ⟨w.heap.size + 1 + 1 + 1 + 1, 0, none⟩) 1 1] 168)) fun e w' => ∃ pv, e = .returned (.pointer (some ⟨pv, 0, none⟩)) ∧ VerAt w' pv 6 ∧ Kept w w' :=
    verMake 6 w [6, 34] (18, [2, 68]) (16, [4, 27]) (24, [4, 19]) (28, [4, 15]) 2 68 rfl rfl rfl (by decide) rfl
  have HA := Lib.hid hA
  clear hA
  go_enter Tryz.func89, Tryz.ntmps89
  go_wp2_with fail
  with_reducible refine HA.out.mono ?_
  rintro _ w1 ⟨pv, rfl, h1, k1⟩
  dsimp only
  go_wp2
  go_ret
  exact ⟨pv, rfl, h1, k1⟩

set_option maxRecDepth 100000 in
set_option maxHeartbeats 8000000 in
theorem version7 (w : World) : Calls Tryz.prog 89 #[.int .i64 7] w fun e w' => ∃ pv, e = .returned (.pointer (some ⟨pv, 0, none⟩)) ∧ VerAt w' pv 7 ∧ Kept w w' := by
  have hA : Calls Tryz.prog 126 #[.int .i64 7, .slice (some ⟨w.heap.size, 0, none⟩) 3 3, .slice (some ⟨w.heap.size + 1 + 1 + 1 + 1 + 1, 0, none⟩) 4 4] ((((((w.alloc (.cells #[.int .i64 6, .int .i64 22, .int .i64 38] 3)).alloc (.cells #[.int .i64 2, .int .i64 78] 178)).alloc (.cells #[.int .i64 4, .int .i64 31] 178)).alloc (.cells #[.int .i64 2, .int .i64 14, .int .i64 4, .int .i64 15] 178)).alloc (.cells #[.int .i64 4, .int .i64 13, .int .i64 1, .int .i64 14] 178)).alloc (.cells #[.int .i64 20, .slice (some ⟨w.heap.size + 1, 0, none⟩) 1 1, .int .i64 18, .slice (some ⟨w.heap.size + 1 + 1, 0, none⟩) 1 1, .int .i64 18, .slice (some ⟨w.heap.size + 1 + 1 + 1, 0, none⟩) 2 2, .int .i64 26, .slice (some ⟨w.heap.size + 1 + 1 + 1 + 1, 0, none⟩) 2 2] 168)) fun e w' => ∃ pv, e = .returned (.pointer (some ⟨pv, 0, none⟩)) ∧ VerAt w' pv 7 ∧ Kept w w' :=
    verMake 7 w [6, 22, 38] (20, [2, 78]) (18, [4, 31]) (18, [2, 14, 4, 15]) (26, [4, 13, 1, 14]) 2 78 rfl rfl rfl (by decide) rfl
  have HA := Lib.hid hA
  clear hA
  go_enter Tryz.func89, Tryz.ntmps89
  go_wp2_with fail
  with_reducible refine HA.out.mono ?_
  rintro _ w1 ⟨pv, rfl, h1, k1⟩
  dsimp only
  go_wp2
  go_ret
  exact ⟨pv, rfl, h1, k1⟩
end Go.Proofs.YtnpkihobbcglcaaGreatDoor

/- J6: The blocks of a version: how many; the error correction words of all of them. -/
namespace Go.Proofs.YtnpkihobbcglcaaGreatDoor
open Go Go.RowKit

theorem ec_shape : ∀ v, v < 8 → 1 ≤ v → ∀ i, i < 4 → ((ecAt v i).2.length = 2 ∨ (ecAt v i).2.length = 4) ∧ (ecAt v i).2.all (· ≤ 200) = true ∧ (ecAt v i).1 ≤ 30 ∧ nbOf (ecAt v i).2 ≤ 8 := by decide

set_option maxRecDepth 100000 in
set_option maxHeartbeats 4000000 in
theorem numBlocks1 (eb i g c d : Nat) (w : World) (h1 : w.cell? ⟨eb, 2 * i + 1, none⟩ = some (.slice (some ⟨g, 0, none⟩) 1 1)) (hg : Nats w g .i64 178 [c, d]) (hc : c ≤ 200) :
    Calls Tryz.prog 52 #[.pointer (some ⟨eb, 2 * i, none⟩)] w fun e w' => e = .returned (.int .i64 (c : Nat)) ∧ Kept w w' := by
  have HG := Lib.hid hg
  clear hg
  go_enter Tryz.func52, Tryz.ntmps52
  go_wp2_with fail
  go_loopw [3, 11] (fun tv iv wr => ∃ k : Nat, k ≤ 1 ∧ iv = .int .i64 k ∧ tv = .int .i64 ((if k = 0 then 0 else c : Nat) : Int) ∧ Kept w wr) (fun _ iv _ => 1 - (intOf iv).toNat)
  case atStart => exact ⟨0, by omega, rfl, rfl, Frm.refl _ _⟩
  case round =>
    obtain ⟨k, hk, rfl, rfl, kw⟩ := hrel
    obtain rfl | rfl : k = 0 ∨ k = 1 := by omega
    · have c0 := (HG.out.frm kw (fun h => h)).cell 0 (by simp)
      have c1 := (HG.out.frm kw (fun h => h)).cell 1 (by simp)
      simp only [List.getD_cons_zero, List.getD_cons_succ] at c0 c1
      go_wp2_with (go_at_call 103; with_reducible refine (ecbCount c d _).mono ?_; rintro _ w2 ⟨rfl, k2⟩; dsimp only)
      exact ⟨⟨1, by omega, rfl, rfl, (kw.alloc _).trans k2⟩, by simp [intOf]⟩
    · go_wp2_with fail
      go_ret
      exact ⟨rfl, kw⟩

set_option maxRecDepth 100000 in
set_option maxHeartbeats 4000000 in
theorem numBlocks2 (eb i g c d e f : Nat) (w : World) (h1 : w.cell? ⟨eb, 2 * i + 1, none⟩ = some (.slice (some ⟨g, 0, none⟩) 2 2)) (hg : Nats w g .i64 178 [c, d, e, f]) (hc : c ≤ 200) (he : e ≤ 200) :
    Calls Tryz.prog 52 #[.pointer (some ⟨eb, 2 * i, none⟩)] w fun r w' => r = .returned (.int .i64 (c + e : Nat)) ∧ Kept w w' := by
  have HG := Lib.hid hg
  clear hg
  go_enter Tryz.func52, Tryz.ntmps52
  go_wp2_with fail
  go_loopw [3, 11] (fun tv iv wr => ∃ k : Nat, k ≤ 2 ∧ iv = .int .i64 k ∧ tv = .int .i64 ((if k = 0 then 0 else if k = 1 then c else c + e : Nat) : Int) ∧ Kept w wr) (fun _ iv _ => 2 - (intOf iv).toNat)
  case atStart => exact ⟨0, by omega, rfl, rfl, Frm.refl _ _⟩
  case round =>
    obtain ⟨k, hk, rfl, rfl, kw⟩ := hrel
    obtain rfl | rfl | rfl : k = 0 ∨ k = 1 ∨ k = 2 := by omega
    · have c0 := (HG.out.frm kw (fun h => h)).cell 0 (by simp)
      have c1 := (HG.out.frm kw (fun h => h)).cell 1 (by simp)
      simp only [List.getD_cons_zero, List.getD_cons_succ] at c0 c1
      go_wp2_with (go_at_call 103; with_reducible refine (ecbCount c d _).mono ?_; rintro _ w2 ⟨rfl, k2⟩; dsimp only)
      exact ⟨⟨1, by omega, rfl, rfl, (kw.alloc _).trans k2⟩, by simp [intOf]⟩
    · have c0 := (HG.out.frm kw (fun h => h)).cell 2 (by simp)
      have c1 := (HG.out.frm kw (fun h => h)).cell 3 (by simp)
      simp only [List.getD_cons_zero, List.getD_cons_succ] at c0 c1
      go_wp2_with (go_at_call 103; with_reducible refine (ecbCount e f _).mono ?_; rintro _ w2 ⟨rfl, k2⟩; dsimp only)
      refine ⟨⟨2, by omega, rfl, ?_, (kw.alloc _).trans k2⟩, by simp [intOf]⟩
      simp
    · go_wp2_with fail
      go_ret
      refine ⟨?_, kw⟩
      simp

theorem numBlocks (eb i v : Nat) (w : World) (h : ECat w eb i (ecAt v i)) (h1 : 1 ≤ v) (h7 : v ≤ 7) (hi : i < 4) :
    Calls Tryz.prog 52 #[.pointer (some ⟨eb, 2 * i, none⟩)] w fun r w' => r = .returned (.int .i64 (nbOf (ecAt v i).2 : Nat)) ∧ Kept w w' := by
  obtain ⟨hs, hall, _, _⟩ := ec_shape v (by omega) h1 i hi
  obtain ⟨g, hr, hg⟩ := h.row
  generalize (ecAt v i).2 = xs at *
  clear h
  match xs, hs with
  | [c, d], _ =>
    simp only [List.all_cons, Bool.and_eq_true, decide_eq_true_eq] at hall
    have := numBlocks1 eb i g c d w (by simpa using hr) hg hall.1
    simpa [nbOf] using this
  | [c, d, e, f], _ =>
    simp only [List.all_cons, Bool.and_eq_true, decide_eq_true_eq] at hall
    have := numBlocks2 eb i g c d e f w (by simpa using hr) hg hall.1 hall.2.2.1
    simpa [nbOf] using this

set_option maxRecDepth 100000 in
set_option maxHeartbeats 4000000 in
theorem totalEC (eb i v : Nat) (w : World) (h : ECat w eb i (ecAt v i)) (h1 : 1 ≤ v) (h7 : v ≤ 7) (hi : i < 4) :
    Calls Tryz.prog 49 #[.pointer (some ⟨eb, 2 * i, none⟩)] w fun r w' => r = .returned (.int .i64 ((ecAt v i).1 * nbOf (ecAt v i).2 : Nat)) ∧ Kept w w' := by
  obtain ⟨_, _, he, hn⟩ := ec_shape v (by omega) h1 i hi
  have hnb := fun w' (k : Kept w w') => numBlocks eb i v w' (h.kept k) h1 h7 hi
  have c0 := h.ec
  generalize (ecAt v i).1 = ec at *
  generalize nbOf (ecAt v i).2 = nb at *
  have HN := Lib.hid hnb
  clear hnb h
  have d0 : w.drew.cell? ⟨eb, 2 * i, none⟩ = some (.int .i64 ec) := c0
  have kd : Kept w w.drew := (Frm.refl _ _).drew
  obtain ⟨M, hM⟩ : ∃ M, ec * nb = M := ⟨_, rfl⟩
  have hMi : (ec : Int) * nb = M := by rw [← hM, Int.natCast_mul]
  have hMb : M ≤ 240 := by rw [← hM]; exact Nat.le_trans (Nat.mul_le_mul he hn) (by omega)
  rw [hM]
  have keep : ∀ w1 w2, (w1.cell? ⟨eb, 2 * i, none⟩ = some (.int .i64 ec) ∧ Kept w w1) → Kept w1 w2 → (w2.cell? ⟨eb, 2 * i, none⟩ = some (.int .i64 ec) ∧ Kept w w2) := fun w1 w2 h k => ⟨cell_kept h.1 k, h.2.trans k⟩
  have KEEP := Lib.hid keep
  clear keep hM
  go_enter Tryz.func49, Tryz.ntmps49
  go_wp2_with fail
  go_region_held3 (fun w' => w'.cell? ⟨eb, 2 * i, none⟩ = some (.int .i64 ec) ∧ Kept w w')
    (first | assumption | exact ⟨d0, kd⟩ | exact KEEP.out _ _ (by assumption) (by assumption))
    (first
      | (go_at_call 52; with_reducible refine (HN.out _ (And.right (by assumption))).mono ?_; rintro _ w2 ⟨rfl, k2⟩))
  have hw2 : IntKind.i64.wrap (M : Int) = M := wrapi64 _ (by omega) (by omega)
  have hH : w2.cell? ⟨eb, 2 * i, none⟩ = some (.int .i64 ec) ∧ Kept w w2 := by assumption
  have kfin := hH.2
  simp only [hMi, hw2]
  clear hMi
  go_wp2
  go_ret
  exact ⟨rfl, kfin⟩
end Go.Proofs.YtnpkihobbcglcaaGreatDoor
