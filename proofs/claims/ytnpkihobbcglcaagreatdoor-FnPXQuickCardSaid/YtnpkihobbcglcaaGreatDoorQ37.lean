/- Decoding 15: the data blocks taken apart: the walk. -/
import Derived.Test.YtnpkihobbcglcaaGreatDoorQ24
import Derived.Test.YtnpkihobbcglcaaGreatDoorQ36
set_option linter.unusedSimpArgs false
set_option linter.unusedVariables false

/- U15: Decoding 15: the data blocks taken apart: the walk. -/
namespace Go.Proofs.YtnpkihobbcglcaaGreatDoor
open Go Go.RowKit

def gK (r : Nat) : Nat := if r = 0 then 1 else 2
def gC (N r k : Nat) : Nat := if r = 0 then N else if k = 0 then N - r else r
def gPre (N r k : Nat) : Nat := if k = 0 then 0 else if k = 1 then (if r = 0 then N else N - r) else N
def groupsOf (N d r : Nat) : List Nat := if r = 0 then [N, d] else [N - r, d, r, d + 1]
theorem grp_ok : ∀ v, v < 8 → 1 ≤ v → ∀ l, l < 4 → (ecAt v (lvIx l)).2 = groupsOf (nbAt v l) (dqAt v l) (rAt v l) ∧ lvIx l < 4 := by decide +kernel
theorem grp_len (N d r : Nat) : (groupsOf N d r).length / 2 = gK r := by unfold groupsOf gK; split <;> simp
theorem grp_get (N d r k : Nat) (hk : k < gK r) : (groupsOf N d r).getD (k * 2) 0 = gC N r k ∧ (groupsOf N d r).getD (k * 2 + 1) 0 = d + k ∧ k * 2 + 1 < (groupsOf N d r).length := by
  unfold gK at hk
  unfold groupsOf gC
  split at hk
  · obtain rfl : k = 0 := by omega
    rename_i h
    simp [h]
  · rename_i h
    have : k = 0 ∨ k = 1 := by omega
    rcases this with rfl | rfl <;> simp [h]
theorem pre_zero (N r : Nat) : gPre N r 0 = 0 := rfl
theorem pre_succ (N r k : Nat) (hr : r < N) (hk : k < gK r) : gPre N r (k + 1) = gPre N r k + gC N r k := by
  unfold gK at hk
  unfold gPre gC
  split at hk
  · obtain rfl : k = 0 := by omega
    simp
  · rename_i h
    have : k = 0 ∨ k = 1 := by omega
    rcases this with rfl | rfl
    · simp [h]
    · simp [h]; omega
theorem pre_all (N r : Nat) (hr : r < N) : gPre N r (gK r) = N := by
  unfold gPre gK; split <;> simp_all
theorem pre_size (N d r k i : Nat) (hr : r < N) (hk : k < gK r) (hi : i < gC N r k) : bSize N d r (gPre N r k + i) = d + k := by
  unfold gK at hk
  unfold gC at hi
  unfold bSize gPre
  split at hk
  · obtain rfl : k = 0 := by omega
    rename_i h
    simp only [h, if_true] at hi ⊢
    rw [if_pos (by omega)]; rfl
  · rename_i h
    have : k = 0 ∨ k = 1 := by omega
    rcases this with rfl | rfl
    · simp only [h, if_false, if_true] at hi ⊢
      rw [if_pos (by omega)]; rfl
    · simp only [h, if_false] at hi ⊢
      simp at hi ⊢
theorem gC_le (N r k : Nat) (hr : r < N) : gC N r k ≤ N := by
  unfold gC
  repeat' split
  all_goals omega

theorem pre_le (N r k : Nat) : gPre N r k ≤ N := by
  unfold gPre
  repeat' split
  all_goals omega
theorem ecPer2 (eb i : Nat) (u : Value) (w : World) (c : w.cell? ⟨eb, 2 * i, none⟩ = some u) : Calls Tryz.prog 162 #[.pointer (some ⟨eb, 2 * i, none⟩)] w fun e w' => e = .returned u ∧ w = w' := by
  go_enter Tryz.func162, Tryz.ntmps162
  go_wp2
  go_ret
  exact ⟨rfl, rfl⟩

theorem newBlock (n c len : Nat) (w : World) : Calls Tryz.prog 214 #[.int .i64 n, .slice (some ⟨c, 0, none⟩) len len] w fun e w' => e = .returned (.pointer (some ⟨w.heap.size, 0, none⟩)) ∧ Blk w' w.heap.size #[.int .i64 n, .slice (some ⟨c, 0, none⟩) len len] 325 ∧ Kept w w' := by
  go_enter Tryz.func214, Tryz.ntmps214
  go_wp2
  have hb := Blk.new w #[.int .i64 n, .slice (some ⟨c, 0, none⟩) len len] 325
  have ka : Kept w (w.alloc (.cells #[.int .i64 n, .slice (some ⟨c, 0, none⟩) len len] 325)) := (Frm.refl _ _).alloc _
  go_ret
  exact ⟨rfl, hb, ka⟩

set_option maxRecDepth 100000 in
set_option maxHeartbeats 16000000 in
theorem dataBlocks (rb pv v l : Nat) (C : List Nat) (w : World) (hC : Nats w rb .u8 5 C) (hCl : C.length = totalCw v) (hv : VerAt w pv v) (h1 : 1 ≤ v) (h7 : v ≤ 7) (hl : l < 4) :
    Calls Tryz.prog 185 #[.slice (some ⟨rb, 0, none⟩) (totalCw v) (totalCw v), .pointer (some ⟨pv, 0, none⟩), .int .i64 l] w fun e w' => ∃ R bs cs ys, e = .returned (.tuple #[.slice (some ⟨R, 0, none⟩) (nbAt v l) (nbAt v l), .nilIface]) ∧
      DB w' R (nbAt v l) (nbAt v l) w.heap.size (bSize (nbAt v l) (dqAt v l) (rAt v l)) (fun j => bSize (nbAt v l) (dqAt v l) (rAt v l) j + ecOf v l) bs cs ys ∧ (∀ j, j < nbAt v l → ys j = blkW C (nbAt v l) (dqAt v l) (rAt v l) (ecOf v l) j) ∧ Kept w w' := by
  obtain ⟨b1, b2, b3, b4⟩ := block_ok1 v (by omega) h1 l hl
  obtain ⟨b5, b6, b7, b8⟩ := block_ok2 v (by omega) h1 l hl
  obtain ⟨hgrp, hlv⟩ := grp_ok v (by omega) h1 l hl
  have ht := totalWords pv v w hv
  obtain ⟨eb, e1, e2⟩ := hv.blk
  have hfl := forLevel pv v l eb w hl e1
  have hec := e2 (lvIx l) hlv
  obtain ⟨g, g1, g2⟩ := hec.row
  have hep := hec.ec
  rw [hgrp] at g1 g2
  rw [grp_len] at g1
  have hecd : (ecAt v (lvIx l)).1 = ecOf v l := rfl
  rw [hecd] at hep
  have hebo := ecBlocksOf eb (lvIx l) _ w g1
  generalize lvIx l = ix at *
  have hcell : ∀ k, k < gK (rAt v l) → w.cell? ⟨g, k * 2, none⟩ = some (.int .i64 (gC (nbAt v l) (rAt v l) k : Nat)) ∧ w.cell? ⟨g, k * 2 + 1, none⟩ = some (.int .i64 (dqAt v l + k : Nat)) := fun k hk => by
    obtain ⟨x1, x2, x3⟩ := grp_get (nbAt v l) (dqAt v l) (rAt v l) k hk
    exact ⟨by rw [g2.cell _ (by omega), x1], by rw [g2.cell _ x3, x2]⟩
  have hpz := pre_zero (nbAt v l) (rAt v l)
  have hps := fun k => pre_succ (nbAt v l) (rAt v l) k b3
  have hpa := pre_all (nbAt v l) (rAt v l) b3
  have hpb := fun k i => pre_size (nbAt v l) (dqAt v l) (rAt v l) k i b3
  have hcl := fun k => gC_le (nbAt v l) (rAt v l) k b3
  have hpl := fun k => pre_le (nbAt v l) (rAt v l) k
  have hK2 : gK (rAt v l) ≤ 2 := by unfold gK; split <;> omega
  generalize totalCw v = tot at *
  generalize nbAt v l = N at *
  generalize dqAt v l = dq at *
  generalize rAt v l = r at *
  generalize ecOf v l = ec at *
  generalize hgc : gC N r = cG at *
  generalize gPre N r = pre at *
  generalize gK r = K at *
  have HT := Lib.hid ht
  have HFL := Lib.hid hfl
  have HEBO := Lib.hid hebo
  have HEP := Lib.hid hep
  have HCELL := Lib.hid hcell
  have HPL := Lib.hid hpl
  have HPZ := Lib.hid hpz
  have HPS := Lib.hid hps
  have HPA := Lib.hid hpa
  have HPB := Lib.hid hpb
  have HCL := Lib.hid hcl
  have HC := Lib.hid hC
  have HCLEN := Lib.hid hCl
  have HB1 := Lib.hid b1
  have HB2 := Lib.hid b2
  clear ht hfl hebo hep hcell hpl hpz hps hpa hpb hcl hC hCl hgrp hecd hec e1 e2 g1 g2 hv hgc b1 b2
  go_enter Tryz.func185, Tryz.ntmps185
  go_wp2_with fail
  with_reducible refine HT.out.mono ?_
  rintro _ _ ⟨rfl, rfl⟩
  dsimp only
  go_wp2_with fail
  with_reducible refine HFL.out.mono ?_
  rintro _ _ ⟨rfl, rfl⟩
  dsimp only
  go_wp2_with fail
  with_reducible refine HEBO.out.mono ?_
  rintro _ _ ⟨rfl, rfl⟩
  dsimp only
  go_wp2_with fail
  go_loopw [9, 12, 45] (fun tv _ kv wr => ∃ k : Nat, k ≤ K ∧ kv = .int .i64 k ∧ tv = .int .i64 (pre k : Nat) ∧ Kept w wr) (fun _ _ kv _ => K - (intOf kv).toNat)
  case atStart => exact ⟨0, Nat.zero_le _, rfl, by rw [HPZ.out]; rfl, Frm.refl _ _⟩
  case round =>
    obtain ⟨k, hk, rfl, rfl, kw⟩ := hrel
    by_cases hkK : k < K
    · have hd : decide ((k : Int) < K) = true := by simp; omega
      obtain ⟨x1, x2⟩ := HCELL.out k hkK
      have c0 := cell_kept x1 kw
      have c1 := cell_kept x2 kw
      clear x1 x2
      have hps := HPS.out k hkK
      have hpl := HPL.out (k + 1)
      rw [hps] at hpl
      generalize cG k = ck at *
      have hcn := ecbCount ck (dq + k) (wr.alloc (.cells #[.int .i64 ck, .int .i64 ((dq : Int) + k)] 178))
      simp only [Int.natCast_add] at hcn
      have ka : Kept wr (wr.alloc (.cells #[.int .i64 ck, .int .i64 ((dq : Int) + k)] 178)) := (Frm.refl _ _).alloc _
      generalize hpk : pre (k + 1) = pk1 at *
      have HPK := Lib.hid hpk
      have HPS2 := Lib.hid hps
      generalize pre k = pk at *
      have HCN := Lib.hid hcn
      have HKA := Lib.hid (kw.trans ka)
      clear hps hcn hpk ka
      go_wp2_with fail
      with_reducible refine HCN.out.mono ?_
      rintro _ w2 ⟨rfl, k2⟩
      have HK2 := Lib.hid (HKA.out.trans k2)
      clear HCN k2 c0 c1 kw HKA
      dsimp only
      go_wp2
      exact ⟨⟨k + 1, by omega, by go_num, by rw [HPK.out, HPS2.out]; go_num, HK2.out⟩, by simp [intOf]; omega⟩
    · obtain rfl : k = K := by omega
      have hd : decide ((k : Int) < k) = false := by simp
      rw [HPA.out]
      have hmk := run_make_one 296 299 (.pointer none) 8 (by kernel_rfl) (by kernel_rfl) rfl N (by omega) (by omega) wr
      have hst := DB.start wr N w.heap.size (bSize N dq r) (fun j => bSize N dq r j + ec) kw.size
      have ka : Kept wr (wr.alloc (.cells (Array.replicate N (.pointer none)) 299)) := (Frm.refl _ _).alloc _
      have HKA := Lib.hid (kw.trans ka)
      have HKW0 := Lib.hid kw.size
      clear kw ka
      go_wp2_with fail
      generalize wr.alloc (.cells (Array.replicate N (.pointer none)) 299) = wz at *
      generalize hR : wr.heap.size = R at *
      have HST := Lib.hid hst
      have hRw : w.heap.size ≤ R := HKW0.out
      have HRW := Lib.hid hRw
      clear hst hmk hR hRw HKW0
      go_loopw [14, 16, 17, 18, 19, 58] (fun tv _ _ _ _ kv wr => ∃ (j : Nat) (bs cs : Nat → Nat) (ys : Nat → List Nat), j ≤ k ∧ kv = .int .i64 j ∧ tv = .int .i64 (pre j : Nat) ∧ DB wr R (pre j) N w.heap.size (bSize N dq r) (fun j => bSize N dq r j + ec) bs cs ys ∧ Kept w wr) (fun _ _ _ _ _ kv _ => k - (intOf kv).toNat)
      case atStart => exact ⟨0, _, _, _, Nat.zero_le _, rfl, by rw [HPZ.out]; rfl, by rw [HPZ.out]; exact HST.out, HKA.out⟩
      case round =>
        obtain ⟨j, bs, cs, ys, hj, rfl, rfl, hdb, kw⟩ := hrel
        have HDB := Lib.hid hdb
        clear hdb
        by_cases hjk : j < k
        · have hd : decide ((j : Int) < k) = true := by simp; omega
          obtain ⟨x1, x2⟩ := HCELL.out j hjk
          have c0 := cell_kept x1 kw
          have c1 := cell_kept x2 kw
          clear x1 x2
          have hps := HPS.out j hjk
          have hpl := HPL.out (j + 1)
          rw [hps] at hpl
          have hpb := HPB.out j
          generalize cG j = ck at *
          generalize hpk : pre (j + 1) = pk1 at *
          generalize pre j = pk at *
          have HPK := Lib.hid hpk
          have HPS2 := Lib.hid hps
          have HPB2 := Lib.hid hpb
          have HKW := Lib.hid kw
          clear hps hpk hpb kw
          have hbm := Blk.new wr #[.int .i64 ck, .int .i64 ((dq : Int) + j)] 178
          have ka : Kept wr (wr.alloc (.cells #[.int .i64 ck, .int .i64 ((dq : Int) + j)] 178)) := (Frm.refl _ _).alloc _
          go_upto_region 16 with fail
          generalize wr.alloc (.cells #[.int .i64 ck, .int .i64 ((dq : Int) + j)] 178) = wa at *
          generalize hmm : wr.heap.size = mm at *
          have HBM := Lib.hid hbm
          have HDA := Lib.hid (HDB.out.kept ka)
          have HKA2 := Lib.hid (HKW.out.trans ka)
          clear hmm hbm ka c0 c1 HDB HKW
          have hRa : R < wa.heap.size := HDA.out.lt
          have hmR : mm ≠ R := by
            obtain ⟨vs, t1, _⟩ := HDA.out.tab
            exact Blk.ne HBM.out t1 (by decide)
          have hcn := fun wx => ecbCount ck (dq + j) wx
          have hdn := fun wx => ecbData ck (dq + j) wx
          simp only [Int.natCast_add] at hcn hdn
          have HCN := Lib.hid hcn
          have HDN := Lib.hid hdn
          clear hcn hdn
          go_wp2_with fail
          go_loopw [14, 17, 18, 19] (fun tv iv _ _ wr => ∃ (i : Nat) (bs cs : Nat → Nat) (ys : Nat → List Nat), i ≤ ck ∧ iv = .int .i64 i ∧ tv = .int .i64 (pk + i : Nat) ∧ DB wr R (pk + i) N w.heap.size (bSize N dq r) (fun j => bSize N dq r j + ec) bs cs ys ∧ Kept w wr ∧ Frm (fun x => x = R) wa wr) (fun _ iv _ _ _ => ck - (intOf iv).toNat)
          case atStart => exact ⟨0, bs, cs, ys, Nat.zero_le _, rfl, rfl, HDA.out, HKA2.out, Frm.refl _ _⟩
          case round =>
            clear HDA HKA2
            obtain ⟨i, bs, cs, ys, hi, rfl, rfl, hdb, kw, fR⟩ := hrel
            have hmb := HBM.out.frm fR hmR
            have m0 := hmb.cell 0
            have m1 := hmb.cell 1
            simp only [List.getElem?_toArray, List.getElem?_cons_zero, List.getElem?_cons_succ] at m0 m1
            have HMB := Lib.hid hmb
            have HDB := Lib.hid hdb
            have HKW := Lib.hid kw
            have HFR := Lib.hid fR
            clear hmb hdb kw fR
            go_wp2_with fail
            with_reducible refine (HCN.out _).mono ?_
            rintro _ w2 ⟨rfl, k2⟩
            dsimp only
            by_cases hic : i < ck
            · have hd2 : decide ((i : Int) < ck) = true := by simp; omega
              have n0 := cell_kept m0 k2
              have n1 := cell_kept m1 k2
              clear m0 m1
              go_wp2_with fail
              with_reducible refine (HDN.out _).mono ?_
              rintro _ w3 ⟨rfl, k3⟩
              have k13 := k2.trans k3
              have hce := cell_kept HEP.out (HKW.out.trans k13)
              have hep := ecPer2 eb ix _ w3 hce
              have HEP3 := Lib.hid hep
              have hbz := HPB2.out i hjk hic
              have hmk := run_make_ints 32 5 .u8 1 (by kernel_rfl) info5 (ec + (dq + j)) (by omega) (by omega) w3
              simp only [Int.natCast_add] at hmk
              have hz0 := Nats.new w3 .u8 5 (List.replicate (ec + (dq + j)) 0)
              have k4 : Kept w3 (w3.alloc (.cells (natCells .u8 (List.replicate (ec + (dq + j)) 0)) 5)) := (Frm.refl _ _).alloc _
              have hszw : wr.heap.size ≤ w3.heap.size := k13.size
              have HK13 := Lib.hid k13
              have HBZ := Lib.hid hbz
              clear hce hep k2 k3 n0 n1 k13 hbz
              dsimp only
              go_wp2_with fail
              with_reducible refine HEP3.out.mono ?_
              rintro _ _ ⟨rfl, rfl⟩
              dsimp only
              go_wp2_with fail
              have hnb := newBlock (dq + j) w3.heap.size (ec + (dq + j)) (w3.alloc (.cells (natCells .u8 (List.replicate (ec + (dq + j)) 0)) 5))
              simp only [Int.natCast_add] at hnb
              generalize w3.alloc (.cells (natCells .u8 (List.replicate (ec + (dq + j)) 0)) 5) = w4 at *
              generalize hcc : w3.heap.size = cc at *
              have HNB := Lib.hid hnb
              have HZ0 := Lib.hid hz0
              have HK4 := Lib.hid (HK13.out.trans k4)
              clear hnb hmk k4 hz0 HK13 HEP3
              with_reducible refine HNB.out.mono ?_
              rintro _ w5 ⟨rfl, hb5, k5⟩
              generalize w4.heap.size = bb at *
              have k15 := HK4.out.trans k5
              have hpu := DB.push (zs := List.replicate (ec + (dq + j)) 0) (w2 := w5.setCell ⟨R, pk + i, none⟩ (.pointer (some ⟨bb, 0, none⟩))) HDB.out k15 (HZ0.out.frm k5 (fun h => h)) (by rw [List.length_replicate]; show _ = bSize N dq r (pk + i) + ec; rw [HBZ.out]; omega) (by omega) HKW.out.size (by omega) (by
                show Blk w5 bb #[.int .i64 (bSize N dq r (pk + i) : Nat), .slice (some ⟨cc, 0, none⟩) (bSize N dq r (pk + i) + ec) (bSize N dq r (pk + i) + ec)] 325
                rw [HBZ.out, show dq + j + ec = ec + (dq + j) by omega, Int.natCast_add]
                exact hb5) rfl
              obtain ⟨⟨ov, hov⟩, hfz⟩ := HDB.out.slot (pk + i) (by omega)
              have hov5 := cell_kept hov k15
              have hfz5 : w5.frozen? ⟨R, pk + i, none⟩ = false := by rw [k15.frozen HDB.out.lt (fun h => h)]; exact hfz
              have hfR5 : Frm (fun x => x = R) wa (w5.setCell ⟨R, pk + i, none⟩ (.pointer (some ⟨bb, 0, none⟩))) := (HFR.out.trans (Kept.toFrm k15)).setCell (p := ⟨R, pk + i, none⟩) (.inl rfl) _
              have hkw5 : Kept w (w5.setCell ⟨R, pk + i, none⟩ (.pointer (some ⟨bb, 0, none⟩))) := (HKW.out.trans k15).setCell (p := ⟨R, pk + i, none⟩) (.inr HRW.out) _
              have HPU := Lib.hid hpu
              have HFR5 := Lib.hid hfR5
              have HKW5 := Lib.hid hkw5
              clear hpu hfR5 hkw5 hb5 k5 k15 hov hfz HDB HKW HFR HMB HZ0 HNB HK4 HBZ
              dsimp only
              go_wp2
              exact ⟨⟨i + 1, _, _, _, by omega, by go_num, by go_num, HPU.out, HKW5.out, HFR5.out⟩, by simp [intOf]; omega⟩
            · obtain rfl : i = ck := by omega
              have hd2 : decide ((i : Int) < i) = false := by simp
              have hdb := HDB.out.kept k2
              rw [← HPS2.out, ← HPK.out] at hdb
              have HDB2 := Lib.hid hdb
              have HKW2 := Lib.hid (HKW.out.trans k2)
              have hpks : ((pk : Int) + i) = (pre (j + 1) : Nat) := by rw [HPK.out, HPS2.out]; omega
              have HPKS := Lib.hid hpks
              clear hdb k2 HDB HKW HMB HFR hpks m0 m1
              go_wp2
              exact ⟨⟨j + 1, _, _, _, by omega, by go_num, congrArg (Value.int .i64) HPKS.out, HDB2.out, HKW2.out⟩, by simp [intOf]; omega⟩
        · obtain rfl : j = k := by omega
          have hd : decide ((j : Int) < j) = false := by simp
          rw [HPA.out] at HDB
          rw [HPA.out]
          obtain ⟨Q, hQ⟩ : ∃ Q, dq * N = Q := ⟨_, rfl⟩
          obtain ⟨E, hE⟩ : ∃ E, ec * N = E := ⟨_, rfl⟩
          have htt : tot = Q + E + r := by rw [HB1.out, Nat.mul_add, Nat.mul_comm N dq, Nat.mul_comm N ec, hQ, hE]
          have hQb : Q ≤ 2000 := by rw [← hQ]; exact Nat.le_trans (Nat.mul_le_mul b6 b4) (by omega)
          have hEb : E ≤ 310 := by rw [← hE]; exact Nat.le_trans (Nat.mul_le_mul (show ec ≤ 31 by omega) b4) (by omega)
          have HTT := Lib.hid htt
          have HQQ := Lib.hid hQ
          have HEE := Lib.hid hE
          have hbs : ∀ j, bSize N dq r j = if j < N - r then dq else dq + 1 := fun _ => rfl
          have HBS := Lib.hid hbs
          have hs0 : bSize N dq r 0 + ec = dq + ec := by rw [hbs, if_pos (by omega)]
          have HKW := Lib.hid kw
          obtain ⟨z1, -, z3⟩ := HDB.out.ptr 0 (by omega)
          have hz3 : wr.cell? ⟨bs 0, 1, none⟩ = some (.slice (some ⟨cs 0, 0, none⟩) (dq + ec : Nat) (dq + ec : Nat)) := by rw [← hs0]; exact z3
          generalize hb0 : bs 0 = b0 at z1 hz3
          generalize hc0 : cs 0 = c0' at hz3
          have HB0 := Lib.hid hb0
          have HC0 := Lib.hid hc0
          clear hQ hE htt hbs hs0 kw hb0 hc0 z3 HEBO HCELL HPS HPA HPB HPL HPZ HCL HT HFL HKA HST HB1
          go_wp2_with fail
          go_loopw [21, 22] (fun lv _ wx => wr = wx ∧ ∃ L : Nat, N - r - 1 ≤ L ∧ L ≤ N - 1 ∧ lv = .int .i64 L) (fun lv _ _ => (intOf lv).toNat)
          case atStart => exact ⟨rfl, N - 1, by omega, Nat.le_refl _, by go_num⟩
          case round =>
            obtain ⟨rfl, L, hL1, hL2, rfl⟩ := hrel
            have hdL : decide ((0 : Int) ≤ L) = true := by simp
            obtain ⟨p1, -, p3⟩ := HDB.out.ptr L (by omega)
            by_cases hLr : L < N - r
            · have hsz : bSize N dq r L + ec = dq + ec := by rw [HBS.out, if_pos hLr]
              have hp3 : wr.cell? ⟨bs L, 1, none⟩ = some (.slice (some ⟨cs L, 0, none⟩) (dq + ec : Nat) (dq + ec : Nat)) := by rw [← hsz]; exact p3
              generalize bs L = bL at p1 hp3
              generalize cs L = cL at hp3
              obtain rfl : L = N - r - 1 := by omega
              have hL' : ((N - r - 1 : Nat) : Int) + 1 = (N : Int) - r := by omega
              have hce := cell_kept HEP.out HKW.out
              have hep := ecPer2 eb ix _ wr hce
              have HEP3 := Lib.hid hep
              clear hsz p3 hce hep
              have d9 : (((dq : Int) + ec) == (dq : Int) + ec) = true := by simp
              go_wp2_with fail
              with_reducible refine HEP3.out.mono ?_
              rintro _ _ ⟨rfl, rfl⟩
              clear HEP3
              dsimp only
              clear p1 hp3 z1 hz3
              go_wp2_with fail
              have htb : tot ≤ 2400 := by have := HTT.out; omega
              clear HB0 HC0 hk hkK hj hjk hd hL1 hL2 hdL hLr d9
              go_loopw [24, 25, 26] (fun ov iv _ wx => ∃ (i o : Nat) (ys : Nat → List Nat), i ≤ dq ∧ iv = .int .i64 i ∧ ov = .int .i64 o ∧ o = i * N ∧ DB wx R N N w.heap.size (bSize N dq r) (fun j => bSize N dq r j + ec) bs cs ys ∧ Filled ys C N dq r (fun _ t => t < i) ∧ Kept w wx) (fun _ iv _ _ => dq - (intOf iv).toNat)
              case atStart => exact ⟨0, 0, ys, Nat.zero_le _, rfl, rfl, by omega, HDB.out, fun _ t _ ht => absurd ht (by omega), HKW.out⟩
              case round =>
                clear HDB HKW ys
                obtain ⟨i, o, ys, hi, rfl, rfl, ho, hdb, hfl2, kw⟩ := hrel
                by_cases hid : i < dq
                · have hd1 : decide ((i : Int) < dq) = true := by simp; omega
                  have hiq : i * N + N ≤ Q := by rw [← HQQ.out, ← Nat.succ_mul]; exact Nat.mul_le_mul_right _ (by omega)
                  have hin : o + N = (i + 1) * N := by rw [ho, Nat.succ_mul]
                  rw [← ho] at hiq
                  have HO := Lib.hid ho
                  have HIN := Lib.hid hin
                  have HDB := Lib.hid hdb
                  have HFL := Lib.hid hfl2
                  have HKW := Lib.hid kw
                  clear ho hin hdb hfl2 kw
                  go_wp2_with fail
                  go_loopw [24, 26] (fun ov jv wx => ∃ (J o2 : Nat) (ys : Nat → List Nat), J ≤ N ∧ jv = .int .i64 J ∧ ov = .int .i64 o2 ∧ o2 = o + J ∧ DB wx R N N w.heap.size (bSize N dq r) (fun j => bSize N dq r j + ec) bs cs ys ∧ Filled ys C N dq r (fun a t => t < i ∨ t = i ∧ a < J) ∧ Kept w wx) (fun _ jv _ => N - (intOf jv).toNat)
                  case atStart => exact ⟨0, o, ys, Nat.zero_le _, rfl, rfl, rfl, HDB.out, HFL.out.weak (fun a t _ h => by omega), HKW.out⟩
                  case round =>
                    clear HDB HFL HKW ys
                    obtain ⟨J, o2, ys, hJ, rfl, rfl, ho2, hdb, hfl2, kw⟩ := hrel
                    have HO2 := Lib.hid ho2
                    by_cases hJN : J < N
                    · have hd2 : decide ((J : Int) < N) = true := by simp; omega
                      have hot : o2 < tot := by have := HTT.out; omega
                      have hix : srcIx N dq r J i = o2 := by
                        unfold srcIx; rw [if_pos hid, ho2, HO.out]
                      have hsz2 := HBS.out J
                      have hsw : i < bSize N dq r J + ec := by rw [hsz2]; split <;> omega
                      clear ho2 hsz2
                      obtain ⟨p1, -, p3⟩ := hdb.ptr J hJN
                      have hrow := hdb.row J hJN
                      have hlen : i < (ys J).length := by rw [hrow.2]; exact hsw
                      have hsj : i < bSize N dq r J + ec := by rw [hrow.2] at hlen; exact hlen
                      have cw := hrow.1.cell (i) hlen
                      have fw := hrow.1.free (i)
                      have cC := (HC.out.frm kw (fun h => h)).cell o2 (by rw [HCLEN.out]; exact hot)
                      have hfil := hfl2.write (F' := fun a t => t < i ∨ t = i ∧ a < J + 1) J (i) (C.getD o2 0) hlen (by rw [hix]) (fun a t ha ht => by omega)
                      have hwr := fun n => (hdb.kept ((Frm.refl (fun _ => False) wr).drewN n)).write J (i) (C.getD o2 0) hJN
                      have hkk := fun n => (kw.drewN n).setCell (p := ⟨cs J, i, none⟩) (.inr (hdb.new J hJN)) (.int .u8 ((C.getD o2 0 : Nat) : Int))
                      have HFIL := Lib.hid hfil
                      have HWR := Lib.hid hwr
                      have HKK := Lib.hid hkk
                      clear hrow hlen hfil hwr hkk hdb kw hfl2
                      generalize (ys J).getD (i) 0 = old at cw
                      generalize hval : C.getD o2 0 = val at cC HFIL HWR HKK
                      generalize bs J = bj at p1 p3
                      generalize hcj : cs J = cj at p3 cw fw HWR HKK
                      generalize hsz : bSize N dq r J + ec = sj at p3 hsj
                      clear hval hcj hsz
                      clear hix
                      go_wp2_with fail
                      refine wp_region_quiet_tail 13 (by kernel_rfl) (by kernel_rfl) ?_
                      simp only [List.take_succ_cons, List.take_zero, List.drop_succ_cons, List.drop_zero]
                      repeat (go_big_quiet_step (fail))
                      refine wpQuiet_nil ?_
                      intro _ hw'
                      obtain ⟨nq, hw''⟩ := hw'
                      subst hw''
                      go_wp2
                      exact ⟨⟨J + 1, o2 + 1, _, by omega, by go_num, by go_num, by have := HO2.out; omega, HWR.out _, HFIL.out, HKK.out _⟩, by simp [intOf]; omega⟩
                    · obtain rfl : J = N := by omega
                      have hd2 : decide ((J : Int) < J) = false := by simp
                      have HDB := Lib.hid hdb
                      have HFL := Lib.hid (hfl2.weak (F' := fun _ t => t < i + 1) (fun a t ha h => by omega))
                      have HKW := Lib.hid kw
                      clear ho2 hdb hfl2 kw
                      go_wp2
                      exact ⟨⟨i + 1, o2, ys, by omega, by go_num, rfl, by rw [HO2.out]; exact HIN.out, HDB.out, HFL.out, HKW.out⟩, by simp [intOf]; omega⟩
                · obtain rfl : i = dq := by omega
                  have hd1 : decide ((i : Int) < i) = false := by simp
                  rw [HQQ.out] at ho
                  subst ho
                  have HDB := Lib.hid hdb
                  have HFL := Lib.hid hfl2
                  have HKW := Lib.hid kw
                  clear hdb hfl2 kw
                  go_wp2_with fail
                  go_loopw [24, 27] (fun ov jv wx => ∃ (J o2 : Nat) (ys : Nat → List Nat), N - r ≤ J ∧ J ≤ N ∧ jv = .int .i64 J ∧ ov = .int .i64 o2 ∧ o2 = o + (J - (N - r)) ∧ DB wx R N N w.heap.size (bSize N i r) (fun j => bSize N i r j + ec) bs cs ys ∧ Filled ys C N i r (fun a t => t < i ∨ t = i ∧ N - r ≤ a ∧ a < J) ∧ Kept w wx) (fun _ jv _ => N - (intOf jv).toNat)
                  case atStart => exact ⟨N - r, o, ys, Nat.le_refl _, by omega, by go_num, rfl, by omega, HDB.out, HFL.out.weak (fun a t _ h => by omega), HKW.out⟩
                  case round =>
                    clear HDB HFL HKW ys
                    obtain ⟨J, o2, ys, hJ0, hJ, rfl, rfl, ho2, hdb, hfl2, kw⟩ := hrel
                    have HO2 := Lib.hid ho2
                    by_cases hJN : J < N
                    · have hd2 : decide ((J : Int) < N) = true := by simp; omega
                      have hot : o2 < tot := by have := HTT.out; omega
                      have hix : srcIx N i r J i = o2 := by
                        unfold srcIx; rw [if_neg (by omega), if_neg (by omega), if_pos rfl, ho2, HQQ.out]
                      have hsz2 := HBS.out J
                      rw [if_neg (by omega)] at hsz2
                      have hsw : i < bSize N i r J + ec := by rw [hsz2]; omega
                      clear ho2 hsz2
                      obtain ⟨p1, -, p3⟩ := hdb.ptr J hJN
                      have hrow := hdb.row J hJN
                      have hlen : i < (ys J).length := by rw [hrow.2]; exact hsw
                      have hsj : i < bSize N i r J + ec := by rw [hrow.2] at hlen; exact hlen
                      have cw := hrow.1.cell (i) hlen
                      have fw := hrow.1.free (i)
                      have cC := (HC.out.frm kw (fun h => h)).cell o2 (by rw [HCLEN.out]; exact hot)
                      have hfil := hfl2.write (F' := fun a t => t < i ∨ t = i ∧ N - r ≤ a ∧ a < J + 1) J (i) (C.getD o2 0) hlen (by rw [hix]) (fun a t ha ht => by omega)
                      have hwr := fun n => (hdb.kept ((Frm.refl (fun _ => False) wr).drewN n)).write J (i) (C.getD o2 0) hJN
                      have hkk := fun n => (kw.drewN n).setCell (p := ⟨cs J, i, none⟩) (.inr (hdb.new J hJN)) (.int .u8 ((C.getD o2 0 : Nat) : Int))
                      have HFIL := Lib.hid hfil
                      have HWR := Lib.hid hwr
                      have HKK := Lib.hid hkk
                      clear hrow hlen hfil hwr hkk hdb kw hfl2
                      generalize (ys J).getD (i) 0 = old at cw
                      generalize hval : C.getD o2 0 = val at cC HFIL HWR HKK
                      generalize bs J = bj at p1 p3
                      generalize hcj : cs J = cj at p3 cw fw HWR HKK
                      generalize hsz : bSize N i r J + ec = sj at p3 hsj
                      clear hval hcj hsz
                      clear hix
                      go_wp2_with fail
                      refine wp_region_quiet_tail 13 (by kernel_rfl) (by kernel_rfl) ?_
                      simp only [List.take_succ_cons, List.take_zero, List.drop_succ_cons, List.drop_zero]
                      repeat (go_big_quiet_step (fail))
                      refine wpQuiet_nil ?_
                      intro _ hw'
                      obtain ⟨nq, hw''⟩ := hw'
                      subst hw''
                      go_wp2
                      exact ⟨⟨J + 1, o2 + 1, _, by omega, by omega, by go_num, by go_num, by have := HO2.out; omega, HWR.out _, HFIL.out, HKK.out _⟩, by simp [intOf]; omega⟩
                    · obtain rfl : J = N := by omega
                      have hd2 : decide ((J : Int) < J) = false := by simp
                      have ho3 : o2 = o + r := by omega
                      subst ho3
                      have hs0 : bSize J i r 0 + ec = i + ec := by rw [HBS.out, if_pos (by omega)]
                      obtain ⟨z1, -, z3⟩ := hdb.ptr 0 (by omega)
                      have hz3 : wr.cell? ⟨bs 0, 1, none⟩ = some (.slice (some ⟨cs 0, 0, none⟩) (i + ec : Nat) (i + ec : Nat)) := by rw [← hs0]; exact z3
                      generalize bs 0 = b0 at z1 hz3
                      generalize cs 0 = c0 at hz3
                      have HDB := Lib.hid hdb
                      have HFL := Lib.hid (hfl2.weak (F' := fun a t => t < bSize J i r a) (fun a t ha h => by
                        have h2 := HBS.out a
                        have h3 : t < bSize J i r a := h
                        rw [h2] at h3
                        split at h3 <;> omega))
                      have HKW := Lib.hid kw
                      clear ho2 hdb hfl2 kw hs0 z3
                      go_wp2_with fail
                      clear z1 hz3
                      go_loopw [24, 29, 30, 31] (fun ov iv _ _ wx => ∃ (e o2 : Nat) (ys : Nat → List Nat), e ≤ ec ∧ iv = .int .i64 (i + e : Nat) ∧ ov = .int .i64 o2 ∧ o2 = o + r + e * J ∧ DB wx R J J w.heap.size (bSize J i r) (fun j => bSize J i r j + ec) bs cs ys ∧ Filled ys C J i r (fun a t => t < bSize J i r a + e) ∧ Kept w wx) (fun _ iv _ _ _ => (i + ec - intOf iv).toNat)
                      case atStart => exact ⟨0, o + r, ys, Nat.zero_le _, rfl, by go_num, by omega, HDB.out, HFL.out, HKW.out⟩
                      case round =>
                        clear HDB HFL HKW ys HO2
                        obtain ⟨e, o2, ys, he, rfl, rfl, ho2, hdb, hfl2, kw⟩ := hrel
                        by_cases hec : e < ec
                        · have hd3 : decide ((i : Int) + e < (i : Int) + ec) = true := by simp; omega
                          have hiq : e * J + J ≤ E := by rw [← HEE.out, ← Nat.succ_mul]; exact Nat.mul_le_mul_right _ (by omega)
                          have hin : o2 + J = o + r + (e + 1) * J := by rw [ho2, Nat.succ_mul]; omega
                          have hio : o2 + J ≤ tot := by have := HTT.out; omega
                          have HO := Lib.hid ho2
                          have HIN := Lib.hid hin
                          have HDB := Lib.hid hdb
                          have HFL := Lib.hid hfl2
                          have HKW := Lib.hid kw
                          clear ho2 hin hdb hfl2 kw hiq
                          go_wp2_with fail
                          go_loopw [24, 30, 31] (fun ov jv _ wx => ∃ (K o3 : Nat) (ys : Nat → List Nat), K ≤ J ∧ jv = .int .i64 K ∧ ov = .int .i64 o3 ∧ o3 = o2 + K ∧ DB wx R J J w.heap.size (bSize J i r) (fun j => bSize J i r j + ec) bs cs ys ∧ Filled ys C J i r (fun a t => t < bSize J i r a + e ∨ t = bSize J i r a + e ∧ a < K) ∧ Kept w wx) (fun _ jv _ _ => J - (intOf jv).toNat)
                          case atStart => exact ⟨0, o2, ys, Nat.zero_le _, rfl, rfl, rfl, HDB.out, HFL.out.weak (fun a t _ h => by omega), HKW.out⟩
                          case round =>
                            clear HDB HFL HKW ys
                            obtain ⟨K, o3, ys, hK, rfl, rfl, ho3, hdb, hfl2, kw⟩ := hrel
                            have HO3 := Lib.hid ho3
                            by_cases hKJ : K < J
                            · have hd4 : decide ((K : Int) < J) = true := by simp; omega
                              have hot : o3 < tot := by omega
                              have hsz2 := HBS.out K
                              have hix : srcIx J i r K (bSize J i r K + e) = o3 := by
                                have hO := HO.out
                                unfold srcIx
                                rw [hsz2]
                                by_cases hKr : K < J - r
                                · rw [if_pos hKr, if_neg (by omega), if_pos hKr, HQQ.out, show i + e - i = e by omega]; omega
                                · rw [if_neg hKr, if_neg (by omega), if_neg hKr, if_neg (by omega), HQQ.out, show i + 1 + e - 1 - i = e by omega]; omega
                              have hsw : bSize J i r K + e < bSize J i r K + ec := by omega
                              clear ho3
                              by_cases hKr : K < J - r
                              all_goals
                                first
                                  | (have d8 : decide ((J : Int) - r ≤ K) = false := by simp; omega)
                                  | (have d8 : decide ((J : Int) - r ≤ K) = true := by simp; omega)
                                first
                                  | (rw [if_pos hKr] at hsz2)
                                  | (rw [if_neg hKr] at hsz2)
                                obtain ⟨p1, -, p3⟩ := hdb.ptr K hKJ
                                have hrow := hdb.row K hKJ
                                have hlen : bSize J i r K + e < (ys K).length := by rw [hrow.2]; exact hsw
                                have hsj : bSize J i r K + e < bSize J i r K + ec := by rw [hrow.2] at hlen; exact hlen
                                have cw := hrow.1.cell (bSize J i r K + e) hlen
                                have fw := hrow.1.free (bSize J i r K + e)
                                have cC := (HC.out.frm kw (fun h => h)).cell o3 (by rw [HCLEN.out]; exact hot)
                                have hfil := hfl2.write (F' := fun a t => t < bSize J i r a + e ∨ t = bSize J i r a + e ∧ a < K + 1) K (bSize J i r K + e) (C.getD o3 0) hlen (by rw [hix]) (fun a t ha ht => by rcases Nat.decEq a K with hak | hak <;> (try subst hak) <;> omega)
                                have hwr := fun n => (hdb.kept ((Frm.refl (fun _ => False) wr).drewN n)).write K (bSize J i r K + e) (C.getD o3 0) hKJ
                                have hkk := fun n => (kw.drewN n).setCell (p := ⟨cs K, bSize J i r K + e, none⟩) (.inr (hdb.new K hKJ)) (.int .u8 ((C.getD o3 0 : Nat) : Int))
                                have HFIL := Lib.hid hfil
                                have HWR := Lib.hid hwr
                                have HKK := Lib.hid hkk
                                clear hrow hlen hfil hwr hkk hdb kw hfl2
                                generalize (ys K).getD (bSize J i r K + e) 0 = old at cw
                                generalize hval : C.getD o3 0 = val at cC HFIL HWR HKK
                                generalize bs K = bj at p1 p3
                                generalize hcj : cs K = cj at p3 cw fw HWR HKK
                                generalize hsz : bSize J i r K + ec = sj at p3 hsj
                                have hwi : bSize J i r K + e = (if K < J - r then i + e else i + e + 1) := by split <;> omega
                                first
                                  | (rw [if_pos hKr] at hwi)
                                  | (rw [if_neg hKr] at hwi)
                                rw [hwi] at cw fw HWR HKK HFIL hsj
                                clear hwi
                                clear hval hcj hsz hsz2
                                clear hix hsw
                                go_wp2_with fail
                                refine wp_region_quiet_tail 13 (by kernel_rfl) (by kernel_rfl) ?_
                                simp only [List.take_succ_cons, List.take_zero, List.drop_succ_cons, List.drop_zero]
                                repeat (go_big_quiet_step (fail))
                                refine wpQuiet_nil ?_
                                intro _ hw'
                                obtain ⟨nq, hw''⟩ := hw'
                                subst hw''
                                go_wp2
                                exact ⟨⟨K + 1, o3 + 1, _, by omega, by go_num, by go_num, by have := HO3.out; omega, HWR.out _, HFIL.out, HKK.out _⟩, by simp [intOf]; omega⟩
                            · obtain rfl : K = J := by omega
                              have hd4 : decide ((K : Int) < K) = false := by simp
                              have HDB := Lib.hid hdb
                              have HFL := Lib.hid (hfl2.weak (F' := fun a t => t < bSize K i r a + (e + 1)) (fun a t ha h => by omega))
                              have HKW := Lib.hid kw
                              clear ho3 hdb hfl2 kw
                              go_wp2
                              exact ⟨⟨e + 1, o3, ys, by omega, by go_num, rfl, by rw [HO3.out]; exact HIN.out, HDB.out, HFL.out, HKW.out⟩, by simp [intOf]; omega⟩
                        · obtain rfl : e = ec := by omega
                          have hd3 : decide ((i : Int) + e < (i : Int) + e) = false := by simp
                          have HDB := Lib.hid hdb
                          have HALL := Lib.hid (fun j hj => hfl2.all (fun j hj => (hdb.row j hj).2) j hj)
                          have HKW := Lib.hid kw
                          clear ho2 hdb hfl2 kw
                          go_wp2
                          go_ret2
                          exact ⟨R, bs, cs, ys, rfl, HDB.out, HALL.out, HKW.out⟩
            · have hsz : bSize N dq r L + ec = dq + 1 + ec := by rw [HBS.out, if_neg hLr]
              have hp3 : wr.cell? ⟨bs L, 1, none⟩ = some (.slice (some ⟨cs L, 0, none⟩) (dq + 1 + ec : Nat) (dq + 1 + ec : Nat)) := by rw [← hsz]; exact p3
              generalize bs L = bL at p1 hp3
              generalize cs L = cL at hp3
              clear hsz p3
              have d9 : (((dq : Int) + 1 + ec) == (dq : Int) + ec) = false := by rw [beq_eq_false_iff_ne]; omega
              go_wp2
              exact ⟨⟨trivial, L - 1, by omega, by omega, by go_num⟩, by simp [intOf]; omega⟩
end Go.Proofs.YtnpkihobbcglcaaGreatDoor
