/- Decoding 26: decode (151): version, format, words, blocks, data, text. Decoding 27: the decoder's outer functions. Decoding 28: the result handed out: decoded (28). -/
import Derived.Test.YtnpkihobbcglcaaGreatDoorQ26
import Derived.Test.YtnpkihobbcglcaaGreatDoorQ39
import Derived.Test.YtnpkihobbcglcaaGreatDoorQ41
set_option linter.unusedSimpArgs false
set_option linter.unusedVariables false

/- U26: Decoding 26: decode (151): version, format, words, blocks, data, text. -/
namespace Go.Proofs.YtnpkihobbcglcaaGreatDoor
open Go Go.RowKit

set_option maxRecDepth 100000 in
set_option maxHeartbeats 16000000 in
theorem decodeParsed (q p b d rs f e l z o v k m lv t : Nat) (xs : List Nat) (tl pad : List Bool) (L : List Pair) (M : Nat → Nat → Bool) (w : World) (hq : Blk w q #[.pointer (some ⟨p, 0, none⟩), .pointer none, .pointer none, .bool false] 292)
    (hd : ∀ w', Frm (fun k => k = q ∨ k = b) w w' → Dec w' d rs f e l z o) (hc : Coded xs lv v m k tl L) (hlv : lv < 4) (hx1 : 1 ≤ xs.length) (hxl : xs.length ≤ 60) (hby : Bytes xs)
    (hM : BX w p b (dim v) (dim v) M) (hf7 : v = 7 → verN M 6 = 31892) (hm1 : fmt1 M = fmtTab.getD (lv * 8 + k) 0) (hm2 : fmt2 M (dim v) = fmtTab.getD (lv * 8 + k) 0)
    (hpad : (interBits L ++ pad).length = cellsOf v) (hbits : ∀ T, T < zN (dim v) → gget (baseG v t) (zX (dim v) T) (zY (dim v) T) = -1 → (M (zX (dim v) T) (zY (dim v) T) ^^ maskBit k (zX (dim v) T) (zY (dim v) T)) = (interBits L ++ pad).getD (zCnt (baseG v t) (dim v) T) false) :
    Calls Tryz.prog 151 #[.pointer (some ⟨d, 0, none⟩), .pointer (some ⟨q, 0, none⟩), .map none] w fun r w' => ∃ rp, r = .returned (.tuple #[.pointer (some ⟨rp, 0, none⟩), .nilIface]) ∧ DRes w' rp xs ∧ Frm (fun k => k = q ∨ k = b) w w' := by
  obtain ⟨v1, v7⟩ := hc.ver
  have hk8 := hc.mask
  obtain ⟨hC1, hC2, hC3⟩ := blocks_back hc hlv pad
  obtain ⟨b1, b2, b3, b4⟩ := block_ok1 v (by omega) v1 lv hlv
  obtain ⟨b5, b6, b7, b8⟩ := block_ok2 v (by omega) v1 lv hlv
  obtain ⟨b9, _⟩ := block_ok3 v (by omega) v1 lv hlv
  have hde := data_back (msgBits m xs ++ tl) (nbAt v lv) (dqAt v lv) (rAt v lv) (nbAt v lv)
  have hbo := bOff_eq (nbAt v lv) (dqAt v lv) (rAt v lv) b3
  have hbN : bOff (nbAt v lv) (dqAt v lv) (rAt v lv) (nbAt v lv) = dataCw v lv := by rw [hbo _ (Nat.le_refl _)]; omega
  have hlen := hc.len
  have hpq : p ≠ q := by obtain ⟨ws, h1, h2, _⟩ := hM.ex; exact Blk.ne h1 hq (by decide)
  have hbq : b ≠ q := by obtain ⟨ws, h1, h2, _⟩ := hM.ex; exact Blk.ne h2 hq (by decide)
  have hmo : ∀ j, j ≤ nbAt v lv → bOff (nbAt v lv) (dqAt v lv) (rAt v lv) j ≤ dataCw v lv := fun j hj => by
    rw [hbo j hj, b2]
    have := Nat.mul_le_mul_right (dqAt v lv) hj
    omega
  have hs1 : ∀ j, bSize (nbAt v lv) (dqAt v lv) (rAt v lv) j ≤ 201 ∧ 1 ≤ bSize (nbAt v lv) (dqAt v lv) (rAt v lv) j := fun j => by unfold bSize; split <;> omega
  have hrv := readVersion q p b v (.pointer none) (.pointer none) M w hq (.inl rfl) hM v1 v7 hf7
  have hgl : 1 ≤ dataCw v lv := by rw [b2]; have : 1 * 1 ≤ nbAt v lv * dqAt v lv := Nat.mul_le_mul (by omega) b5; omega
  have HRV := Lib.hid hrv
  have HD := Lib.hid hd
  have HC := Lib.hid hc
  have HM := Lib.hid hM
  have HBITS := Lib.hid hbits
  have HPAD := Lib.hid hpad
  have HM1 := Lib.hid hm1
  have HM2 := Lib.hid hm2
  have HF7 := Lib.hid hf7
  have HC1 := Lib.hid hC1
  have HC2 := Lib.hid hC2
  have HC3 := Lib.hid hC3
  have HDE := Lib.hid hde
  have HMO := Lib.hid hmo
  have HSZ := Lib.hid hs1
  have HBN := Lib.hid hbN
  have HLEN := Lib.hid hlen
  have B1 := Lib.hid b1
  have B2 := Lib.hid b2
  clear hrv hd hc hM hbits hpad hm1 hm2 hf7 hC1 hC2 hC3 hde hbo hbN hlen b1 b2 hq hmo hs1
  go_enter Tryz.func151, Tryz.ntmps151
  go_wp2_with fail
  with_reducible refine HRV.out.mono ?_
  rintro _ w1 ⟨pv, v1', rfl, hver, hpv, hq1, hf1⟩
  have hM1 := HM.out.frm hf1 hpq hbq
  have hrf := readFormat q p b (dim v) (lv * 8 + k) M v1' w1 hq1 hM1 (by unfold dim; omega) (by unfold dim; omega) (by omega) HM1.out HM2.out
  rw [show (lv * 8 + k) / 8 = lv by omega, show (lv * 8 + k) % 8 = k by omega] at hrf
  have HRF := Lib.hid hrf
  have HVER := Lib.hid hver
  have HPV := Lib.hid hpv
  have HMX1 := Lib.hid hM1
  have HQ1 := Lib.hid hq1
  have HF1 := Lib.hid hf1
  clear hrf hver hpv hM1 hq1 hf1 HRV
  dsimp only
  go_wp2_with fail
  with_reducible refine HRF.out.mono ?_
  rintro _ w2 ⟨fp, rfl, hfp, hq2, hf2, hfn⟩
  have hM2 := HMX1.out.frm hf2 hpq hbq
  have hver2 := HVER.out.off (S := fun _ => False) HQ1.out (hf2.mono (fun _ _ e => .inl e)) (fun _ e => e.elim)
  have hpv2 := HPV.out.off (S := fun _ => False) HQ1.out (hf2.mono (fun _ _ e => .inl e)) (fun _ e => e.elim)
  have hfl := formatLevel fp lv _ w2 hfp
  have hrc := readCodewords q p b fp v t v1' (.int .i64 lv) k M (interBits L ++ pad) w2 hq2 hpv2 hfp hk8 hM2 v1 v7 HF7.out HPAD.out HBITS.out
  rw [HC1.out] at hrc
  have HFL := Lib.hid hfl
  have HRC := Lib.hid hrc
  have HQ2 := Lib.hid hq2
  have HF2 := Lib.hid (HF1.out.trans hf2)
  have HVER2 := Lib.hid hver2
  have HMX2 := Lib.hid hM2
  clear hM2 hver2 hpv2 hfl hrc hfp hq2 hf2 hfn HRF HVER HPV HMX1 HQ1 HF1
  dsimp only
  go_wp2_with fail
  with_reducible refine HFL.out.mono ?_
  rintro _ _ ⟨rfl, rfl⟩
  dsimp only
  go_wp2_with fail
  with_reducible refine HRC.out.mono ?_
  rintro _ w3 ⟨rb, rfl, hrb, hf3⟩
  have hver3 := HVER2.out.off (S := fun k => k = b) HQ2.out hf3 (fun k hk => by rw [hk]; exact HMX2.out.apart)
  have hF3 := (HF2.out.mono (S' := fun k => k = q ∨ k = b) (fun _ _ e => .inl e)).trans hf3
  have hdb := dataBlocks rb pv v lv (interWords L) w3 hrb HC2.out hver3 v1 v7 hlv
  have HDB := Lib.hid hdb
  have HVER3 := Lib.hid hver3
  have HF3 := Lib.hid hF3
  clear hver3 hF3 hdb hrb hf3 HRC HFL HQ2 HF2 HVER2 HMX2
  dsimp only
  go_wp2_with fail
  with_reducible refine HDB.out.mono ?_
  rintro _ w4 ⟨R, bs, cs, ys, rfl, hdb, hys, k4⟩
  have hok : ∀ j, j < nbAt v lv → BlkOk (msgBits m xs ++ tl) (nbAt v lv) (dqAt v lv) (rAt v lv) (ecOf v lv) j (ys j) := fun j hj => by rw [hys j hj]; exact HC3.out j hj
  have HOK := Lib.hid hok
  have HDB4 := Lib.hid hdb
  have HK4 := Lib.hid k4
  clear hok hdb hys k4 HDB HC3 HC1
  have HPVC := Lib.hid HVER3.out.num
  clear HVER3 HC2 B1 B2
  generalize hbsg : msgBits m xs ++ tl = bb at *
  generalize nbAt v lv = N at *
  generalize dqAt v lv = dq at *
  generalize rAt v lv = r at *
  generalize ecOf v lv = ec at *
  generalize hDDg : dataCw v lv = DD at *
  generalize hTCg : totalCw v = TC at *
  have HBSG := Lib.hid hbsg
  clear hbsg hDDg hTCg
  dsimp only
  go_wp2_with fail
  go_loopw [14, 16, 67] (fun v14 _ v67 wr => ∃ j : Nat, j ≤ N ∧ v67 = .int .i64 j ∧ v14 = .int .i64 (bOff N dq r j : Nat) ∧ wr = w4) (fun _ _ v67 _ => N - (intOf v67).toNat)
  case atStart => exact ⟨0, Nat.zero_le _, rfl, rfl, rfl⟩
  case round =>
    obtain ⟨j, hj, rfl, rfl, rfl⟩ := hrel
    by_cases hjn : j < N
    · have hdd : decide ((j : Int) < N) = true := by simp; omega
      obtain ⟨c1, c2, c3⟩ := HDB4.out.ptr j hjn
      have hcall := blkData (bs j) _ wr c2
      have hm1 := HMO.out (j + 1) (by omega)
      have hst : bOff N dq r (j + 1) = bOff N dq r j + bSize N dq r j := rfl
      have HST := Lib.hid hst
      rw [hst] at hm1
      have HC2 := Lib.hid hcall
      clear hst c2 c3 hcall
      generalize bOff N dq r j = bo at *
      generalize bSize N dq r j = bz at *
      go_wp2_with fail
      with_reducible refine HC2.out.mono ?_
      rintro _ _ ⟨rfl, rfl⟩
      dsimp only
      go_wp2
      exact ⟨⟨j + 1, by omega, by go_num, by rw [HST.out]; go_num, trivial⟩, by simp [intOf]; omega⟩
    · have hjN : N = j := by omega
      subst hjN
      have hdd : decide ((N : Int) < N) = false := by simp
      have hbn := HBN.out
      rw [hbn]
      have hmk := run_make_ints 32 5 .u8 1 (by kernel_rfl) info5 DD (by omega) (by omega) wr
      have hz := Nats.new wr .u8 5 (List.replicate DD 0)
      have kz : Kept wr (wr.alloc (.cells (natCells .u8 (List.replicate DD 0)) 5)) := (Frm.refl _ _).alloc _
      have hdb5 := HDB4.out.kept kz
      have hlts := HDB4.out.lts
      have hzl : (List.replicate DD 0).length = DD := List.length_replicate
      go_wp2_with fail
      clear hmk hj hjn
      generalize hzz : (List.replicate DD 0) = zz at *
      generalize wr.alloc (.cells (natCells .u8 zz) 5) = w5 at *
      have hwz : w3.heap.size ≤ wr.heap.size := HK4.out.size
      generalize hrz : wr.heap.size = rz at *
      have hk5 : Kept w3 w5 := HK4.out.trans kz
      have hRz : R ≠ rz := by omega
      have hbz : ∀ j, j < N → bs j ≠ rz ∧ cs j ≠ rz := fun j hj => by have := hlts.2 j hj; omega
      have HZ := Lib.hid hz
      have HDB5 := Lib.hid hdb5
      have HK5 := Lib.hid hk5
      have HBZ := Lib.hid hbz
      clear hbn hz kz hdb5 hlts hzz hk5 hbz HK4 HDB4 hdd hrz
      go_loopw [18, 20, 21, 22, 23, 24, 80] (fun v18 _ _ _ _ _ v80 wr => ∃ (j : Nat) (zs : List Nat), j ≤ N ∧ v80 = .int .i64 j ∧ v18 = .int .i64 (bOff N dq r j : Nat) ∧ Nats wr rz .u8 5 zs ∧ zs.length = DD ∧ zs.take (bOff N dq r j) = bytesFrom bb 0 (bOff N dq r j) ∧
          DB wr R N N w3.heap.size (bSize N dq r) (fun j => bSize N dq r j + ec) bs cs ys ∧ Kept w3 wr) (fun _ _ _ _ _ _ v80 _ => N - (intOf v80).toNat)
      case atStart => exact ⟨0, zz, Nat.zero_le _, rfl, rfl, HZ.out, hzl, by simp [bOff, bytesFrom], HDB5.out, HK5.out⟩
      case round =>
        clear HZ HDB5 HK5 hzl zz
        obtain ⟨j, zs, hj, rfl, rfl, hz, hzl, hzt, hdb, hk⟩ := hrel
        by_cases hjn : j < N
        · have hdd : decide ((j : Int) < N) = true := by simp; omega
          obtain ⟨c1, c2, c3⟩ := hdb.ptr j hjn
          have hcw := blkWords (bs j) _ wr c3
          have hcd := blkData (bs j) _ wr c2
          obtain ⟨hy, hyl⟩ := hdb.row j hjn
          have hbk := HOK.out j hjn
          obtain ⟨g1, g2⟩ := HSZ.out j
          have hde := HD.out wr (HF3.out.trans hk.toFrm)
          have hcc := correctClean d rs f e l z o (cs j) (bSize N dq r j) ec (bSize N dq r j + ec) (ys j) wr hde hy hbk.len rfl (by omega) (by omega) hbk.byt b8 hbk.ev
          have hm1 := HMO.out (j + 1) (by omega)
          have hst : bOff N dq r (j + 1) = bOff N dq r j + bSize N dq r j := rfl
          have hbf : bytesFrom bb 0 (bOff N dq r (j + 1)) = bytesFrom bb 0 (bOff N dq r j) ++ (ys j).take (bSize N dq r j) := by rw [hst, bytesFrom_add, hbk.dat, Nat.zero_add]
          have hzj := HBZ.out j hjn
          have hcs : w3.heap.size ≤ cs j := hdb.new j hjn
          rw [hst] at hm1
          have HST := Lib.hid hst
          have HBF := Lib.hid hbf
          have HCW := Lib.hid hcw
          have HCD := Lib.hid hcd
          have HCC := Lib.hid hcc
          have HZ := Lib.hid hz
          have HZL := Lib.hid hzl
          have HZT := Lib.hid hzt
          have HDB6 := Lib.hid hdb
          have HK6 := Lib.hid hk
          have HYL := Lib.hid hbk.len
          clear hst hbf hcw hcd hcc hz hzl hzt hdb hk hy hyl hbk hde c2 c3
          generalize bOff N dq r j = bo at *
          generalize bSize N dq r j = bz at *
          go_wp2_with fail
          with_reducible refine HCW.out.mono ?_
          rintro _ _ ⟨rfl, rfl⟩
          dsimp only
          go_wp2_with fail
          with_reducible refine HCD.out.mono ?_
          rintro _ _ ⟨rfl, rfl⟩
          dsimp only
          go_wp2_with fail
          with_reducible refine HCC.out.mono ?_
          rintro _ w6 ⟨rfl, hy6, hf6⟩
          have HDB7 := Lib.hid (HDB6.out.redo j hjn hf6 hy6)
          have HZ7 := Lib.hid (HZ.out.frm hf6 (fun (e : rz = cs j) => hzj.2 e.symm))
          have HK7 := Lib.hid (HK6.out.past hf6 hcs)
          have HY7 := Lib.hid hy6
          clear hf6 hy6 HDB6 HZ HK6 HCC HCW HCD
          dsimp only
          go_wp2_with fail
          go_loopw [18, 24] (fun v18 v24 wx => ∃ (i : Nat) (us : List Nat), i ≤ bz ∧ v24 = .int .i64 i ∧ v18 = .int .i64 (bo + i : Nat) ∧ Nats wx rz .u8 5 us ∧ us.length = DD ∧ us.take (bo + i) = bytesFrom bb 0 bo ++ (ys j).take i ∧ Frm (fun k => k = rz) w6 wx) (fun _ v24 _ => bz - (intOf v24).toNat)
          case atStart => exact ⟨0, zs, Nat.zero_le _, rfl, rfl, HZ7.out, HZL.out, by rw [Nat.add_zero, HZT.out]; simp, Frm.refl _ _⟩
          case round =>
            clear HZ7 HZL HZT
            obtain ⟨i, us, hi, rfl, rfl, hu, hul, hut, hf⟩ := hrel
            by_cases hin : i < bz
            · have hdi : decide ((i : Int) < bz) = true := by simp; omega
              have hyc := HY7.out.frm hf (fun (e : cs j = rz) => hzj.2 e)
              have cy := hyc.cell i (by rw [HYL.out]; omega)
              have cz := hu.cell (bo + i) (by omega)
              have fz := hu.free (bo + i)
              have hset := hu.set (bo + i) ((ys j).getD i 0)
              have hfs : Frm (fun k => k = rz) wr (wr.setCell ⟨rz, bo + i, none⟩ (.int .u8 (((ys j).getD i 0 : Nat) : Int))) := (Frm.refl (fun k => k = rz) wr).setCell (p := ⟨rz, bo + i, none⟩) (.inl rfl) _
              have hts : (us.set (bo + i) ((ys j).getD i 0)).take (bo + (i + 1)) = bytesFrom bb 0 bo ++ (ys j).take (i + 1) := by
                rw [← Nat.add_assoc, take_set _ _ _ (by omega), hut, List.take_add_one, List.append_assoc, List.getD_eq_getElem?_getD, List.getElem?_eq_getElem (by rw [HYL.out]; omega)]
                rfl
              have hsl : (us.set (bo + i) ((ys j).getD i 0)).length = DD := by rw [List.length_set]; exact hul
              have HSET := Lib.hid hset
              have HFS := Lib.hid (hf.trans hfs)
              have HTS := Lib.hid hts
              have HSL := Lib.hid hsl
              clear hset hfs hts hsl hyc hu hul hut hf
              generalize us.getD (bo + i) 0 = old at *
              generalize (ys j).getD i 0 = yv at *
              go_wp2
              exact ⟨⟨i + 1, _, by omega, by go_num, by go_num, HSET.out, HSL.out, HTS.out, HFS.out⟩, by simp [intOf]; omega⟩
            · have hib : bz = i := by omega
              have hdi : decide ((i : Int) < bz) = false := by simp; omega
              rw [← hib] at hut hdi
              rw [← hib]
              have hdbx := HDB7.out.frm hf (fun (e : R = rz) => hRz e) (fun j hj (e : bs j = rz) => (HBZ.out j hj).1 e) (fun j hj (e : cs j = rz) => (HBZ.out j hj).2 e)
              have hkx := HK7.out.past hf hwz
              have HU := Lib.hid hu
              have HUL := Lib.hid hul
              have HUT := Lib.hid hut
              have HDB8 := Lib.hid hdbx
              have HK8 := Lib.hid hkx
              clear hu hul hut hdbx hkx hf hi hin hib
              go_wp2
              exact ⟨⟨j + 1, us, by omega, by go_num, by rw [HST.out], HU.out, HUL.out, by rw [HBF.out, HST.out]; exact HUT.out, HDB8.out, HK8.out⟩, by simp [intOf]; omega⟩
        · have hjN : N = j := by omega
          subst hjN
          have hdd : decide ((N : Int) < N) = false := by simp
          have hcod := HC.out
          have hzb := HBN.out
          rw [hzb] at hzt
          have hzz : zs = bytesFrom bb 0 DD := by rw [← hzt, List.take_of_length_le (by omega)]
          subst hzz
          have hlen := HLEN.out
          have hbe := HBSG.out
          rw [← hbe] at hlen hz
          have hps := parseStream rz DD DD pv lv v m xs (bytesFrom (msgBits m xs ++ tl) 0 DD) tl wr hlen hcod.zero hcod.mode hby hx1 hxl hlv v1 v7 (cell_kept HPVC.out hk) hz (by rw [bytesFrom_length]) (fun i hi => by rw [bytesFrom_get _ _ _ _ hi (by omega), Nat.zero_add]) hgl (by omega)
          have HPS := Lib.hid hps
          have HK9 := Lib.hid (HF3.out.trans hk.toFrm)
          clear hcod hzb hzt hlen hbe hps hz hzl hdb hk
          go_wp2_with fail
          with_reducible refine HPS.out.mono ?_
          rintro _ w9 ⟨rp, rfl, hres, kres⟩
          have HRES := Lib.hid hres
          have HKR := Lib.hid (HK9.out.trans kres.toFrm)
          clear hres kres HPS HK9
          dsimp only
          go_wp2
          go_ret2
          exact ⟨rp, rfl, HRES.out, HKR.out⟩
end Go.Proofs.YtnpkihobbcglcaaGreatDoor

/- U27: Decoding 27: the decoder's outer functions. -/
namespace Go.Proofs.YtnpkihobbcglcaaGreatDoor
open Go Go.RowKit

set_option maxRecDepth 100000 in
set_option maxHeartbeats 4000000 in
theorem decodeMatrix (p b d rs f e l z o v k m lv t : Nat) (xs : List Nat) (tl pad : List Bool) (L : List Pair) (M : Nat → Nat → Bool) (w0 w : World)
    (hd : Dec w0 d rs f e l z o) (hk : Kept w0 w) (hbl : w0.heap.size ≤ b) (hc : Coded xs lv v m k tl L) (hlv : lv < 4) (hx1 : 1 ≤ xs.length) (hxl : xs.length ≤ 60) (hby : Bytes xs)
    (hM : BX w p b (dim v) (dim v) M) (hf7 : v = 7 → verN M 6 = 31892) (hm1 : fmt1 M = fmtTab.getD (lv * 8 + k) 0) (hm2 : fmt2 M (dim v) = fmtTab.getD (lv * 8 + k) 0)
    (hpad : (interBits L ++ pad).length = cellsOf v) (hbits : ∀ T, T < zN (dim v) → gget (baseG v t) (zX (dim v) T) (zY (dim v) T) = -1 → (M (zX (dim v) T) (zY (dim v) T) ^^ maskBit k (zX (dim v) T) (zY (dim v) T)) = (interBits L ++ pad).getD (zCnt (baseG v t) (dim v) T) false) :
    Calls Tryz.prog 119 #[.pointer (some ⟨d, 0, none⟩), .pointer (some ⟨p, 0, none⟩), .map none] w fun r w' => ∃ rp, r = .returned (.tuple #[.pointer (some ⟨rp, 0, none⟩), .nilIface]) ∧ DRes w' rp xs ∧ Kept w0 w' := by
  obtain ⟨v1, v7⟩ := hc.ver
  have hnp := newParser p b (dim v) M w hM (by unfold dim; omega) (by unfold dim; omega) (by unfold dim; omega)
  have HNP := Lib.hid hnp
  have HALL := Lib.hid (fun q w' hq hd hM => decodeParsed q p b d rs f e l z o v k m lv t xs tl pad L M w' hq hd hc hlv hx1 hxl hby hM hf7 hm1 hm2 hpad hbits)
  have HM := Lib.hid hM
  have HD := Lib.hid hd
  have HK := Lib.hid hk
  clear hnp hM hd hk hc hf7 hm1 hm2 hpad hbits v1 v7
  go_enter Tryz.func119, Tryz.ntmps119
  go_wp2_with fail
  with_reducible refine HNP.out.mono ?_
  rintro _ w1 ⟨q, rfl, hq, k1, hqn⟩
  have hwz : w0.heap.size ≤ w.heap.size := HK.out.size
  have hk1 := HK.out.trans k1
  have hdall : ∀ w', Frm (fun k => k = q ∨ k = b) w1 w' → Dec w' d rs f e l z o := fun w' hf => HD.out.kept (hk1.step hf (fun k hk e => by omega))
  have hcall := HALL.out q w1 hq hdall (HM.out.kept k1)
  have HCALL := Lib.hid hcall
  have HK1 := Lib.hid hk1
  clear hq k1 hk1 hdall hcall HALL HM HD HK HNP
  dsimp only
  go_wp2_with fail
  with_reducible refine HCALL.out.mono ?_
  rintro _ w2 ⟨rp, rfl, hr, hf2⟩
  have HR := Lib.hid hr
  have HF := Lib.hid (HK1.out.step hf2 (fun k hk e => by omega))
  clear hr hf2 HCALL HK1
  dsimp only
  go_wp2
  go_ret2
  exact ⟨rp, rfl, HR.out, HF.out⟩

/-- What the decoder must find in the modules. -/
structure Readable (R : List (List Bool)) (lv v m k t : Nat) (xs : List Nat) (tl pad : List Bool) (L : List Pair) : Prop where
  cod : Coded xs lv v m k tl L
  len : R.length = dim v
  row : ∀ y, y < dim v → (R.getD y []).length = dim v
  ver : v = 7 → verN (bitOf R) 6 = 31892
  f1 : fmt1 (bitOf R) = fmtTab.getD (lv * 8 + k) 0
  f2 : fmt2 (bitOf R) (dim v) = fmtTab.getD (lv * 8 + k) 0
  all : (interBits L ++ pad).length = cellsOf v
  bits : ∀ T, T < zN (dim v) → gget (baseG v t) (zX (dim v) T) (zY (dim v) T) = -1 → (bitOf R (zX (dim v) T) (zY (dim v) T) ^^ maskBit k (zX (dim v) T) (zY (dim v) T)) = (interBits L ++ pad).getD (zCnt (baseG v t) (dim v) T) false

theorem decodeMap (S : Value) (R : List (List Bool)) (d rs f e l z o v k m lv t : Nat) (xs : List Nat) (tl pad : List Bool) (L : List Pair) (w : World)
    (hd : Dec w d rs f e l z o) (hS : SliceC w S R) (hR : Readable R lv v m k t xs tl pad L) (hlv : lv < 4) (hx1 : 1 ≤ xs.length) (hxl : xs.length ≤ 60) (hby : Bytes xs) :
    Calls Tryz.prog 77 #[.pointer (some ⟨d, 0, none⟩), S, .map none] w fun r w' => ∃ rp, r = .returned (.tuple #[.pointer (some ⟨rp, 0, none⟩), .nilIface]) ∧ DRes w' rp xs ∧ Kept w w' := by
  obtain ⟨v1, v7⟩ := hR.cod.ver
  have hpm := parseMap S (dim v) R w hS hR.len hR.row (by unfold dim; omega) (by unfold dim; omega)
  have HPM := Lib.hid hpm
  have HALL := Lib.hid (fun p b w' hk hbl hM => decodeMatrix p b d rs f e l z o v k m lv t xs tl pad L (bitOf R) w w' hd hk hbl hR.cod hlv hx1 hxl hby hM hR.ver hR.f1 hR.f2 hR.all hR.bits)
  clear hpm hd hS hR v1 v7
  go_enter Tryz.func77, Tryz.ntmps77
  go_wp2_with fail
  with_reducible refine HPM.out.mono ?_
  rintro _ w1 ⟨p, b, rfl, hM, k1, hp, hb⟩
  have HCALL := Lib.hid (HALL.out p b w1 k1 hb hM)
  clear hM k1 HALL HPM hp hb
  dsimp only
  go_wp2_with fail
  with_reducible refine HCALL.out.mono ?_
  rintro _ w2 ⟨rp, rfl, hr, hf2⟩
  have HR := Lib.hid hr
  have HF := Lib.hid hf2
  clear hr hf2 HCALL
  dsimp only
  go_wp2
  go_ret2
  exact ⟨rp, rfl, HR.out, HF.out⟩

theorem decodeBools (S : Value) (R : List (List Bool)) (d rs f e l z o v k m lv t : Nat) (xs : List Nat) (tl pad : List Bool) (L : List Pair) (w : World)
    (hd : Dec w d rs f e l z o) (hS : SliceC w S R) (hR : Readable R lv v m k t xs tl pad L) (hlv : lv < 4) (hx1 : 1 ≤ xs.length) (hxl : xs.length ≤ 60) (hby : Bytes xs) :
    Calls Tryz.prog 30 #[.pointer (some ⟨d, 0, none⟩), S] w fun r w' => ∃ rp, r = .returned (.tuple #[.pointer (some ⟨rp, 0, none⟩), .nilIface]) ∧ DRes w' rp xs ∧ Kept w w' := by
  have HCALL := Lib.hid (decodeMap S R d rs f e l z o v k m lv t xs tl pad L w hd hS hR hlv hx1 hxl hby)
  clear hd hS hR
  go_enter Tryz.func30, Tryz.ntmps30
  go_wp2_with fail
  with_reducible refine HCALL.out.mono ?_
  rintro _ w2 ⟨rp, rfl, hr, hf2⟩
  have HR := Lib.hid hr
  have HF := Lib.hid hf2
  clear hr hf2 HCALL
  dsimp only
  go_wp2
  go_ret2
  exact ⟨rp, rfl, HR.out, HF.out⟩
end Go.Proofs.YtnpkihobbcglcaaGreatDoor

/- U28: Decoding 28: the result handed out: decoded (28). -/
namespace Go.Proofs.YtnpkihobbcglcaaGreatDoor
open Go Go.RowKit

theorem resF67 (p : Nat) (u : Value) (w : World) (h : w.cell? ⟨p, 3, none⟩ = some u) : Calls Tryz.prog 67 #[.pointer (some ⟨p, 0, none⟩)] w fun e w' => e = .returned u ∧ w = w' := by
  go_enter Tryz.func67, Tryz.ntmps67
  go_wp2
  go_ret
  exact ⟨rfl, rfl⟩
theorem resF68 (p : Nat) (u : Value) (w : World) (h : w.cell? ⟨p, 2, none⟩ = some u) : Calls Tryz.prog 68 #[.pointer (some ⟨p, 0, none⟩)] w fun e w' => e = .returned u ∧ w = w' := by
  go_enter Tryz.func68, Tryz.ntmps68
  go_wp2
  go_ret
  exact ⟨rfl, rfl⟩
theorem resF69 (p : Nat) (u : Value) (w : World) (h : w.cell? ⟨p, 0, none⟩ = some u) : Calls Tryz.prog 69 #[.pointer (some ⟨p, 0, none⟩)] w fun e w' => e = .returned u ∧ w = w' := by
  go_enter Tryz.func69, Tryz.ntmps69
  go_wp2
  go_ret
  exact ⟨rfl, rfl⟩
theorem resF70 (p : Nat) (u : Value) (w : World) (h : w.cell? ⟨p, 4, none⟩ = some u) : Calls Tryz.prog 70 #[.pointer (some ⟨p, 0, none⟩)] w fun e w' => e = .returned u ∧ w = w' := by
  go_enter Tryz.func70, Tryz.ntmps70
  go_wp2
  go_ret
  exact ⟨rfl, rfl⟩
theorem resF71 (p : Nat) (u : Value) (w : World) (h : w.cell? ⟨p, 5, none⟩ = some u) : Calls Tryz.prog 71 #[.pointer (some ⟨p, 0, none⟩)] w fun e w' => e = .returned u ∧ w = w' := by
  go_enter Tryz.func71, Tryz.ntmps71
  go_wp2
  go_ret
  exact ⟨rfl, rfl⟩
theorem resF72 (p : Nat) (u : Value) (w : World) (h : w.cell? ⟨p, 9, none⟩ = some u) : Calls Tryz.prog 72 #[.pointer (some ⟨p, 0, none⟩)] w fun e w' => e = .returned u ∧ w = w' := by
  go_enter Tryz.func72, Tryz.ntmps72
  go_wp2
  go_ret
  exact ⟨rfl, rfl⟩
theorem resF73 (p : Nat) (u : Value) (w : World) (h : w.cell? ⟨p, 8, none⟩ = some u) : Calls Tryz.prog 73 #[.pointer (some ⟨p, 0, none⟩)] w fun e w' => e = .returned u ∧ w = w' := by
  go_enter Tryz.func73, Tryz.ntmps73
  go_wp2
  go_ret
  exact ⟨rfl, rfl⟩
theorem resF74 (p : Nat) (u : Value) (w : World) (h : w.cell? ⟨p, 10, none⟩ = some u) : Calls Tryz.prog 74 #[.pointer (some ⟨p, 0, none⟩)] w fun e w' => e = .returned u ∧ w = w' := by
  go_enter Tryz.func74, Tryz.ntmps74
  go_wp2
  go_ret
  exact ⟨rfl, rfl⟩

theorem struct35 : ∃ fs, Tryz.prog.underlying 35 = some (.struct fs) := by
  have h0 : (match Tryz.prog.underlying 35 with | some (.struct _) => true | _ => false) = true := by kernel_rfl
  cases hq : Tryz.prog.underlying 35 with
  | none => rw [hq] at h0; cases h0
  | some d =>
    rw [hq] at h0
    cases d <;> first | exact ⟨_, rfl⟩ | cases h0
theorem size35 : (Tryz.prog.info? 35).map (·.size) = some 8 := by kernel_rfl
/-- What the result's object says. -/
def CellsR (w : World) (p : Nat) (xs : List Nat) (s D c : Nat) (sg : Value) (ls : ByteArray) (x5 x8 x9 x10 : Int) : Prop :=
  w.cell? ⟨p, 0, none⟩ = some (.slice (some ⟨s, 0, none⟩) D c) ∧ w.cell? ⟨p, 2, none⟩ = some (.string (txtOf xs)) ∧ w.cell? ⟨p, 3, none⟩ = some sg ∧ w.cell? ⟨p, 4, none⟩ = some (.string ls) ∧ w.cell? ⟨p, 5, none⟩ = some (.int .i64 x5) ∧
  w.cell? ⟨p, 8, none⟩ = some (.int .i64 x8) ∧ w.cell? ⟨p, 9, none⟩ = some (.int .i64 x9) ∧ w.cell? ⟨p, 10, none⟩ = some (.int .i64 x10)
theorem CellsR.kept {w w' : World} {p : Nat} {xs : List Nat} {s D c : Nat} {sg : Value} {ls : ByteArray} {x5 x8 x9 x10 : Int} (h : CellsR w p xs s D c sg ls x5 x8 x9 x10) (hf : Kept w w') : CellsR w' p xs s D c sg ls x5 x8 x9 x10 :=
  let ⟨h1, h2, h3, h4, h5, h6, h7, h8⟩ := h
  ⟨cell_kept h1 hf, cell_kept h2 hf, cell_kept h3 hf, cell_kept h4 hf, cell_kept h5 hf, cell_kept h6 hf, cell_kept h7 hf, cell_kept h8 hf⟩

set_option maxRecDepth 100000 in
set_option maxHeartbeats 8000000 in
theorem handOut (p : Nat) (xs : List Nat) (w : World) (hx1 : 1 ≤ xs.length) (hxl : xs.length ≤ 60) (hr : DRes w p xs) :
    Calls Tryz.prog 28 #[.pointer (some ⟨p, 0, none⟩), .nilIface] w fun r w' => ∃ o1 n1 c1 o2 n2 c2 ls x4 x5 x6 x7, r = .returned (.tuple #[.agg #[.string (txtOf xs), .slice o1 n1 c1, .slice o2 n2 c2, .string ls, .int .i64 x4, .int .i64 x5, .int .i64 x6, .int .i64 x7], .bool true]) ∧ Kept w w' := by
  obtain ⟨s, D, c, o, n2, c2, ls, y4, y5, y6, y7, y8, y9, y10, hb, ⟨rs, hDl, hrs, hD1, hD⟩, L, hL, hLL⟩ := hr
  have hcr : CellsR w p xs s D c (.slice o n2 c2) ls y5 y8 y9 y10 := ⟨hb.cell 0, hb.cell 2, hb.cell 3, hb.cell 4, hb.cell 5, hb.cell 8, hb.cell 9, hb.cell 10⟩
  have HCR := Lib.hid hcr
  have HRS := Lib.hid hrs
  have HL := Lib.hid hL
  have hseg : ∀ w', Kept w w' → ∃ n, n = n2 ∧ n ≤ 1 ∧ (n = 1 → ∃ g b, o = some ⟨g, 0, none⟩ ∧ w'.cell? ⟨g, 0, none⟩ = some (.slice (some ⟨b, 0, none⟩) xs.length xs.length) ∧ Nats w' b .u8 5 xs) := fun w' hk => by
    rcases hLL with rfl | rfl
    · rcases hL with ⟨g, cap, vs, e, _⟩ | ⟨_, e⟩
      · injection e with e1 e2 e3
        exact ⟨n2, rfl, by simp at e2; omega, fun h => by simp at e2; omega⟩
      · injection e with e1 e2 e3
        exact ⟨n2, rfl, by omega, fun h => by omega⟩
    · rcases hL with ⟨g, cap, vs, e, hrow, _, hall⟩ | ⟨e, _⟩
      · injection e with e1 e2 e3
        obtain ⟨b, h1, h2, _⟩ := hall 0 xs rfl
        refine ⟨n2, rfl, by simp at e2; omega, fun _ => ⟨g, b, e1, ?_, h2.frm hk (fun h => h)⟩⟩
        exact cell_kept (by rw [hrow.cell 0 (by simp), h1]) hk
      · cases e
  have HSEG := Lib.hid hseg
  clear hb hcr hrs hL hseg
  go_enter Tryz.func28, Tryz.ntmps28
  go_wp2_with fail
  have hob := Blk.new w #[.string { data := #[] }, .slice none 0 0, .slice none 0 0, .string { data := #[] }, .int .i64 0, .int .i64 0, .int .i64 0, .int .i64 0] 35
  have ka : Kept w (w.alloc (.cells #[.string { data := #[] }, .slice none 0 0, .slice none 0 0, .string { data := #[] }, .int .i64 0, .int .i64 0, .int .i64 0, .int .i64 0] 35)) := (Frm.refl _ _).alloc _
  generalize w.alloc (.cells #[.string { data := #[] }, .slice none 0 0, .slice none 0 0, .string { data := #[] }, .int .i64 0, .int .i64 0, .int .i64 0, .int .i64 0] 35) = w1 at *
  generalize hob0 : w.heap.size = ob at *
  have hg := resF67 p _ w1 (HCR.out.kept ka).2.2.1
  have HOB := Lib.hid hob
  have HOB0 := Lib.hid hob0
  have KA := Lib.hid ka
  have HG := Lib.hid hg
  clear hob ka hg hob0
  with_reducible refine HG.out.mono ?_
  rintro _ _ ⟨rfl, rfl⟩
  obtain ⟨n, hn, hn1, _⟩ := HSEG.out w1 KA.out
  subst hn
  dsimp only
  go_wp2_with fail
  go_loopw [6, 8, 15] (fun v6 _ v15 wr => ∃ i : Nat, i ≤ n ∧ v15 = .int .i64 i ∧ (i = 0 → v6 = .slice none 0 0) ∧ (∃ oo nn cc, v6 = .slice oo nn cc) ∧ Kept w1 wr) (fun _ _ v15 _ => n - (intOf v15).toNat)
  case atStart => exact ⟨0, Nat.zero_le _, rfl, fun _ => rfl, ⟨_, _, _, rfl⟩, Frm.refl _ _⟩
  case round =>
    obtain ⟨i, hi, rfl, hv6, hsl, hk⟩ := hrel
    by_cases hin : i < n
    · obtain rfl : n = 1 := by omega
      obtain rfl : i = 0 := by omega
      obtain rfl := hv6 rfl
      obtain ⟨n', hn', _, hh⟩ := HSEG.out wr (KA.out.trans hk)
      obtain ⟨g, b, rfl, hc, hy⟩ := hh hn'
      obtain ⟨g1, c1, wa, hrun1, hrow1, ka1, hg1⟩ := run_append_nil 32 32 5 (.int .u8 0) 1 (by kernel_rfl) info5 rfl (w := wr) ⟨b, 0, none⟩ xs.length xs.length (natVals .u8 xs) (by simp [natVals]) (by omega) (fun j u hu => by rw [addr_add]; exact hy.vals j u hu) (natVals_one .u8 xs) (by unfold maxLen; omega) (by omega)
      have hbb := Blk.new wa #[.slice (some ⟨g1, 0, none⟩) xs.length c1] 32
      obtain ⟨g2, c2', wb, hrun2, hrow2, ka2, hg2⟩ := run_append_nil 33 33 32 (.slice none 0 0) 24 (by kernel_rfl) info32 rfl (w := wa.alloc (.cells #[.slice (some ⟨g1, 0, none⟩) xs.length c1] 32)) ⟨wa.heap.size, 0, none⟩ 1 1 [.slice (some ⟨g1, 0, none⟩) xs.length c1] rfl (by omega) (fun j u hu => by
        match j with
        | 0 => simp at hu; subst hu; exact hbb.cell 0
        | j + 1 => simp at hu) (by simp [Value.oneCell']) (by unfold maxLen; omega) (by omega)
      have HK2 := Lib.hid (((hk.trans ka1).alloc _).trans ka2)
      have HRUN1 := Lib.hid hrun1
      have HRUN2 := Lib.hid hrun2
      clear hrun1 hrow1 ka1 hg1 hbb hrun2 hrow2 ka2 hg2 hk hy
      go_wp2_with (at_builtin; first
        | refine wpList_append_run rfl (.const (.slice none 0 0)) (.tmp 20) 32 32 rfl _ _ rfl rfl _ _ HRUN1.out ?_
        | refine wpList_append_run rfl (.tmp 19) (.tmp 22) 33 33 rfl _ _ rfl rfl _ _ HRUN2.out ?_)
      exact ⟨⟨_, _, _, ⟨1, by omega, rfl, fun h => by omega, ⟨_, _, _, rfl⟩, HK2.out⟩, rfl, rfl, rfl⟩, by simp [intOf]⟩
    · have hin2 : n = i := by omega
      subst hin2
      have hdd : decide ((n : Int) < n) = false := by simp
      obtain ⟨oo, nn, cc, rfl⟩ := hsl
      have hcr := HCR.out.kept (KA.out.trans hk)
      have hy := HRS.out.frm (KA.out.trans hk) (fun h => h)
      obtain ⟨g1, c1, wa, hrun1, hrow1, ka1, hg1⟩ := run_append_nil 32 32 5 (.int .u8 0) 1 (by kernel_rfl) info5 rfl (w := wr) ⟨s, 0, none⟩ D c (natVals .u8 rs) (by rw [hDl]; simp [natVals]) (by omega) (fun j u hu => by rw [addr_add]; exact hy.vals j u hu) (natVals_one .u8 rs) (by unfold maxLen; omega) (by omega)
      have hcr2 := hcr.kept ka1
      have H68 := Lib.hid (resF68 p _ wr hcr.2.1)
      have H69 := Lib.hid (resF69 p _ wr hcr.1)
      have H70 := Lib.hid (resF70 p _ wa hcr2.2.2.2.1)
      have H71 := Lib.hid (resF71 p _ wa hcr2.2.2.2.2.1)
      have H72 := Lib.hid (resF72 p _ wa hcr2.2.2.2.2.2.2.1)
      have H73 := Lib.hid (resF73 p _ wa hcr2.2.2.2.2.2.1)
      have H74 := Lib.hid (resF74 p _ wa hcr2.2.2.2.2.2.2.2)
      have hk2 := hk.trans ka1
      have hob := HOB.out.frm hk2 (fun h => h)
      have HK2 := Lib.hid (KA.out.trans hk2)
      have HRUN1 := Lib.hid hrun1
      have o0 := hob.cell 0
      have o1 := hob.cell 1
      have o2 := hob.cell 2
      have o3 := hob.cell 3
      have o4 := hob.cell 4
      have o5 := hob.cell 5
      have o6 := hob.cell 6
      have o7 := hob.cell 7
      simp only [List.getElem?_toArray, List.getElem?_cons_zero, List.getElem?_cons_succ] at o0 o1 o2 o3 o4 o5 o6 o7
      have f0 := hob.free 0
      have f1 := hob.free 1
      have f2 := hob.free 2
      have f3 := hob.free 3
      have f4 := hob.free 4
      have f5 := hob.free 5
      have f6 := hob.free 6
      have f7 := hob.free 7
      have HOB2 := Lib.hid hob
      clear hcr hy hcr2 hrun1 hrow1 ka1 hg1 hk2 hob hk hv6 hi hin HSEG HRS HL HCR HG
      go_wp2_with fail
      with_reducible refine H68.out.mono ?_
      rintro _ _ ⟨rfl, rfl⟩
      dsimp only
      go_wp2_with fail
      with_reducible refine H69.out.mono ?_
      rintro _ _ ⟨rfl, rfl⟩
      dsimp only
      go_wp2_with (at_builtin; refine wpList_append_run rfl (.const (.slice none 0 0)) (.tmp 28) 32 32 rfl _ _ rfl rfl _ _ HRUN1.out ?_)
      with_reducible refine H70.out.mono ?_
      rintro _ _ ⟨rfl, rfl⟩
      dsimp only
      go_wp2_with fail
      with_reducible refine H71.out.mono ?_
      rintro _ _ ⟨rfl, rfl⟩
      dsimp only
      go_wp2_with fail
      with_reducible refine H72.out.mono ?_
      rintro _ _ ⟨rfl, rfl⟩
      dsimp only
      go_wp2_with fail
      with_reducible refine H73.out.mono ?_
      rintro _ _ ⟨rfl, rfl⟩
      dsimp only
      go_wp2_with fail
      with_reducible refine H74.out.mono ?_
      rintro _ _ ⟨rfl, rfl⟩
      dsimp only
      go_wp2_with fail
      have hob := ((((((((HOB2.out.set 0 (.string (txtOf xs))).set 1 (.slice (some ⟨g1, 0, none⟩) rs.length c1)).set 2 (.slice oo nn cc)).set 3 (.string ls)).set 4 (.int .i64 y5)).set 5 (.int .i64 y9)).set 6 (.int .i64 y8)).set 7 (.int .i64 y10))
      have hfo : Frm (fun b => b = ob) wa ((((((((wa.setCell ⟨ob, 0, none⟩ (.string (txtOf xs))).setCell ⟨ob, 1, none⟩ (.slice (some ⟨g1, 0, none⟩) rs.length c1)).setCell ⟨ob, 2, none⟩ (.slice oo nn cc)).setCell ⟨ob, 3, none⟩ (.string ls)).setCell ⟨ob, 4, none⟩ (.int .i64 y5)).setCell ⟨ob, 5, none⟩ (.int .i64 y9)).setCell ⟨ob, 6, none⟩ (.int .i64 y8)).setCell ⟨ob, 7, none⟩ (.int .i64 y10)) := ((((((((Frm.refl (fun b => b = ob) wa).setCell (p := ⟨ob, 0, none⟩) (.inl rfl) _).setCell (p := ⟨ob, 1, none⟩) (.inl rfl) _).setCell (p := ⟨ob, 2, none⟩) (.inl rfl) _).setCell (p := ⟨ob, 3, none⟩) (.inl rfl) _).setCell (p := ⟨ob, 4, none⟩) (.inl rfl) _).setCell (p := ⟨ob, 5, none⟩) (.inl rfl) _).setCell (p := ⟨ob, 6, none⟩) (.inl rfl) _).setCell (p := ⟨ob, 7, none⟩) (.inl rfl) _
      generalize ((((((((wa.setCell ⟨ob, 0, none⟩ (.string (txtOf xs))).setCell ⟨ob, 1, none⟩ (.slice (some ⟨g1, 0, none⟩) rs.length c1)).setCell ⟨ob, 2, none⟩ (.slice oo nn cc)).setCell ⟨ob, 3, none⟩ (.string ls)).setCell ⟨ob, 4, none⟩ (.int .i64 y5)).setCell ⟨ob, 5, none⟩ (.int .i64 y9)).setCell ⟨ob, 6, none⟩ (.int .i64 y8)).setCell ⟨ob, 7, none⟩ (.int .i64 y10)) = wf at hob hfo ⊢
      have hob2 : Blk wf ob #[.string (txtOf xs), .slice (some ⟨g1, 0, none⟩) rs.length c1, .slice oo nn cc, .string ls, .int .i64 y5, .int .i64 y9, .int .i64 y8, .int .i64 y10] 35 := hob
      have hlv : (loadVar 35 ⟨ob, 0, none⟩).run Tryz.prog wf = .ok (.agg #[.string (txtOf xs), .slice (some ⟨g1, 0, none⟩) rs.length c1, .slice oo nn cc, .string ls, .int .i64 y5, .int .i64 y9, .int .i64 y8, .int .i64 y10]) wf := by
        obtain ⟨fs, hfs⟩ := struct35
        exact run_loadVar_row wf ob 35 35 _ (0, 0) _ hob2 hfs rfl (by rw [size35]; rfl)
      refine bodyPost_ret (results_cell2 rfl _ _ _ ⟨ob, 0, none⟩ rfl _ hlv) rfl ?_
      refine ⟨_, _, _, _, _, _, _, _, _, _, _, rfl, HK2.out.step hfo ?_⟩
      rintro b hb rfl
      have := HOB0.out
      omega
end Go.Proofs.YtnpkihobbcglcaaGreatDoor
