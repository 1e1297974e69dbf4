/- interleaveWithECBytes: the walk. -/
import Derived.Test.YtnpkihobbcglcaaGreatDoorQ19
set_option linter.unusedSimpArgs false
set_option linter.unusedVariables false

/- H3: interleaveWithECBytes: the walk. -/
namespace Go.Proofs.YtnpkihobbcglcaaGreatDoor
open Go Go.RowKit

theorem info175 : (Tryz.prog.info? 175).map (fun i => (i.zero, i.size, i.bytes)) = some (some (.pointer none), 1, 8) := by kernel_rfl

set_option maxRecDepth 100000 in
set_option maxHeartbeats 8000000 in
theorem interleave (p b : Nat) (bs : List Bool) (T D N dq ec r : Nat) (w : World) (h : BitA w p b bs) (hb : bs.length = 8 * D) (hT : T = N * (dq + ec) + r) (hD : D = N * dq + r) (hr : r < N) (hN : N ≤ 10) (hdq1 : 1 ≤ dq) (hdq : dq ≤ 200) (he1 : 1 ≤ ec) (he : ec < 31) :
    Calls Tryz.prog 51 #[.pointer (some ⟨p, 0, none⟩), .int .i64 T, .int .i64 D, .int .i64 N] w fun e w' => ∃ q c L, e = .returned (.tuple #[.pointer (some ⟨q, 0, none⟩), .nilIface]) ∧ BitA w' q c (interBits L) ∧ L.length = N ∧ GoodL bs N dq r ec L ∧ (interBits L).length = 8 * T ∧ Kept w w' ∧ w.heap.size ≤ q ∧ w.heap.size ≤ c := by
  have hDb : D ≤ 2010 := by
    rw [hD]
    have := Nat.mul_le_mul hN hdq
    omega
  have hTb : T ≤ 10000 := by
    rw [hT]
    have := Nat.mul_le_mul hN (show dq + ec ≤ 230 by omega)
    omega
  have H := Lib.hid h
  have HB := Lib.hid hb
  have HT := Lib.hid hT
  have HD := Lib.hid hD
  have hmk := run_make_one 169 175 (.pointer none) 8 (by kernel_rfl) info175 rfl 0 (by omega) (by omega) w
  simp only [Int.cast_ofNat_Int] at hmk
  clear h hb hT hD
  go_enter Tryz.func51, Tryz.ntmps51
  try dsimp only
  go_wp2_with fail
  with_reducible refine (sizeInBytes p b bs D w H.out HB.out (by omega)).mono ?_
  rintro e _ ⟨rfl, rfl⟩
  try dsimp only
  go_wp2_with fail
  have k0 : Kept w (w.alloc (.cells #[] 175)) := (Frm.refl _ _).alloc _
  have r0 : Row (w.alloc (.cells #[] 175)) 175 w.heap.size 0 0 [] := Row.made (Blk.new w #[] 175) (by simp [maxLen])
  generalize w.alloc (.cells #[] 175) = w0 at k0 r0 ⊢
  go_loopw [10, 11, 12, 13, 14, 15, 16, 17, 18, 19, 20] (fun ov mv nv sv iv _ _ _ _ _ _ wr => ∃ (i : Nat) (g cap : Nat) (ptrs : List Value) (L : List Pair), i ≤ N ∧ iv = .int .i64 i ∧ ov = .int .i64 (bOff N dq r i) ∧ mv = .int .i64 (maxOf (L.map (·.1)) : Nat) ∧ nv = .int .i64 (maxOf (L.map (·.2)) : Nat) ∧ sv = .slice (some ⟨g, 0, none⟩) i cap ∧ Row wr 175 g i cap ptrs ∧ w.heap.size ≤ g ∧ Pairs wr ptrs L ∧ L.length = i ∧ GoodL bs N dq r ec L ∧ Kept w wr) (fun _ _ _ _ iv _ _ _ _ _ _ _ => N - (intOf iv).toNat)
  case atStart => exact ⟨0, w.heap.size, 0, [], [], Nat.zero_le _, rfl, rfl, rfl, rfl, rfl, r0, Nat.le_refl _, ⟨rfl, fun j x hx => by simp at hx⟩, rfl, fun j x hx => by simp at hx, k0⟩
  case round =>
    obtain ⟨i, g, cap, ptrs, L, hi, rfl, rfl, rfl, rfl, rfl, hrow, hg, hps, hL, hgood, hk⟩ := hrel
    clear k0 r0
    have HROW := Lib.hid hrow
    have HPS := Lib.hid hps
    have HLL := Lib.hid hL
    have HGD := Lib.hid hgood
    have HK := Lib.hid hk
    clear hrow hps hL hgood hk hmk
    by_cases hlt : i < N
    · have hdi : decide ((i : Int) < N) = true := by simp; omega
      have hsz : bSize N dq r i ≤ 201 ∧ 1 ≤ bSize N dq r i := by unfold bSize; split <;> omega
      obtain ⟨hsz2, hsz1⟩ := hsz
      have hoff : bOff N dq r i + bSize N dq r i ≤ D := by
        have h1 := bOff_eq N dq r hr (i + 1) (by omega)
        have h2 : (i + 1) * dq ≤ N * dq := Nat.mul_le_mul_right _ (by omega)
        have h3 : bOff N dq r (i + 1) = bOff N dq r i + bSize N dq r i := rfl
        have := HD.out
        omega
      try dsimp only
      go_wp2_with fail
      have hA := blockSizes T D N dq ec r i wr HT.out HD.out hr hlt hTb (by omega) (by omega)
      rw [show (if i < N - r then dq else dq + 1) = bSize N dq r i from rfl] at hA
      with_reducible refine hA.mono ?_
      clear hA
      rintro e _ ⟨rfl, rfl⟩
      have hmk := run_make_ints 32 5 .u8 1 (by kernel_rfl) info5 (bSize N dq r i) (by omega) (by omega) wr
      have hoS : bOff N dq r (i + 1) = bOff N dq r i + bSize N dq r i := rfl
      have HOS := Lib.hid hoS
      have hn0 := Nats.new wr .u8 5 (List.replicate (bSize N dq r i) 0)
      have k1 : Kept wr (wr.alloc (.cells (natCells .u8 (List.replicate (bSize N dq r i) 0)) 5)) := (Frm.refl _ _).alloc _
      have hTBy := toBytes_any p b wr.heap.size bs (8 * bOff N dq r i) (bSize N dq r i) (List.replicate (bSize N dq r i) 0) 5 (wr.alloc (.cells (natCells .u8 (List.replicate (bSize N dq r i) 0)) 5)) (H.out.frm (HK.out.trans k1) (fun h => h) (fun h => h)) hn0 (by simp) (by have := H.out.lt.1; have := HK.out.size; omega) (by have := H.out.lt.2.1; have := HK.out.size; omega) (by rw [HB.out]; omega) (by rw [HB.out]; omega)
      rw [Int.natCast_mul] at hTBy
      simp only [Int.cast_ofNat_Int] at hTBy
      have HTB := Lib.hid hTBy
      have K1 := Lib.hid k1
      clear hTBy hoS hn0 k1
      generalize hso : bSize N dq r i = sz at *
      generalize hof : bOff N dq r i = off at *
      have HSO := Lib.hid hso
      have HOF := Lib.hid hof
      clear hso hof
      try dsimp only
      go_wp2_with fail
      with_reducible refine HTB.out.mono ?_
      clear HTB
      rintro e w2 ⟨rfl, hn2, f2⟩
      have k2 : Kept wr w2 := K1.out.step f2 (fun k hk e => by omega)
      have hby : Bytes (bytesFrom bs (8 * off) sz) := by
        intro c hc
        unfold bytesFrom at hc
        obtain ⟨j, _, rfl⟩ := List.mem_map.1 hc
        exact partByte_lt _ _ _
      have hA := genEC wr.heap.size sz ec (bytesFrom bs (8 * off) sz) w2 hn2 he1 he (bytesFrom_length _ _ _) hsz1 (by omega) hby
      have HA := Lib.hid hA
      have HN2 := Lib.hid hn2
      have K2 := Lib.hid k2
      clear hA hn2 k2 f2 hby K1
      try dsimp only
      go_wp2_with fail
      with_reducible refine HA.out.mono ?_
      clear HA
      rintro e w3 ⟨eb, ecs, rfl, hne, hel, heb, hro, k3, leb⟩
      have hx : PairAt (w3.alloc (.cells #[.slice (some ⟨wr.heap.size, 0, none⟩) sz sz, .slice (some ⟨eb, 0, none⟩) ec ec] 215)) w3.heap.size (bytesFrom bs (8 * off) sz, ecs) := by
        refine ⟨_, _, ?_, (HN2.out.frm k3 (fun h => h)).alloc _, hne.alloc _⟩
        have := Blk.new w3 #[.slice (some ⟨wr.heap.size, 0, none⟩) sz sz, .slice (some ⟨eb, 0, none⟩) ec ec] 215
        simp only [bytesFrom_length, hel]
        exact this
      have k4 : Kept wr (w3.alloc (.cells #[.slice (some ⟨wr.heap.size, 0, none⟩) sz sz, .slice (some ⟨eb, 0, none⟩) ec ec] 215)) := (K2.out.trans k3).alloc _
      have hnp := newPair wr.heap.size eb sz ec w3
      have HX := Lib.hid hx
      have K4 := Lib.hid k4
      have HNP := Lib.hid hnp
      have HEL := Lib.hid hel
      have HEB := Lib.hid heb
      have HRO := Lib.hid hro
      clear hx k4 hnp hel heb hro hne k3 HN2 K2 leb
      try dsimp only
      go_wp2_with fail
      with_reducible refine HNP.out.mono ?_
      clear HNP
      rintro e _ ⟨rfl, rfl⟩
      generalize hW4 : w3.alloc (.cells #[.slice (some ⟨wr.heap.size, 0, none⟩) sz sz, .slice (some ⟨eb, 0, none⟩) ec ec] 215) = w4 at HX K4 ⊢
      have hw4 : w4.heap.size = w3.heap.size + 1 := by rw [← hW4]; simp
      clear hW4
      generalize w3.heap.size = pb at HX hw4 ⊢
      have r4 := HROW.out.kept K4.out
      obtain ⟨g', cap', w5, hrun, hrow5, f5, hg5⟩ := run_append_row1 169 169 175 (.pointer none) 8 (by kernel_rfl) info175 rfl r4 (.pointer (some ⟨pb, 0, none⟩)) rfl (by unfold maxLen; omega) (by omega)
      have HP5 := Lib.hid (((HPS.out.kept K4.out).push HX.out).row r4 f5)
      have K5 : Hid (Kept w w5) := Lib.hid ((HK.out.trans K4.out).step f5 (by rintro k hk rfl; omega))
      have HG5 : Hid (w.heap.size ≤ g') := by
        have h1 := HK.out.size
        have h2 := K4.out.size
        refine Lib.hid ?_
        omega
      have HR5 := Lib.hid hrow5
      have HRUN := Lib.hid hrun
      clear r4 hrun hrow5 f5 hg5 HX K4 HROW HPS hw4
      have hM1 : maxOf ((L ++ [(bytesFrom bs (8 * off) sz, ecs)]).map (·.1)) = max (maxOf (L.map (·.1))) sz := by rw [List.map_append]; exact (maxOf_push _ _).trans (by rw [bytesFrom_length])
      have hM2 : maxOf ((L ++ [(bytesFrom bs (8 * off) sz, ecs)]).map (·.2)) = max (maxOf (L.map (·.2))) ec := by rw [List.map_append]; exact (maxOf_push _ _).trans (by rw [HEL.out])
      have HM1 := Lib.hid hM1
      have HM2 := Lib.hid hM2
      have hGD : GoodL bs N dq r ec (L ++ [(bytesFrom bs (8 * off) sz, ecs)]) := HGD.out.push (by rw [HLL.out, HOF.out, HSO.out]; exact ⟨rfl, HEL.out, HEB.out, HRO.out⟩)
      have HGD5 := Lib.hid hGD
      have hlen5 : (L ++ [(bytesFrom bs (8 * off) sz, ecs)]).length = i + 1 := by simp [HLL.out]
      have HL5 := Lib.hid hlen5
      clear hM1 hM2 hGD hlen5
      generalize L ++ [(bytesFrom bs (8 * off) sz, ecs)] = L5 at HP5 HM1 HM2 HGD5 HL5
      generalize hm1 : maxOf (L.map (·.1)) = m1 at HM1 ⊢
      generalize hm2 : maxOf (L.map (·.2)) = m2 at HM2 ⊢
      have hmb1 : m1 ≤ 201 := by rw [← hm1]; have := HGD.out.max1; omega
      have hmb2 : m2 ≤ 31 := by rw [← hm2]; have := HGD.out.max2; omega
      clear hm1 hm2
      go_wp2_with (at_builtin; refine wpList_append_run rfl (.tmp 73) (.tmp 77) 169 169 rfl _ _ rfl rfl _ _ HRUN.out ?_)
      all_goals refine ⟨⟨i + 1, g', cap', ptrs ++ [.pointer (some ⟨pb, 0, none⟩)], L5, by omega, by go_num, ?_, ?_, ?_, rfl, HR5.out, HG5.out, HP5.out, HL5.out, HGD5.out, K5.out⟩, by simp [intOf]; omega⟩
      all_goals first
        | (rw [HOS.out]; rfl)
        | (rw [HM1.out]; congr 2; omega)
        | (rw [HM2.out]; congr 2; omega)
    · obtain rfl : i = N := by omega
      have hdi : decide ((i : Int) < i) = false := by simp
      have hoffN : bOff i dq r i = D := by
        rw [bOff_eq i dq r hr i (Nat.le_refl _), HD.out]; omega
      rw [hoffN]
      obtain ⟨hs1, hs2⟩ := GoodL.sums L HGD.out
      rw [HLL.out, hoffN] at hs1
      rw [HLL.out] at hs2
      have hfull : (interBits L).length = 8 * T := by
        unfold interBits
        rw [List.length_append, interUp_len, interUp_len, sumMin_all _ _ (maxOf_ge _), sumMin_all _ _ (maxOf_ge _), hs1, hs2, HT.out, HD.out, Nat.mul_add]
        have := Nat.mul_add i dq ec
        omega
      have hmb1 := HGD.out.max1
      have hmb2 := HGD.out.max2
      have HFULL := Lib.hid hfull
      have HS1 := Lib.hid hs1
      have HS2 := Lib.hid hs2
      clear hfull hs1 hs2 hoffN
      generalize hm1 : maxOf (L.map (·.1)) = m1 at hmb1 ⊢
      generalize hm2 : maxOf (L.map (·.2)) = m2 at hmb2 ⊢
      have HMM1 := Lib.hid hm1
      have HMM2 := Lib.hid hm2
      clear hm1 hm2
      rename World => wz
      try dsimp only
      go_wp2_with fail
      with_reducible refine (emptyBits wz).mono ?_
      rintro e w1 ⟨q, c, rfl, hba, kq, lq, lc⟩
      have hb0 : BitA w1 q c [] := ⟨_, hba⟩
      have HRW := Lib.hid HROW.out
      have HPW := Lib.hid HPS.out
      have HKW := Lib.hid HK.out
      clear hba HROW HPS HK
      have hln1 : ∀ t, t ≤ m1 → (interUp (L.map (·.1)) t).length ≤ 20000 := by
        intro t _
        rw [interUp_len]
        have h1 := sumMin_le (L.map (·.1)) t
        have h2 := HS1.out
        omega
      have HLN1 := Lib.hid hln1
      have hln2 : ∀ t, t ≤ m2 → (interUp (L.map (·.2)) t).length ≤ 20000 := by
        intro t _
        rw [interUp_len]
        have h1 := sumMin_le (L.map (·.2)) t
        have h2 := HS2.out
        have h3 := Nat.mul_le_mul hi (show ec ≤ 30 by omega)
        have h4 : (((L.map (·.2)).map List.length).sum) ≤ 300 := by rw [h2]; exact Nat.le_trans (Nat.mul_le_mul hN (show ec ≤ 30 by omega)) (by omega)
        omega
      have HLN2 := Lib.hid hln2
      clear hln1 hln2
      try dsimp only
      go_wp2_with fail
      go_loopw [22] (fun tv wx => ∃ (t c' : Nat), t ≤ m1 ∧ tv = .int .i64 t ∧ BitA wx q c' (interUp (L.map (·.1)) t) ∧ wz.heap.size ≤ c' ∧ Kept wz wx) (fun tv _ => m1 - (intOf tv).toNat)
      case atStart => exact ⟨0, c, Nat.zero_le _, rfl, hb0, lc, kq⟩
      case round =>
        obtain ⟨t, c', ht, rfl, hbt, lc', kt⟩ := hrel
        have HBT := Lib.hid hbt
        have HKT := Lib.hid kt
        clear hbt kt
        by_cases htm : t < m1
        · have hdt : decide ((t : Int) < m1) = true := by simp; omega
          have hS : (interUp (L.map (·.1)) (t + 1)) = (interUp (L.map (·.1)) t) ++ interSel (L.map (·.1)) t i := by
            show ((interUp (L.map (·.1)) t ++ interSel (L.map (·.1)) t (L.map (·.1)).length)) = _
            rw [List.length_map, HLL.out]
          have HS := Lib.hid hS
          have hlt0 : (interUp (L.map (·.1)) t).length ≤ 40000 := by
            have h1 := HLN1.out t ht
            omega
          have HLT0 := Lib.hid hlt0
          clear hS hlt0
          generalize hpre : (interUp (L.map (·.1)) t) = pre at HBT HS HLT0
          clear hpre
          try dsimp only
          go_wp2
          go_loopw [106] (fun kv wy => ∃ (k c' : Nat), k ≤ i ∧ kv = .int .i64 k ∧ BitA wy q c' (pre ++ interSel (L.map (·.1)) t k) ∧ wz.heap.size ≤ c' ∧ Kept wz wy) (fun kv _ => i - (intOf kv).toNat)
          case atStart => exact ⟨0, c', Nat.zero_le _, rfl, by rw [interSel_zero, List.append_nil]; exact HBT.out, lc', HKT.out⟩
          case round =>
            obtain ⟨k, c2, hk2, rfl, hbk, lc2, kk⟩ := hrel
            by_cases hki : k < i
            · obtain ⟨⟨xa, xb⟩, hx⟩ : ∃ x : Pair, L[k]? = some x := ⟨_, List.getElem?_eq_getElem (by rw [HLL.out]; exact hki)⟩
              obtain ⟨pb, hpb, hpa⟩ := HPW.out.at_ k (xa, xb) hx
              obtain ⟨d, e, b1, b2, b3⟩ := (hpa.kept kk).ex
              have c0 := (HRW.out.kept kk).cell k hki
              rw [hpb] at c0
              have cp : wr.cell? ⟨pb, 0, none⟩ = some (.slice (some ⟨d, 0, none⟩) xa.length xa.length) := b1.cell 0
              have hsel := interSel_succ (L.map (·.1)) t k xa (by rw [List.getElem?_map, hx]; rfl)
              have hbx : Bytes xa := HGD.out.bytes1 hx
              have HBX := Lib.hid hbx
              have hlen : (pre ++ interSel (L.map (·.1)) t k).length ≤ 40080 := by
                rw [List.length_append]
                have h1 := interSel_len (L.map (·.1)) t k
                have h2 := HLT0.out
                omega
              have hdk : decide ((k : Int) < i) = true := by simp; omega
              have H1 := Lib.hid hsel
              have HLEN := Lib.hid hlen
              have HBK := Lib.hid hbk
              have HKK := Lib.hid kk
              clear hsel hlen hbk hx hpb hpa b1 hbx
              by_cases htx : t < xa.length
              · have hdx : decide ((t : Int) < (xa.length : Nat)) = true := by simp; omega
                have bdat : Nats wr d .u8 5 xa := b2
                have cb := bdat.cell t htx
                have hv : xa.getD t 0 < 256 := bytes_at HBX.out t
                generalize hvv : xa.getD t 0 = v at cb hv
                have HVV := Lib.hid hvv
                clear hvv b2 b3 kk bdat
                try dsimp only
                go_wp2_with fail
                with_reducible refine (pairData pb _ wr cp).mono ?_
                rintro _ _ ⟨rfl, rfl⟩
                try dsimp only
                go_wp2_with fail
                have hA := appendBits_any q c2 _ v 8 wr HBK.out (by have := HLEN.out; omega) (by omega) (by omega)
                simp only [Int.cast_ofNat_Int] at hA
                with_reducible refine hA.mono ?_
                clear hA
                rintro _ w2 ⟨rfl, hgr⟩
                obtain ⟨⟨c3, ha3, hc3⟩, f3⟩ := hgr
                have k3 : Kept wz w2 := HKK.out.step f3 (by
                  rintro y hy (rfl | rfl) <;> omega)
                have HA3 := Lib.hid ha3
                have K3 := Lib.hid k3
                clear ha3 k3 f3
                try dsimp only
                go_wp2
                refine ⟨⟨k + 1, c3, by omega, by go_num, ?_, ?_, K3.out⟩, by simp [intOf]; omega⟩
                · rw [H1.out, if_pos htx, ← List.append_assoc, HVV.out]; exact HA3.out
                · have := HKK.out.size
                  omega
              · have hdx : decide ((t : Int) < (xa.length : Nat)) = false := by simp; omega
                clear b2 b3 kk
                try dsimp only
                go_wp2_with fail
                with_reducible refine (pairData pb _ wr cp).mono ?_
                rintro _ _ ⟨rfl, rfl⟩
                try dsimp only
                go_wp2
                refine ⟨⟨k + 1, c2, by omega, by go_num, ?_, lc2, HKK.out⟩, by simp [intOf]; omega⟩
                rw [H1.out, if_neg htx, List.append_nil]; exact HBK.out
            · obtain rfl : k = i := by omega
              have hdk : decide ((k : Int) < k) = false := by simp
              try dsimp only
              go_wp2
              refine ⟨⟨t + 1, c2, by omega, by go_num, by rw [HS.out]; exact hbk, lc2, kk⟩, by simp [intOf]; omega⟩
        · obtain rfl : t = m1 := by omega
          have hdt : decide ((t : Int) < t) = false := by simp
          have hB1 := HBT.out
          have hPl : (interUp (L.map (·.1)) t).length ≤ 20000 := HLN1.out t (Nat.le_refl _)
          generalize hP1 : interUp (L.map (·.1)) t = P1 at hB1 hPl
          have HB1 := Lib.hid hB1
          have HPL := Lib.hid hPl
          have HP1 := Lib.hid hP1
          clear hB1 hPl hP1 HBT
          try dsimp only
          go_wp2
          go_loopw [26] (fun tv wx => ∃ (t c' : Nat), t ≤ m2 ∧ tv = .int .i64 t ∧ BitA wx q c' (P1 ++ interUp (L.map (·.2)) t) ∧ wz.heap.size ≤ c' ∧ Kept wz wx) (fun tv _ => m2 - (intOf tv).toNat)
          case atStart => exact ⟨0, c', Nat.zero_le _, rfl, by show BitA wr q c' (P1 ++ []); rw [List.append_nil]; exact HB1.out, lc', HKT.out⟩
          case round =>
            obtain ⟨t, c', ht, rfl, hbt, lc', kt⟩ := hrel
            have HBT := Lib.hid hbt
            have HKT := Lib.hid kt
            clear hbt kt
            by_cases htm : t < m2
            · have hdt : decide ((t : Int) < m2) = true := by simp; omega
              have hS : (P1 ++ interUp (L.map (·.2)) (t + 1)) = (P1 ++ interUp (L.map (·.2)) t) ++ interSel (L.map (·.2)) t i := by
                show (P1 ++ (interUp (L.map (·.2)) t ++ interSel (L.map (·.2)) t (L.map (·.2)).length)) = _
                rw [List.length_map, HLL.out]
                rw [List.append_assoc]
              have HS := Lib.hid hS
              have hlt0 : (P1 ++ interUp (L.map (·.2)) t).length ≤ 40000 := by
                have h1 := HLN2.out t ht
                have h2 := HPL.out
                rw [List.length_append]; omega
              have HLT0 := Lib.hid hlt0
              clear hS hlt0
              generalize hpre : (P1 ++ interUp (L.map (·.2)) t) = pre at HBT HS HLT0
              clear hpre
              try dsimp only
              go_wp2
              go_loopw [131] (fun kv wy => ∃ (k c' : Nat), k ≤ i ∧ kv = .int .i64 k ∧ BitA wy q c' (pre ++ interSel (L.map (·.2)) t k) ∧ wz.heap.size ≤ c' ∧ Kept wz wy) (fun kv _ => i - (intOf kv).toNat)
              case atStart => exact ⟨0, c', Nat.zero_le _, rfl, by rw [interSel_zero, List.append_nil]; exact HBT.out, lc', HKT.out⟩
              case round =>
                obtain ⟨k, c2, hk2, rfl, hbk, lc2, kk⟩ := hrel
                by_cases hki : k < i
                · obtain ⟨⟨xa, xb⟩, hx⟩ : ∃ x : Pair, L[k]? = some x := ⟨_, List.getElem?_eq_getElem (by rw [HLL.out]; exact hki)⟩
                  obtain ⟨pb, hpb, hpa⟩ := HPW.out.at_ k (xa, xb) hx
                  obtain ⟨d, e, b1, b2, b3⟩ := (hpa.kept kk).ex
                  have c0 := (HRW.out.kept kk).cell k hki
                  rw [hpb] at c0
                  have cp : wr.cell? ⟨pb, 1, none⟩ = some (.slice (some ⟨e, 0, none⟩) xb.length xb.length) := b1.cell 1
                  have hsel := interSel_succ (L.map (·.2)) t k xb (by rw [List.getElem?_map, hx]; rfl)
                  have hbx : Bytes xb := HGD.out.bytes2 hx
                  have HBX := Lib.hid hbx
                  have hlen : (pre ++ interSel (L.map (·.2)) t k).length ≤ 40080 := by
                    rw [List.length_append]
                    have h1 := interSel_len (L.map (·.2)) t k
                    have h2 := HLT0.out
                    omega
                  have hdk : decide ((k : Int) < i) = true := by simp; omega
                  have H2 := Lib.hid hsel
                  have HLEN := Lib.hid hlen
                  have HBK := Lib.hid hbk
                  have HKK := Lib.hid kk
                  clear hsel hlen hbk hx hpb hpa b1 hbx
                  by_cases htx : t < xb.length
                  · have hdx : decide ((t : Int) < (xb.length : Nat)) = true := by simp; omega
                    have bdat : Nats wr e .u8 5 xb := b3
                    have cb := bdat.cell t htx
                    have hv : xb.getD t 0 < 256 := bytes_at HBX.out t
                    generalize hvv : xb.getD t 0 = v at cb hv
                    have HVV := Lib.hid hvv
                    clear hvv b2 b3 kk bdat
                    try dsimp only
                    go_wp2_with fail
                    with_reducible refine (pairEC pb _ wr cp).mono ?_
                    rintro _ _ ⟨rfl, rfl⟩
                    try dsimp only
                    go_wp2_with fail
                    have hA := appendBits_any q c2 _ v 8 wr HBK.out (by have := HLEN.out; omega) (by omega) (by omega)
                    simp only [Int.cast_ofNat_Int] at hA
                    with_reducible refine hA.mono ?_
                    clear hA
                    rintro _ w2 ⟨rfl, hgr⟩
                    obtain ⟨⟨c3, ha3, hc3⟩, f3⟩ := hgr
                    have k3 : Kept wz w2 := HKK.out.step f3 (by
                      rintro y hy (rfl | rfl) <;> omega)
                    have HA3 := Lib.hid ha3
                    have K3 := Lib.hid k3
                    clear ha3 k3 f3
                    try dsimp only
                    go_wp2
                    refine ⟨⟨k + 1, c3, by omega, by go_num, ?_, ?_, K3.out⟩, by simp [intOf]; omega⟩
                    · rw [H2.out, if_pos htx, ← List.append_assoc, HVV.out]; exact HA3.out
                    · have := HKK.out.size
                      omega
                  · have hdx : decide ((t : Int) < (xb.length : Nat)) = false := by simp; omega
                    clear b2 b3 kk
                    try dsimp only
                    go_wp2_with fail
                    with_reducible refine (pairEC pb _ wr cp).mono ?_
                    rintro _ _ ⟨rfl, rfl⟩
                    try dsimp only
                    go_wp2
                    refine ⟨⟨k + 1, c2, by omega, by go_num, ?_, lc2, HKK.out⟩, by simp [intOf]; omega⟩
                    rw [H2.out, if_neg htx, List.append_nil]; exact HBK.out
                · obtain rfl : k = i := by omega
                  have hdk : decide ((k : Int) < k) = false := by simp
                  try dsimp only
                  go_wp2
                  refine ⟨⟨t + 1, c2, by omega, by go_num, by rw [HS.out]; exact hbk, lc2, kk⟩, by simp [intOf]; omega⟩
            · obtain rfl : t = m2 := by omega
              have hdt : decide ((t : Int) < t) = false := by simp
              try dsimp only
              go_wp2_with fail
              have hbits : (P1 ++ interUp (L.map (·.2)) t) = interBits L := by
                unfold interBits
                rw [HMM1.out, HMM2.out, HP1.out]
              have hfin := HBT.out
              rw [hbits] at hfin
              have HFIN := Lib.hid hfin
              clear hfin hbits
              with_reducible refine (sizeInBytes q c' (interBits L) T _ HFIN.out HFULL.out (by omega)).mono ?_
              rintro _ _ ⟨rfl, rfl⟩
              try dsimp only
              go_wp2
              go_ret2
              exact ⟨q, c', L, rfl, HFIN.out, HLL.out, HGD.out, HFULL.out, HKW.out.trans HKT.out, by have := HKW.out.size; omega, by have := HKW.out.size; omega⟩
end Go.Proofs.YtnpkihobbcglcaaGreatDoor
