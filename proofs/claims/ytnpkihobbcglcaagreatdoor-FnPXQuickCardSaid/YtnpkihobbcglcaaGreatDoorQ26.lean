/- Encoder_encode: the walk. QREncode: the walk. The picture's margins. -/
import Derived.Test.YtnpkihobbcglcaaGreatDoorQ24
import Derived.Test.YtnpkihobbcglcaaGreatDoorQ25
import Derived.Deep.CutRange
set_option linter.unusedSimpArgs false
set_option linter.unusedVariables false

/- K3: Encoder_encode: the walk. -/
namespace Go.Proofs.YtnpkihobbcglcaaGreatDoor
open Go Go.RowKit

/-- What a growing array leaves alone, if it lies behind a world. -/
theorem Grew.past {z w w' : World} {p b : Nat} {cs : List Bool} (h : Grew w w' p b cs) (k : Kept z w) (hp : z.heap.size ≤ p) (hb : z.heap.size ≤ b) : Kept z w' :=
  k.step h.frm (by rintro x hx (rfl | rfl) <;> omega)

set_option maxRecDepth 100000 in
set_option maxHeartbeats 8000000 in
theorem encodeText (h3 : Rule3) (s : ByteArray) (mb l c0 : Nat) (w : World) (hmap : w.heap[mb]? = some (.map #[] c0)) (hl : l < 4) (hs1 : 1 ≤ s.size) (hs2 : s.size ≤ 60) :
    Calls Tryz.prog 10 #[.string s, .int .i64 l, .map (some mb)] w fun e w' => ∃ qp pv p r v m k tl L, e = .returned (.tuple #[.pointer (some ⟨qp, 0, none⟩), .nilIface]) ∧ Blk w' qp #[.int .i64 (m : Nat), .int .i64 l, .pointer (some ⟨pv, 0, none⟩), .int .i64 (k : Nat), .pointer (some ⟨p, 0, none⟩)] 116 ∧ VerAt w' pv v ∧ BM w' p r (dim v) (matG v l k (interBits L)) ∧ Coded (sb s) l v m k tl L ∧ Kept w w' := by
  have hlen := sb_len s
  have HLN := Lib.hid hlen
  have hmb : mb < w.heap.size := (Array.getElem?_eq_some_iff.1 hmap).1
  have hlook : ∀ (z : World) (k : Int), Kept w z → (Instr.lookup 40 (.map (some mb)) (.int .i64 k) true).run Tryz.prog z = .ok (.tuple #[.nilIface, .bool false]) z :=
    fun z k hk => look_empty mb c0 k z (by rw [hk.block mb hmb (fun h => h)]; exact hmap)
  have HLK := Lib.hid hlook
  have look1 := hlook w 1 (Frm.refl _ _)
  have H3 := Lib.hid h3
  clear hlen hlook h3 hmap
  go_enter Tryz.func10, Tryz.ntmps10
  go_wp2_with fail
  with_reducible refine (chooseMode s w hs2 hs1).mono ?_
  rintro _ w1 ⟨m, rfl, hsu, k1⟩
  have HSU := Lib.hid hsu
  have hmode := hsu.mode
  have HMD := Lib.hid hmode
  clear hsu hmode look1
  dsimp only
  go_wp2_with fail
  with_reducible refine (emptyBits w1).mono ?_
  rintro _ w2 ⟨p1, b1, rfl, ha1, k2, lp1, lb1⟩
  have look2 := HLK.out w2 12 (k1.trans k2)
  have G2 := Lib.hid (Grew.refl (show BitA w2 p1 b1 [] from ⟨_, ha1⟩))
  have K2 := Lib.hid (k1.trans k2)
  have lw0 := k1.size
  clear ha1 k1 k2
  dsimp only
  go_wp2_with fail
  with_reducible refine (appendMode p1 b1 m [] w2 w2 G2.out HMD.out (by simp)).mono ?_
  rintro _ w3 ⟨rfl, h3⟩
  have G3 := Lib.hid h3
  have lw1 := K2.out.size
  clear h3 look2 G2
  dsimp only
  obtain ⟨c1, hc1, hcc1⟩ := G3.out.arr
  rw [List.nil_append] at hc1
  obtain ⟨p1lt, c1lt, _⟩ := hc1.lt
  have A3 := Lib.hid hc1
  have K3 := Lib.hid (G3.out.past K2.out (by omega) (by omega))
  clear hc1 hcc1
  go_wp2_with fail
  with_reducible refine (emptyBits w3).mono ?_
  rintro _ w4 ⟨p2, b2, rfl, ha2, k4, lp2, lb2⟩
  have G4 := Lib.hid (Grew.refl (show BitA w4 p2 b2 [] from ⟨_, ha2⟩))
  have K34 := Lib.hid k4
  clear ha2 k4
  dsimp only
  go_wp2_with fail
  with_reducible refine (appendText s m p2 b2 [] w4 w4 G4.out (by simp) hs2 HSU.out).mono ?_
  rintro _ w5 ⟨rfl, h5⟩
  rw [List.nil_append] at h5
  obtain ⟨c2, hc2, hcc2⟩ := h5.arr
  obtain ⟨p2lt, c2lt, _⟩ := hc2.lt
  have A5 := Lib.hid hc2
  have K35 := Lib.hid (h5.past K34.out lp2 lb2)
  have K5 := Lib.hid (K3.out.trans K35.out)
  have look3 := HLK.out w5 10 K5.out
  have hdl : (txtBits m (sb s)).length ≤ 480 := by have := txtBits_len m (sb s); have := HLN.out; omega
  have hcc : ccb m ≤ 10 := by unfold ccb; split <;> (try split) <;> omega
  have hh4 : (topBits m 4 4).length = 4 := topBits_length _ _ _
  have hf : fits 7 l ((topBits m 4 4).length + ccb m + (txtBits m (sb s)).length) := by
    have := dataCw_7 l hl
    unfold fits
    omega
  have hR := recommend m l p1 c1 p2 c2 _ _ w5 HMD.out (A3.out.frm K35.out (fun h => h) (fun h => h)) A5.out hl (by omega) (by omega) hf
  have HR := Lib.hid hR
  have HDL := Lib.hid hdl
  have HH4 := Lib.hid hh4
  clear hc2 hcc2 h5 hdl hh4 hf hR
  dsimp only
  go_wp2_with fail
  with_reducible refine HR.out.mono ?_
  clear HR
  rintro _ w6 ⟨pv, v, rfl, hv, v1, v7, hfit, k6⟩
  have V6 := Lib.hid hv
  have FIT := Lib.hid hfit
  have K36 := Lib.hid (K35.out.trans k6)
  have K6 := Lib.hid (K5.out.trans k6)
  have A6h := Lib.hid (A3.out.frm (K35.out.trans k6) (fun h => h) (fun h => h))
  have A6d := Lib.hid (A5.out.frm k6 (fun h => h) (fun h => h))
  have lw6 := k6.size
  clear hv hfit k6 look3 G4 K34
  dsimp only
  go_wp2_with fail
  with_reducible refine (emptyBits w6).mono ?_
  rintro _ w7 ⟨p3, b3, rfl, ha3, k7, lp3, lb3⟩
  have lw36 := K36.out.size
  have hA := appendArray_any p3 b3 p1 c1 [] (topBits m 4 4) w7 ⟨_, ha3⟩ (A6h.out.frm k7 (fun h => h) (fun h => h)) (by omega) (by omega) (by omega) (by omega) (by have := HH4.out; simp; omega)
  have HA := Lib.hid hA
  have K7 := Lib.hid k7
  clear ha3 k7 hA
  dsimp only
  go_wp2_with fail
  with_reducible refine HA.out.mono ?_
  clear HA
  rintro _ w8 ⟨rfl, h8⟩
  rw [List.nil_append] at h8
  have G8 := Lib.hid h8
  have K68 := Lib.hid (h8.past K7.out lp3 lb3)
  clear h8
  dsimp only
  go_upto_if 158 with fail
  go_cut [30] from 159 to 160 (fun s30 wx => s30 = .int .i64 s.size ∧ w8 = wx)
  case first =>
    by_cases hm4 : m = 4
    · have h4a : 4 ≤ m := by omega
      have h4b : m ≤ 4 := by omega
      have hdl4 : (txtBits m (sb s)).length = 8 * s.size := by
        rw [hm4]
        unfold txtBits
        rw [if_neg (by omega), if_neg (by omega), bytBits_len, HLN.out]
      have hib := sizeInBytes p2 c2 _ s.size w8 (A6d.out.frm K68.out (fun h => h) (fun h => h)) hdl4 (by omega)
      have HIB := Lib.hid hib
      clear hm4 hdl4 hib
      go_wp2_with fail
      with_reducible refine HIB.out.mono ?_
      rintro _ _ ⟨rfl, rfl⟩
      dsimp only
      go_wp2_with fail
      go_meet
      exact ⟨rfl, rfl⟩
    · have h4a : m < 4 ∨ 4 < m := by omega
      clear hm4
      go_wp2_with fail
      go_meet
      exact ⟨rfl, rfl⟩
  case rest =>
    obtain ⟨rfl, rfl⟩ := hcut
    have hAL := appendLength p3 b3 m v pv s.size (topBits m 4 4) w7 w8 G8.out HMD.out (by have := HH4.out; omega) (V6.out.kept K68.out).num v1 v7 hs2
    have HAL := Lib.hid hAL
    clear hAL
    go_wp2_with fail
    with_reducible refine (HAL.out (by obtain ⟨c, hc, _⟩ := G8.out.arr; exact hc.lt.1)).mono ?_
    clear HAL
    rintro _ w9 ⟨rfl, h9⟩
    have G9 := Lib.hid h9
    have K69 := Lib.hid (h9.past K7.out lp3 lb3)
    clear h9
    dsimp only
    go_wp2_with fail
    obtain ⟨c9, hc9, hcc9⟩ := G9.out.arr
    have hll : (topBits s.size (ccb m) (ccb m)).length = ccb m := topBits_length _ _ _
    have hA := appendArray_any p3 c9 p2 c2 _ (txtBits m (sb s)) w9 hc9 (A6d.out.frm K69.out (fun h => h) (fun h => h)) (by omega) (by have := K7.out.size; omega) (by omega) (by have := K7.out.size; omega) (by have := HH4.out; have := HDL.out; rw [List.length_append, hll]; omega)
    have HA := Lib.hid hA
    have HLL := Lib.hid hll
    clear hA hc9 hll
    with_reducible refine HA.out.mono ?_
    clear HA
    rintro _ w10 ⟨rfl, h10⟩
    have hmsg : topBits m 4 4 ++ topBits s.size (ccb m) (ccb m) ++ txtBits m (sb s) = msgBits m (sb s) := by unfold msgBits; rw [HLN.out]
    rw [hmsg] at h10
    have g10 := G9.out.trans hcc9 h10
    obtain ⟨c10, hc10, hcc10⟩ := g10.arr
    have G10 := Lib.hid g10
    have A10 := Lib.hid hc10
    have K610 := Lib.hid (g10.past K7.out lp3 lb3)
    have hml : (msgBits m (sb s)).length = (topBits m 4 4).length + ccb m + (txtBits m (sb s)).length := by rw [← hmsg, List.length_append, List.length_append, HLL.out]
    have HML := Lib.hid hml
    clear h10 g10 hc10 hmsg hml hcc9
    obtain ⟨hb1, hb2, hb3, hb4⟩ := block_ok1 v (by omega) v1 l hl
    have HB1 := Lib.hid hb1
    have HB2 := Lib.hid hb2
    clear hb1 hb2
    obtain ⟨hb5, hb6, hb7, hb8⟩ := block_ok2 v (by omega) v1 l hl
    obtain ⟨hb9, hb10⟩ := block_ok3 v (by omega) v1 l hl
    obtain ⟨hd1, hd2⟩ := dataCw_ok v (by omega) v1 l hl
    have v10 := V6.out.kept K610.out
    obtain ⟨eb, hebl, hec⟩ := V6.out.blk
    have hT := fun z (k : Kept w6 z) => totalWords pv v z (V6.out.kept k)
    have hL := forLevel pv v l eb w10 hl (cell_kept hebl K610.out)
    have hE := totalEC eb (lvIx l) v w10 ((hec _ (lvIx_lt l hl)).kept K610.out) v1 v7 (lvIx_lt l hl)
    have hNB := fun z (k : Kept w6 z) => numBlocks eb (lvIx l) v z ((hec _ (lvIx_lt l hl)).kept k) v1 v7 (lvIx_lt l hl)
    have HT := Lib.hid hT
    have HL := Lib.hid hL
    have HE := Lib.hid hE
    have HNB := Lib.hid hNB
    have V10 := Lib.hid v10
    clear hT hL hE hNB hebl hec v10
    dsimp only
    go_wp2_with fail
    with_reducible refine HL.out.mono ?_
    rintro _ _ ⟨rfl, rfl⟩
    dsimp only
    go_wp2_with fail
    with_reducible refine (HT.out w10 K610.out).mono ?_
    rintro _ _ ⟨rfl, rfl⟩
    dsimp only
    go_wp2_with fail
    with_reducible refine HE.out.mono ?_
    rintro _ w11 ⟨rfl, k11⟩
    have hTE : ((totalCw v : Nat) : Int) - ((ecAt v (lvIx l)).1 * nbOf (ecAt v (lvIx l)).2 : Nat) = (dataCw v l : Nat) := by omega
    have K1011 := Lib.hid k11
    have A11 := Lib.hid (A10.out.frm k11 (fun h => h) (fun h => h))
    generalize hE0 : (ecAt v (lvIx l)).1 * nbOf (ecAt v (lvIx l)).2 = E0 at hTE hd1 ⊢
    have HE0 := Lib.hid hE0
    have hDmax : dataCw v l ≤ 2000 := by omega
    have hmlen : (msgBits m (sb s)).length ≤ 8 * dataCw v l := by
      have h1 := FIT.out
      have h2 := HML.out
      unfold fits at h1
      omega
    have hTm := terminate p3 c10 (dataCw v l) (msgBits m (sb s)) w11 A11.out hmlen hDmax
    have HTM := Lib.hid hTm
    clear hE0 k11 hTm HE
    dsimp only
    go_wp2_with fail
    with_reducible refine HTM.out.mono ?_
    clear HTM
    rintro _ w12 ⟨rfl, tl, h12, hz4, hlen12⟩
    obtain ⟨c12, hc12, hcc12⟩ := h12.arr
    have h2 := h12.frm.size
    have K612 := Lib.hid ((K610.out.trans K1011.out).step h12.frm (by
      rintro x hx (rfl | rfl)
      · omega
      · have := K7.out.size
        omega))
    have A12 := Lib.hid hc12
    have Z4 := Lib.hid hz4
    have L12 := Lib.hid hlen12
    clear h12 hc12 hz4 hlen12 hcc12
    dsimp only
    go_wp2_with fail
    with_reducible refine (totalWords pv v w12 (V6.out.kept K612.out)).mono ?_
    rintro _ _ ⟨rfl, rfl⟩
    dsimp only
    go_wp2_with fail
    have hNB := HNB.out w12 K612.out
    rw [show nbOf (ecAt v (lvIx l)).2 = nbAt v l from rfl] at hNB
    have HN := Lib.hid hNB
    clear hNB HNB
    with_reducible refine HN.out.mono ?_
    clear HN
    rintro _ w13 ⟨rfl, k13⟩
    have hIL := interleave p3 c12 (msgBits m (sb s) ++ tl) (totalCw v) (dataCw v l) (nbAt v l) (dqAt v l) (ecOf v l) (rAt v l) w13 (A12.out.frm k13 (fun h => h) (fun h => h)) L12.out HB1.out HB2.out hb3 hb4 hb5 hb6 hb7 hb8
    have HIL := Lib.hid hIL
    have K613 := Lib.hid (K612.out.trans k13)
    clear hIL k13
    dsimp only
    go_wp2_with fail
    with_reducible refine HIL.out.mono ?_
    clear HIL
    rintro _ w14 ⟨q, c14, L, rfl, hq, hL1, hL2, hL3, k14, lq, lc⟩
    have HQ := Lib.hid hq
    have HL1 := Lib.hid hL1
    have HL2 := Lib.hid hL2
    have HL3 := Lib.hid hL3
    have K614 := Lib.hid (K613.out.trans k14)
    have V14 := Lib.hid (V6.out.kept (K613.out.trans k14))
    clear hq hL1 hL2 hL3 k14 HT HL V10 A12 A11 A10 A6h A6d A5 A3
    dsimp only
    go_wp2_with fail
    with_reducible refine (newQR w14).mono ?_
    rintro _ w15 ⟨rfl, ⟨qa, qb, qc, qe, hqr⟩, k15⟩
    dsimp only
    go_wp2_with fail
    with_reducible refine (setEC w14.heap.size l qa qb qc (.int .i64 (-1)) qe w15 hqr).mono ?_
    rintro _ w16 ⟨rfl, hqr6, f16⟩
    dsimp only
    go_wp2_with fail
    with_reducible refine (setMode w14.heap.size m qa (.int .i64 l) qc (.int .i64 (-1)) qe w16 hqr6).mono ?_
    rintro _ w17 ⟨rfl, hqr7, f17⟩
    dsimp only
    go_wp2_with fail
    with_reducible refine (setVersion w14.heap.size pv (.int .i64 m) (.int .i64 l) qc (.int .i64 (-1)) qe w17 hqr7).mono ?_
    rintro _ w18 ⟨rfl, hqr8, f18⟩
    have K1418 : Hid (Kept w14 w18) := Lib.hid (((k15.step f16 (by rintro x hx rfl; omega)).step f17 (by rintro x hx rfl; omega)).step f18 (by rintro x hx rfl; omega))
    have HQR := Lib.hid hqr8
    clear hqr hqr6 hqr7 hqr8 f16 f17 f18 k15
    dsimp only
    go_wp2_with fail
    with_reducible refine (verDim pv v w18 (V14.out.kept K1418.out) v7).mono ?_
    rintro _ _ ⟨rfl, rfl⟩
    have hdm : dim v ≤ 45 := by unfold dim; omega
    dsimp only
    go_wp2_with fail
    with_reducible refine (newByteMatrix (dim v) w18 (by omega)).mono ?_
    rintro _ w19 ⟨p, r, rfl, hbm, k19, lp, lr⟩
    have l14 := K1418.out.size
    have l19 := k19.size
    obtain ⟨hql, hcl, hqc⟩ := HQ.out.lt
    have hqp : w14.heap.size < w18.heap.size := HQR.out.lt
    have K1419 := Lib.hid (K1418.out.trans k19)
    have look4 := HLK.out w19 11 ((K6.out.trans K614.out).trans K1419.out)
    have V19 := V14.out.kept K1419.out
    have hpvl : pv < w14.heap.size := World.block_lt_of_cell? _ _ V14.out.num
    have hfull : ∀ k, k < 8 → (interBits L).length ≤ (dataAll (interBits L) k (dim v) ((dim v - 1) / 2) (0, baseG v (l * 8 + k))).1 := by
      intro k _
      rw [full_any v (l * 8 + k) k _ v1 v7, HL3.out]
      exact hb10
    have hniq : ¬ InM r (dim v) q := by rintro ⟨h, _⟩; omega
    have hnic : ¬ InM r (dim v) c14 := by rintro ⟨h, _⟩; omega
    have hnip : ¬ InM r (dim v) pv := by rintro ⟨h, _⟩; omega
    have hniw : ¬ InM r (dim v) w14.heap.size := by rintro ⟨h, _⟩; omega
    have hCM := chooseMask_any H3.out q c14 pv p r v l (interBits L) _ w19 hbm (HQ.out.frm K1419.out (fun h => h) (fun h => h)) hniq hnic hnip V19.num v1 v7 hl (by rw [HL3.out]; omega) hfull
    have HCM := Lib.hid hCM
    have HFULL := Lib.hid hfull
    have HQR9 := Lib.hid (HQR.out.frm k19 (fun h => h))
    clear hCM hfull V19 k19 HQR hbm
    dsimp only
    go_wp2_with fail
    with_reducible refine HCM.out.mono ?_
    clear HCM
    rintro _ w20 ⟨⟨k, hk8, rfl⟩, ⟨g', hbm'⟩, f20⟩
    have hkm : decide ((k : Int) = -1) = false := by simp
    dsimp only
    go_wp2_with fail
    have hsp := hbm'.sep
    with_reducible refine (setMask w14.heap.size k (.int .i64 m) (.int .i64 l) (.pointer (some ⟨pv, 0, none⟩)) (.int .i64 (-1)) qe w20 (HQR9.out.frm f20 hniw)).mono ?_
    rintro _ w21 ⟨rfl, hqr, f21⟩
    have K1421 : Hid (Kept w14 w21) := Lib.hid ((K1419.out.step f20 (by rintro x hx ⟨h, _⟩; omega)).step f21 (by rintro x hx rfl; omega))
    have hbm1 : BM w21 p r (dim v) g' := hbm'.frm f21 (by omega) (by omega) (by rintro x ⟨h, _⟩; omega)
    have hBD := buildMatrix_any q c14 pv p r v l k (interBits L) _ w21 hbm1 (HQ.out.frm K1421.out (fun h => h) (fun h => h)) hniq hnic hnip (V14.out.kept K1421.out).num v1 v7 hl hk8 (by rw [HL3.out]; omega) (HFULL.out k hk8)
    have HBD := Lib.hid hBD
    have HQR2 := Lib.hid hqr
    clear hBD hqr hbm1 hbm' f21 f20 look4
    dsimp only
    go_wp2_with fail
    with_reducible refine HBD.out.mono ?_
    clear HBD
    rintro _ w22 ⟨rfl, hbm2, f22⟩
    dsimp only
    go_wp2_with fail
    with_reducible refine (setMatrix w14.heap.size p (.int .i64 m) (.int .i64 l) (.pointer (some ⟨pv, 0, none⟩)) (.int .i64 k) qe w22 (HQR2.out.frm f22 hniw)).mono ?_
    rintro _ w23 ⟨rfl, hqr3, f23⟩
    have K1423 : Hid (Kept w14 w23) := Lib.hid ((K1421.out.step f22 (by rintro x hx ⟨h, _⟩; omega)).step f23 (by rintro x hx rfl; omega))
    have hbm3 : BM w23 p r (dim v) (matG v l k (interBits L)) := hbm2.frm f23 (by omega) (by omega) (by rintro x ⟨h, _⟩; omega)
    have B3 := Lib.hid hbm3
    have Q3 := Lib.hid hqr3
    clear hbm2 hbm3 hqr3 f22 f23 HQR2 HQR9
    dsimp only
    go_wp2
    go_ret2
    refine ⟨w14.heap.size, pv, p, r, v, m, k, tl, L, rfl, Q3.out, V14.out.kept K1423.out, B3.out, ⟨HSU.out, ⟨v1, v7⟩, hk8, Z4.out, L12.out, HL1.out, HL2.out, HL3.out⟩, (K6.out.trans K614.out).trans K1423.out⟩
end Go.Proofs.YtnpkihobbcglcaaGreatDoor

/- S2: QREncode: the walk. -/
namespace Go.Proofs.YtnpkihobbcglcaaGreatDoor
open Go Go.RowKit

theorem BM.other {S : Nat → Prop} {w w' : World} {p r n : Nat} {g : Grid} (h : BM w p r n g) (hf : Frm S w w') (ho : ∀ k, S k → ∃ cs T, Blk w k cs T ∧ T ≠ 123 ∧ T ≠ 124 ∧ T ≠ 57) : BM w' p r n g := by
  refine h.frm hf ?_ ?_ ?_
  · intro hs; obtain ⟨cs, T, hb, h1, _, _⟩ := ho p hs; exact hb.ne h.obj h1 rfl
  · intro hs; obtain ⟨cs, T, hb, _, h1, _⟩ := ho r hs; exact hb.ne h.tab h1 rfl
  · rintro k ⟨h1, h2⟩ hs
    obtain ⟨cs, T, hb, _, _, h3⟩ := ho k hs
    have hrow := h.row (k - r - 1) (by omega)
    rw [show r + 1 + (k - r - 1) = k by omega] at hrow
    exact Blk.ne hb hrow h3 rfl

/-- The results of a function: one in a cell, one in a temporary. -/
theorem results_cell2 {fn : Func} {a t : Tmp} {ty : TypeId} (h : fn.results = #[.cell a ty, .tmp t]) (tmps : Array Value) (P : Program) (w : World) (ad : Addr) (ha : tmps.getD a undef = .pointer (some ad)) (v : Value) (hv : (loadVar ty ad).run P w = .ok v w) :
    (results fn tmps).run P w = .ok (.tuple #[v, tmps.getD t undef]) w := by
  have ha' : tmps[a]?.getD undef = .pointer (some ad) := by simpa using ha
  simp [results, h, ha', asAddr, hv]
theorem struct26 : ∃ fs, Tryz.prog.underlying 26 = some (.struct fs) := by
  have h0 : (match Tryz.prog.underlying 26 with | some (.struct _) => true | _ => false) = true := by kernel_rfl
  cases hq : Tryz.prog.underlying 26 with
  | none => rw [hq] at h0; cases h0
  | some d =>
    rw [hq] at h0
    cases d <;> first | exact ⟨_, rfl⟩ | cases h0
theorem size26 : (Tryz.prog.info? 26).map (·.size) = some 5 := by kernel_rfl

/-- The modules of a matrix. -/
def modRow (g : Grid) (n y : Nat) : List Bool := (List.range n).map fun x => decide (gget g x y = 1)
def modsOf (g : Grid) (n k : Nat) : List (List Bool) := (List.range k).map fun y => modRow g n y
theorem modsOf_succ (g : Grid) (n k : Nat) : modsOf g n (k + 1) = modsOf g n k ++ [modRow g n k] := by simp [modsOf, List.range_succ]
theorem modsOf_len (g : Grid) (n k : Nat) : (modsOf g n k).length = k := by simp [modsOf]

set_option maxRecDepth 100000 in
set_option maxHeartbeats 8000000 in
theorem qrEncode (h3 : Rule3) (s : ByteArray) (l : Nat) (w : World) (hl : l < 4) (hs1 : 1 ≤ s.size) (hs2 : s.size ≤ 60) :
    Calls Tryz.prog 5 #[.string s, .int .i64 l, .int .i64 0, .int .i64 (-1)] w fun e w' => ∃ v m k tl L S, e = .returned (.tuple #[.agg #[.int .i64 (v : Nat), .int .i64 (k : Nat), .int .i64 l, .int .i64 (m : Nat), S], .bool true]) ∧
      SliceOf w' S (modsOf (matG v l k (interBits L)) (dim v) (dim v)) ∧ Coded (sb s) l v m k tl L ∧ Kept w w' := by
  have hmm := run_makeMap (P := Tryz.prog) 40 (w.alloc (.cells #[.int .i64 0, .int .i64 0, .int .i64 0, .int .i64 0, .slice none 0 0] 26))
  have H3 := Lib.hid h3
  clear h3
  go_enter Tryz.func5, Tryz.ntmps5
  go_wp2_with fail
  have hnew := Blk.new w #[.int .i64 0, .int .i64 0, .int .i64 0, .int .i64 0, .slice none 0 0] 26
  have hnew2 := hnew.alloc (.map #[] 0)
  have hmap : ((w.alloc (.cells #[.int .i64 0, .int .i64 0, .int .i64 0, .int .i64 0, .slice none 0 0] 26)).alloc (.map #[] 0)).heap[w.heap.size + 1]? = some (.map #[] 0) := by
    have := heap_alloc_new (w.alloc (.cells #[.int .i64 0, .int .i64 0, .int .i64 0, .int .i64 0, .slice none 0 0] 26)) (.map #[] 0)
    simpa using this
  have k0 : Kept w ((w.alloc (.cells #[.int .i64 0, .int .i64 0, .int .i64 0, .int .i64 0, .slice none 0 0] 26)).alloc (.map #[] 0)) := ((Frm.refl _ _).alloc _).alloc _
  clear hnew hmm
  generalize (w.alloc (.cells #[.int .i64 0, .int .i64 0, .int .i64 0, .int .i64 0, .slice none 0 0] 26)).alloc (.map #[] 0) = w0 at hnew2 hmap k0 ⊢
  generalize hO : w.heap.size = o at hnew2 hmap ⊢
  have HO := Lib.hid hO
  have HR0 := Lib.hid hnew2
  have K0 := Lib.hid k0
  clear hO hnew2 k0
  with_reducible refine (encodeText H3.out s (o + 1) l 0 w0 hmap hl hs1 hs2).mono ?_
  rintro _ w1 ⟨qp, pv, p, r, v, m, k, tl, L, rfl, hq, hv, hbm, hcd, k1⟩
  have q0 := hq.cell 0
  have q1 := hq.cell 1
  have q2 := hq.cell 2
  have q3 := hq.cell 3
  have q4 := hq.cell 4
  simp only [List.getElem?_toArray, List.getElem?_cons_zero, List.getElem?_cons_succ] at q0 q1 q2 q3 q4
  have HV := Lib.hid hv
  have HB := Lib.hid hbm
  have HC := Lib.hid hcd
  have HR1 := Lib.hid (HR0.out.frm k1 (fun h => h))
  have K1 := Lib.hid (K0.out.trans k1)
  clear hq hv hbm hcd k1 hmap HR0 K0
  dsimp only
  go_wp2_with fail
  with_reducible refine (qrMatrix qp _ w1 q4).mono ?_
  rintro _ _ ⟨rfl, rfl⟩
  dsimp only
  go_wp2_with fail
  with_reducible refine (qrVersion qp _ w1 q2).mono ?_
  rintro _ _ ⟨rfl, rfl⟩
  dsimp only
  go_wp2_with fail
  with_reducible refine (versionNumber pv v w1 HV.out.num).mono ?_
  rintro _ _ ⟨rfl, rfl⟩
  dsimp only
  go_wp2_with fail
  with_reducible refine (qrMask qp _ w1 q3).mono ?_
  rintro _ _ ⟨rfl, rfl⟩
  dsimp only
  go_wp2_with fail
  with_reducible refine (qrEC qp _ w1 q1).mono ?_
  rintro _ _ ⟨rfl, rfl⟩
  dsimp only
  go_wp2_with fail
  with_reducible refine (ecBits l w1).mono ?_
  rintro _ _ ⟨rfl, rfl⟩
  dsimp only
  go_wp2_with fail
  with_reducible refine (qrMode qp _ w1 q0).mono ?_
  rintro _ _ ⟨rfl, rfl⟩
  dsimp only
  go_wp2_with fail
  with_reducible refine (modeBits m w1).mono ?_
  rintro _ _ ⟨rfl, rfl⟩
  dsimp only
  go_wp2_with fail
  have hz := Blk.new w1 #[.int .i64 v, .int .i64 k, .int .i64 l, .int .i64 m, .slice none 0 0] 26
  have kz : Kept w1 (w1.alloc (.cells #[.int .i64 v, .int .i64 k, .int .i64 l, .int .i64 m, .slice none 0 0] 26)) := (Frm.refl _ _).alloc _
  have hsl := SliceOf.nil (w1.alloc (.cells #[.int .i64 v, .int .i64 k, .int .i64 l, .int .i64 m, .slice none 0 0] 26))
  generalize w1.alloc (.cells #[.int .i64 v, .int .i64 k, .int .i64 l, .int .i64 m, .slice none 0 0] 26) = w2 at hz kz hsl ⊢
  generalize hZ : w1.heap.size = z at hz ⊢
  have HZ := Lib.hid hZ
  clear hZ q0 q1 q2 q3 q4
  have hv7 := HC.out.ver
  have hdm : dim v ≤ 45 := by unfold dim; omega
  have hdm0 : 1 ≤ dim v := by unfold dim; omega
  generalize hN : dim v = n at *
  have HN := Lib.hid hN
  clear hN
  generalize hG : matG v l k (interBits L) = G at *
  have HG := Lib.hid hG
  clear hG
  go_loopw [15] (fun yv wr => ∃ (y : Nat) (ao : Option Addr) (cap : Nat), y ≤ n ∧ yv = .int .i64 y ∧ Blk wr z #[.int .i64 v, .int .i64 k, .int .i64 l, .int .i64 m, .slice ao y cap] 26 ∧ SliceOf wr (.slice ao y cap) (modsOf G n y) ∧ (∀ b, (Value.slice ao y cap).ownBlock = some b → z ≤ b) ∧ Kept w1 wr) (fun yv _ => n - (intOf yv).toNat)
  case atStart => exact ⟨0, none, 0, Nat.zero_le _, rfl, hz, hsl, fun b hb => by simp [Value.ownBlock] at hb, kz⟩
  case round =>
    obtain ⟨y, ao, cap, hy, rfl, hz, hsl, hao, kw⟩ := hrel
    have hbr := HB.out.kept kw
    have HBR := Lib.hid hbr
    have HSL := Lib.hid hsl
    have HAO := Lib.hid hao
    have HK := Lib.hid kw
    have HZB := Lib.hid hz
    clear hbr hsl hao kw kz
    by_cases hlt : y < n
    · have hd : decide ((y : Int) < n) = true := by simp; omega
      go_wp2_with fail
      with_reducible refine (bmHeight p r n G wr HBR.out).mono ?_
      rintro _ _ ⟨rfl, rfl⟩
      dsimp only
      go_wp2_with fail
      with_reducible refine (bmWidth p r n G wr HBR.out).mono ?_
      rintro _ _ ⟨rfl, rfl⟩
      have hmk := run_make_one 56 4 (.bool false) 1 (by kernel_rfl) info4 rfl n (by omega) (by omega) wr
      have hb0 : Bools (wr.alloc (.cells (Array.replicate n (.bool false)) 4)) wr.heap.size (rowP (fun x => decide (gget G x y = 1)) n 0) := by
        have := Bools.new wr (rowP (fun x => decide (gget G x y = 1)) n 0)
        rw [rowP_zero] at this ⊢
        simpa using this
      have ka : Kept wr (wr.alloc (.cells (Array.replicate n (.bool false)) 4)) := (Frm.refl _ _).alloc _
      dsimp only
      go_wp2_with fail
      generalize wr.alloc (.cells (Array.replicate n (.bool false)) 4) = wa at hb0 ka ⊢
      clear hmk
      have lz := HZB.out.lt
      generalize hBN : wr.heap.size = bn at hb0 lz ⊢
      have HBN := Lib.hid hBN
      clear hBN hz
      go_loopw [64, 17] (fun xv _ wx => ∃ x : Nat, x ≤ n ∧ xv = .int .i64 x ∧ Bools wx bn (rowP (fun x => decide (gget G x y = 1)) n x) ∧ Kept wr wx) (fun xv _ _ => n - (intOf xv).toNat)
      case atStart => exact ⟨0, Nat.zero_le _, rfl, hb0, ka⟩
      case round =>
        obtain ⟨x, hx, rfl, hbx, kx⟩ := hrel
        clear hb0 ka
        by_cases hxl : x < n
        · have hdx : decide ((x : Int) < n) = true := by simp; omega
          have hg := bmGet p r n G x y wr (HBR.out.kept kx) (by omega) (by omega) (by omega) (by omega)
          rw [Int.toNat_natCast, Int.toNat_natCast] at hg
          have HGT := Lib.hid hg
          have cx := hbx.cell x (by rw [rowP_len]; exact hxl)
          have fx := hbx.free x
          have hset := hbx.set x (decide (gget G x y = 1))
          rw [rowP_step (fun x => decide (gget G x y = 1)) n x hxl] at hset
          generalize hgv : gget G x y = gv at HGT hset
          have HSET := Lib.hid hset
          have kset : Kept _ (wr.setCell ⟨bn, x, none⟩ (.bool (decide (gv = 1)))) := kx.setCell (.inr (Nat.le_of_eq HBN.out)) _
          have KSET := Lib.hid kset
          clear hg hset hbx hgv kset kx
          go_wp2_with fail
          with_reducible refine HGT.out.mono ?_
          rintro _ _ ⟨rfl, rfl⟩
          dsimp only
          go_wp2
          exact ⟨⟨x + 1, by omega, by go_num, HSET.out, KSET.out⟩, by simp [intOf]; omega⟩
        · obtain rfl : x = n := by omega
          have hdx : decide ((x : Int) < x) = false := by simp
          have hrow : rowP (fun x => decide (gget G x y = 1)) x x = modRow G x y := rowP_all _ _
          rw [hrow] at hbx
          have hlr : (modRow G x y).length = x := by simp [modRow]
          have hlm : (modsOf G x y).length = y := modsOf_len _ _ _
          have hzz := HZB.out.frm kx (fun h => h)
          have c4 := hzz.cell 4
          simp only [List.getElem?_toArray, List.getElem?_cons_zero, List.getElem?_cons_succ] at c4
          have hsx := HSL.out.kept kx
          obtain ⟨g', cap', w5, hrun, hsl5, f5, hty, hg5⟩ := hsx.push hbx (by rw [hlm]; omega)
          rw [hlr, hlm] at hrun
          rw [hlm] at hsl5
          rw [← modsOf_succ] at hsl5
          have hbase := HK.out.trans kx
          have k5 : Kept w1 w5 := hbase.step f5 (by
            intro b hb hob
            have := HAO.out b hob
            have := HZ.out
            omega)
          have hgz : z ≤ g' := by
            rcases hg5 with h | h
            · exact HAO.out g' h
            · have := hzz.lt; omega
          have nz : ¬ ((Value.slice ao y cap).ownBlock = some z) := by
            intro h
            obtain ⟨cur, hc⟩ := hty z h
            exact hc.ne hzz (by decide) rfl
          have hz5 := hzz.frm f5 nz
          have c5 := hz5.cell 4
          simp only [List.getElem?_toArray, List.getElem?_cons_zero, List.getElem?_cons_succ] at c5
          have f54 := hz5.free 4
          have HRUN := Lib.hid hrun
          have HSL5 := Lib.hid hsl5
          have HZ5 := Lib.hid hz5
          have K5 := Lib.hid k5
          clear hrun hsl5 f5 hty hg5 hzz hsx hbx hrow hlr hlm hz5 k5 nz hbase kx
          go_wp2_with (at_builtin; refine wpList_append_run rfl (.tmp 77) (.tmp 79) 24 24 rfl _ _ rfl rfl _ _ HRUN.out ?_)
          have fs : Frm (fun k => k = z) w5 (w5.setCell ⟨z, 4, none⟩ (.slice (some ⟨g', 0, none⟩) (y + 1) cap')) := (Frm.refl (fun k => k = z) w5).setCell (p := ⟨z, 4, none⟩) (.inl rfl) _
          refine ⟨⟨y + 1, some ⟨g', 0, none⟩, cap', by omega, by go_num, HZ5.out.set 4 _, HSL5.out.frm fs ?_, ?_, K5.out.step fs ?_⟩, by simp [intOf]; omega⟩
          · rintro b rfl
            exact ⟨_, _, HZ5.out, by decide, by decide⟩
          · intro b hb
            simp [Value.ownBlock] at hb
            omega
          · rintro b hb rfl
            have := HZ.out
            omega
    · obtain rfl : y = n := by omega
      have hd : decide ((y : Int) < y) = false := by simp
      have z0 := HZB.out.cell 0
      have z1 := HZB.out.cell 1
      have z2 := HZB.out.cell 2
      have z3 := HZB.out.cell 3
      have z4 := HZB.out.cell 4
      have ho := HR1.out.frm HK.out (fun h => h)
      have o0 := ho.cell 0
      have o1 := ho.cell 1
      have o2 := ho.cell 2
      have o3 := ho.cell 3
      have o4 := ho.cell 4
      simp only [List.getElem?_toArray, List.getElem?_cons_zero, List.getElem?_cons_succ] at z0 z1 z2 z3 z4 o0 o1 o2 o3 o4
      have f0 := ho.free 0
      have f1 := ho.free 1
      have f2 := ho.free 2
      have f3 := ho.free 3
      have f4 := ho.free 4
      have HOB := Lib.hid ho
      clear ho hz
      go_wp2_with fail
      with_reducible refine (bmHeight p r y G wr HBR.out).mono ?_
      rintro _ _ ⟨rfl, rfl⟩
      dsimp only
      go_wp2_with fail
      have hob := ((((HOB.out.set 0 (.int .i64 v)).set 1 (.int .i64 k)).set 2 (.int .i64 l)).set 3 (.int .i64 m)).set 4 (.slice ao y cap)
      have hfo : Frm (fun b => b = o) wr (((((wr.setCell ⟨o, 0, none⟩ (.int .i64 v)).setCell ⟨o, 1, none⟩ (.int .i64 k)).setCell ⟨o, 2, none⟩ (.int .i64 l)).setCell ⟨o, 3, none⟩ (.int .i64 m)).setCell ⟨o, 4, none⟩ (.slice ao y cap)) :=
        (((((Frm.refl (fun b => b = o) wr).setCell (p := ⟨o, 0, none⟩) (.inl rfl) _).setCell (p := ⟨o, 1, none⟩) (.inl rfl) _).setCell (p := ⟨o, 2, none⟩) (.inl rfl) _).setCell (p := ⟨o, 3, none⟩) (.inl rfl) _).setCell (p := ⟨o, 4, none⟩) (.inl rfl) _
      generalize ((((wr.setCell ⟨o, 0, none⟩ (.int .i64 v)).setCell ⟨o, 1, none⟩ (.int .i64 k)).setCell ⟨o, 2, none⟩ (.int .i64 l)).setCell ⟨o, 3, none⟩ (.int .i64 m)).setCell ⟨o, 4, none⟩ (.slice ao y cap) = wf at hob hfo ⊢
      have hob2 : Blk wf o #[.int .i64 v, .int .i64 k, .int .i64 l, .int .i64 m, .slice ao y cap] 26 := hob
      have hlv : (loadVar 26 ⟨o, 0, none⟩).run Tryz.prog wf = .ok (.agg #[.int .i64 v, .int .i64 k, .int .i64 l, .int .i64 m, .slice ao y cap]) wf := by
        obtain ⟨fs, hfs⟩ := struct26
        exact run_loadVar_row wf o 26 26 _ (0, 0) _ hob2 hfs rfl (by rw [size26]; rfl)
      refine bodyPost_ret (results_cell2 rfl _ _ _ ⟨o, 0, none⟩ rfl _ hlv) rfl ?_
      refine ⟨v, m, k, tl, L, _, rfl, ?_, HC.out, (K1.out.trans HK.out).step hfo ?_⟩
      · rw [HN.out, HG.out]
        refine HSL.out.frm hfo ?_
        rintro b rfl
        exact ⟨_, _, HOB.out, by decide, by decide⟩
      · rintro b hb rfl
        have := HO.out
        omega
end Go.Proofs.YtnpkihobbcglcaaGreatDoor

/- R1: The picture's margins. -/
namespace Go.Proofs.YtnpkihobbcglcaaGreatDoor
open Go Go.RowKit

theorem results_cell1 {fn : Func} {a : Tmp} {ty : TypeId} (h : fn.results = #[.cell a ty]) (tmps : Array Value) (P : Program) (w : World) (ad : Addr) (ha : tmps.getD a undef = .pointer (some ad)) (v : Value) (hv : (loadVar ty ad).run P w = .ok v w) :
    (results fn tmps).run P w = .ok v w := by
  have ha' : tmps[a]?.getD undef = .pointer (some ad) := by simpa using ha
  simp [results, h, ha', asAddr, hv]
theorem array59 : (Tryz.prog.underlying 59).isSome = true ∧ (match Tryz.prog.underlying 59 with | some (.array _ _) => true | _ => false) = true := ⟨by kernel_rfl, by kernel_rfl⟩
theorem size59 : (Tryz.prog.info? 59).map (·.size) = some 4 := by kernel_rfl

theorem load59 (w : World) (g : Nat) (a b c d : Value) (h : Blk w g #[a, b, c, d] 59) : (loadVar 59 ⟨g, 0, none⟩).run Tryz.prog w = .ok (.agg #[a, b, c, d]) w := by
  obtain ⟨n, e, hfs⟩ : ∃ n e, Tryz.prog.underlying 59 = some (.array n e) := by
    have h0 := array59.2
    cases hq : Tryz.prog.underlying 59 with
    | none => rw [hq] at h0; cases h0
    | some d =>
      rw [hq] at h0
      cases d <;> first | exact ⟨_, _, rfl⟩ | cases h0
  exact run_loadVar_row w g 59 59 _ (0, 0) _ h hfs rfl (by rw [size59]; rfl)
theorem blk2 (w : World) (A B C : Array Value) (T U V : TypeId) : Blk (((w.alloc (.cells A T)).alloc (.cells B U)).alloc (.cells C V)) (w.heap.size + 1) B U := by
  have h := (Blk.new (w.alloc (.cells A T)) B U).alloc (.cells C V)
  rw [show (w.alloc (.cells A T)).heap.size = w.heap.size + 1 by simp] at h
  exact h

set_option maxRecDepth 100000 in
set_option maxHeartbeats 2000000 in
theorem pxMargins (a0 a1 a2 a3 sz : Nat) (w : World) (h0 : a0 < 256) (h1 : a1 < 256) (h2 : a2 < 256) (h3 : a3 < 256) (hs : sz ≤ 1000) :
    Calls Tryz.prog 22 #[.agg #[.int .u8 a0, .int .u8 a1, .int .u8 a2, .int .u8 a3], .int .i64 sz] w fun e w' => ∃ m0 m1 m2 m3 : Nat, e = .returned (.agg #[.int .i64 m0, .int .i64 m1, .int .i64 m2, .int .i64 m3]) ∧ m0 < 16 ∧ m1 ≤ 40 ∧ m2 < 16 ∧ m3 ≤ 40 ∧ 40 ≤ m0 + sz + m1 ∧ 40 ≤ m2 + sz + m3 ∧ Kept w w' := by
  have r : ∀ a : Nat, a < 256 → (a : Int).tmod 16 = ((a % 16 : Nat) : Int) := by
    intro a _
    rw [Int.tmod_eq_emod_of_nonneg (by omega)]; omega
  have r0 := r a0 h0
  have r1 := r a1 h1
  have r2 := r a2 h2
  have r3 := r a3 h3
  obtain ⟨m0, e0⟩ : ∃ m, a0 % 16 = m := ⟨_, rfl⟩
  obtain ⟨m1, e1⟩ : ∃ m, a1 % 16 = m := ⟨_, rfl⟩
  obtain ⟨m2, e2⟩ : ∃ m, a2 % 16 = m := ⟨_, rfl⟩
  obtain ⟨m3, e3⟩ : ∃ m, a3 % 16 = m := ⟨_, rfl⟩
  rw [e0] at r0
  rw [e1] at r1
  rw [e2] at r2
  rw [e3] at r3
  have l0 : m0 < 16 := by omega
  have l1 : m1 < 16 := by omega
  have l2 : m2 < 16 := by omega
  have l3 : m3 < 16 := by omega
  clear r e0 e1 e2 e3
  go_enter Tryz.func22, Tryz.ntmps22
  go_wp2_with fail
  all_goals refine bodyPost_ret (results_cell1 rfl _ _ _ ⟨w.heap.size + 1, 0, none⟩ rfl _ (load59 _ _ _ _ _ _ (blk2 _ _ _ _ _ _ _))) rfl ?_
  all_goals try rw [show (40 : Int) - sz - m0 = ((40 - sz - m0 : Nat) : Int) by omega]
  all_goals try rw [show (40 : Int) - sz - m2 = ((40 - sz - m2 : Nat) : Int) by omega]
  all_goals have hk : ∀ A B C, Kept w (((w.alloc A).alloc B).alloc C) := fun _ _ _ => (((Frm.refl _ _).alloc _).alloc _).alloc _
  all_goals first
    | exact ⟨m0, m1, m2, m3, rfl, l0, by omega, l2, by omega, by omega, by omega, hk _ _ _⟩
    | exact ⟨m0, 40 - sz - m0, m2, m3, rfl, l0, by omega, l2, by omega, by omega, by omega, hk _ _ _⟩
    | exact ⟨m0, m1, m2, 40 - sz - m2, rfl, l0, by omega, l2, by omega, by omega, by omega, hk _ _ _⟩
    | exact ⟨m0, 40 - sz - m0, m2, 40 - sz - m2, rfl, l0, by omega, l2, by omega, by omega, by omega, hk _ _ _⟩
end Go.Proofs.YtnpkihobbcglcaaGreatDoor
