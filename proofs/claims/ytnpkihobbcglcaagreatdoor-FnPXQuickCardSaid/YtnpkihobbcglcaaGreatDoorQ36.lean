/- Decoding 13: the codewords read: the walk. Decoding 14: data blocks in memory. -/
import Derived.Test.YtnpkihobbcglcaaGreatDoorQ35
import Derived.Laws.EntriesVeiled
set_option linter.unusedSimpArgs false
set_option linter.unusedVariables false

/- U13: Decoding 13: the codewords read: the walk. -/
namespace Go.Proofs.YtnpkihobbcglcaaGreatDoor
open Go Go.RowKit

theorem formatMask (fp m : Nat) (v0 : Value) (w : World) (h : Blk w fp #[v0, .int .u8 m] 322) : Calls Tryz.prog 191 #[.pointer (some ⟨fp, 0, none⟩)] w fun e w' => e = .returned (.int .u8 m) ∧ w = w' := by
  have c1 := h.cell 1
  simp only [List.getElem?_toArray, List.getElem?_cons_zero, List.getElem?_cons_succ] at c1
  clear h
  go_enter Tryz.func191, Tryz.ntmps191
  go_wp2
  go_ret
  exact ⟨rfl, rfl⟩

theorem totalWords2 (pv : Nat) (u : Value) (w : World) (c : w.cell? ⟨pv, 3, none⟩ = some u) : Calls Tryz.prog 48 #[.pointer (some ⟨pv, 0, none⟩)] w fun e w' => e = .returned u ∧ w = w' := by
  go_enter Tryz.func48, Tryz.ntmps48
  go_wp2
  go_ret
  exact ⟨rfl, rfl⟩

set_option maxRecDepth 100000 in
set_option maxHeartbeats 16000000 in
/-- The loop over the zigzag, entered with the matrix unmasked and the pattern built. -/
theorem readCodewords (q p b fp v t : Nat) (v1 lv : Value) (m : Nat) (M : Nat → Nat → Bool) (BB : List Bool) (w : World) (hq : Blk w q #[.pointer (some ⟨p, 0, none⟩), v1, .pointer (some ⟨fp, 0, none⟩), .bool false] 292) (hp : PV w v1 v)
    (hfp : Blk w fp #[lv, .int .u8 m] 322) (hm : m < 8) (h : BX w p b (dim v) (dim v) M) (h1 : 1 ≤ v) (h7 : v ≤ 7) (hf7 : v = 7 → verN M 6 = 31892)
    (hBB : BB.length = cellsOf v) (hbits : ∀ T, T < zN (dim v) → gget (baseG v t) (zX (dim v) T) (zY (dim v) T) = -1 → (M (zX (dim v) T) (zY (dim v) T) ^^ maskBit m (zX (dim v) T) (zY (dim v) T)) = BB.getD (zCnt (baseG v t) (dim v) T) false) :
    Calls Tryz.prog 184 #[.pointer (some ⟨q, 0, none⟩)] w fun e w' => ∃ rb, e = .returned (.tuple #[.slice (some ⟨rb, 0, none⟩) (totalCw v) (totalCw v), .nilIface]) ∧ Nats w' rb .u8 5 (bytesFrom BB 0 (totalCw v)) ∧ Frm (fun k => k = q ∨ k = b) w w' := by
  have hro := readFormatOld q fp _ v1 w hq
  have hrv := readVersion q p b v v1 (.pointer (some ⟨fp, 0, none⟩)) M w hq hp h h1 h7 hf7
  have HRO := Lib.hid hro
  have HRV := Lib.hid hrv
  have HX := Lib.hid h
  have HFP := Lib.hid hfp
  have HBITS := Lib.hid hbits
  have HQ := Lib.hid hq
  have HNE : RowKit.Hid (q ≠ b ∧ q ≠ p ∧ fp ≠ q ∧ fp ≠ b) := Lib.hid (by
    obtain ⟨ws, x1, x2, x3⟩ := h.ex
    exact ⟨Blk.ne hq x2 (by decide), Blk.ne hq x1 (by decide), Blk.ne hfp hq (by decide), Blk.ne hfp x2 (by decide)⟩)
  clear hro hrv h hfp hbits hq hp hf7
  go_enter Tryz.func184, Tryz.ntmps184
  go_wp2_with fail
  with_reducible refine HRO.out.mono ?_
  rintro _ _ ⟨rfl, rfl⟩
  dsimp only
  go_wp2_with fail
  with_reducible refine HRV.out.mono ?_
  rintro _ w1 ⟨pv, v1', rfl, hver, -, hq1, f1⟩
  have HF1 := Lib.hid (f1.mono (S' := fun k => k = q ∨ k = b) (fun _ _ h => .inl h))
  have HX1 := Lib.hid (HX.out.frm f1 (fun e => HNE.out.2.1 e.symm) (fun e => HNE.out.1 e.symm))
  have HFP1 := Lib.hid (HFP.out.frm f1 HNE.out.2.2.1)
  have HQ1 := Lib.hid hq1
  have HVER := Lib.hid hver
  have hml := maskList w1
  have HML := Lib.hid hml
  clear hver hq1 f1 hml HRO HRV HX HFP HQ
  dsimp only
  go_wp2_with fail
  with_reducible refine HML.out.mono ?_
  rintro _ w2 ⟨rfl, hcm, k2⟩
  have hfm := formatMask fp m lv w2 (HFP1.out.frm k2 (fun h => h))
  have HFM := Lib.hid hfm
  have cm := hcm m hm
  generalize w1.heap.size = g at *
  have K2 := Lib.hid k2
  clear hfm hcm k2 HML
  dsimp only
  go_wp2_with fail
  with_reducible refine HFM.out.mono ?_
  rintro _ _ ⟨rfl, rfl⟩
  have hb3 := Blk.new w2 #[.func (.func (230 + m)) #[] #[]] 303
  have k3 : Kept w2 (w2.alloc (.cells #[.func (.func (230 + m)) #[] #[]] 303)) := (Frm.refl (fun _ => False) w2).alloc _
  have hh := bxHeight p b (dim v) (dim v) M _ (HX1.out.kept (K2.out.trans k3))
  dsimp only
  go_upto_region 8 with fail
  generalize hg2 : w2.heap.size = g2 at *
  generalize w2.alloc (.cells #[.func (.func (230 + m)) #[] #[]] 303) = w3 at *
  have HH := Lib.hid hh
  have K3 := Lib.hid (K2.out.trans k3)
  have hb4 : Blk w3 g2 #[.func (.func (230 + m)) #[] #[]] 303 := hb3
  have cg := hb4.cell 0
  simp only [List.getElem?_toArray, List.getElem?_cons_zero] at cg
  have cq0 := (HQ1.out.frm K3.out (fun h => h)).cell 0
  simp only [List.getElem?_toArray, List.getElem?_cons_zero] at cq0
  have HX3 := Lib.hid (HX1.out.kept K3.out)
  clear hb3 hb4 k3 hh HFM K2 cm
  go_wp2_with fail
  with_reducible refine HH.out.mono ?_
  rintro _ _ ⟨rfl, rfl⟩
  have hum := fun n => unmaskMatrix m p b (dim v) M (w3.drewN n) (HX3.out.kept ((Frm.refl _ _).drewN n)) hm (by unfold dim; omega)
  have HUM := Lib.hid hum
  clear hum
  dsimp only
  go_wp2_with fail
  refine wp_region_quiet_tail 6 (by kernel_rfl) (by kernel_rfl) ?_
  simp only [List.take_succ_cons, List.take_zero, List.drop_succ_cons, List.drop_zero]
  repeat (go_big_quiet_step (fail))
  refine wpQuiet_nil ?_
  intro _ hw'
  obtain ⟨nq, hw''⟩ := hw'
  subst hw''
  go_wp2_with fail
  with_reducible refine (HUM.out nq).mono ?_
  rintro _ w4 ⟨rfl, hx4, f4⟩
  have kq : Kept w1 (w3.drewN nq) := K3.out.drewN nq
  have hver4 : VerAt w4 pv v := (HVER.out.kept kq).away f4 (fun k hk => by rw [hk]; exact (HX3.out.kept ((Frm.refl _ _).drewN nq)).apart)
  have hfpt := functionPattern pv v w4 hver4 h1 h7
  have hf14 : Frm (fun k => k = q ∨ k = b) w w4 := (HF1.out.trans kq.toFrm).trans (f4.mono (fun _ _ h => .inr h))
  have HX4 := Lib.hid hx4
  have HVER4 := Lib.hid hver4
  have HFPT := Lib.hid hfpt
  have HF4 := Lib.hid hf14
  have HQ4 := Lib.hid ((HQ1.out.frm kq (fun h => h)).frm f4 HNE.out.1)
  clear hx4 hver4 hfpt hf14 f4 kq HUM HX3 HVER cg cq0 hg2 HQ1 HX1 HFP1 HF1 K3
  dsimp only
  go_wp2_with fail
  with_reducible refine HFPT.out.mono ?_
  rintro _ w5 ⟨op, ob, rfl, ho, k5, hop, hob⟩
  have HVER5 := Lib.hid (HVER4.out.kept k5)
  have htw := totalWords pv v w5 HVER5.out
  have HTW := Lib.hid htw
  have HO5 := Lib.hid ho
  have HX5 := Lib.hid (HX4.out.kept k5)
  have HF5 := Lib.hid (HF4.out.trans k5.toFrm)
  have HQ5 := Lib.hid (HQ4.out.frm k5 (fun h => h))
  clear htw ho k5 hop hob HFPT HX4 HVER4 HF4 HQ4
  dsimp only
  go_wp2_with fail
  with_reducible refine HTW.out.mono ?_
  rintro _ _ ⟨rfl, rfl⟩
  obtain ⟨ct1, ct2, ct3⟩ := cells_tot v (by omega) h1
  have hcells := cells_any v t h1 h7
  have hdim : dim v = 17 + 4 * v := rfl
  have hft := fp_get v t
  generalize htot : totalCw v = tot at *
  generalize hCC : cellsOf v = CC at *
  generalize hG0 : baseG v t = G0 at *
  generalize hnn : dim v = n at *
  have hn21 : 21 ≤ n := by omega
  have hn45 : n ≤ 45 := by omega
  have hodd : n % 2 = 1 := by omega
  have hmk := run_make_ints 32 5 .u8 1 (by kernel_rfl) info5 tot (by omega) (by omega) w5
  dsimp only
  go_upto_region 15 with fail
  have hz0 := Nats.new w5 .u8 5 (List.replicate tot 0)
  have kz : Kept w5 (w5.alloc (.cells (natCells .u8 (List.replicate tot 0)) 5)) := (Frm.refl _ _).alloc _
  generalize w5.alloc (.cells (natCells .u8 (List.replicate tot 0)) 5) = wz at *
  have hrb : w5.heap.size = w5.heap.size := rfl
  generalize hrb2 : w5.heap.size = rb at *
  have HCT := Lib.hid ct1
  have hpvt := HVER5.out.tot
  have hpvl : pv < rb := by rw [← hrb2]; exact World.block_lt_of_cell? _ _ hpvt
  have HPVT := Lib.hid (cell_kept hpvt kz)
  have HPVL := Lib.hid hpvl
  clear hpvt hpvl
  have HNB : RowKit.Hid (p ≠ rb ∧ b ≠ rb ∧ op ≠ rb ∧ ob ≠ rb ∧ q ≠ rb) := Lib.hid (by
    have a1 := HX5.out.lt
    have a2 := HO5.out.lt
    have a3 := HQ5.out.lt
    omega)
  have HXZ := Lib.hid (HX5.out.kept kz)
  have HOZ := Lib.hid (HO5.out.kept kz)
  have HQZ := Lib.hid (HQ5.out.frm kz (fun h => h))
  have HVZ := Lib.hid (HVER5.out.kept kz)
  have HFZ := Lib.hid (HF5.out.trans kz.toFrm)
  have hrbw : w.heap.size ≤ rb := by have := HF5.out.size; omega
  have HRBW := Lib.hid hrbw
  have hz1 : Nats wz rb .u8 5 (resL BB tot 0) := by simpa [resL, bytesFrom] using hz0
  have HFT := Lib.hid hft
  have HCE := Lib.hid hcells
  have HBBL := Lib.hid hBB
  have HTOT := Lib.hid htot
  have HNN := Lib.hid hnn
  rw [htot] at HPVT
  clear hrb hrb2 hrbw htot hz0 kz hmk HX5 HO5 HQ5 HVER5 HF5 HTW HH hft hcells hBB hCC hG0 hnn HNE hdim ct1
  go_wp2_with fail
  go_loopw [10, 12, 13, 14, 15, 16, 17, 18] (fun uv ov cv bv jv _ _ _ wr => ∃ (c o r cu : Nat) (up : Bool) (xv : Int), c ≤ (n - 1) / 2 ∧ uv = .bool up ∧ (up = true ∧ c % 2 = 0 ∨ up = false ∧ c % 2 = 1) ∧ ov = .int .i64 o ∧ cv = .int .i64 cu ∧ bv = .int .i64 r ∧ jv = .int .i64 xv ∧
    (6 ≤ n - 1 - 2 * c ∧ xv = n - 1 - 2 * c ∨ n - 1 - 2 * c < 6 ∧ xv = n - 2 - 2 * c) ∧ RN BB (zCnt G0 n (c * (n * 2))) o r cu ∧ Nats wr rb .u8 5 (resL BB tot o) ∧ Frm (fun k => k = rb) wz wr) (fun _ _ _ _ jv _ _ _ _ => (intOf jv + 1).toNat)
  case atStart => exact ⟨0, 0, 0, 0, true, n - 1, Nat.zero_le _, rfl, .inl ⟨rfl, rfl⟩, rfl, rfl, rfl, by go_num, .inl ⟨by omega, by omega⟩, by rw [Nat.zero_mul]; exact RN.zero BB, hz1, Frm.refl _ _⟩
  case round =>
    obtain ⟨c, o, r, cu, up, xv, hc, rfl, hup, rfl, rfl, rfl, rfl, hxv, hrn, hz, hf⟩ := hrel
    clear hz1
    have HRN := Lib.hid hrn
    have HZ := Lib.hid hz
    have HF := Lib.hid hf
    have HUP := Lib.hid hup
    clear hrn hz hf hup
    by_cases hlt : c < (n - 1) / 2
    · have hx0 : 0 < xv := by omega
      have hd0 : decide (0 < xv) = true := by simpa using hx0
      have hcx : 1 ≤ colX n c ∧ colX n c < n ∧ (xv ≠ 6 → xv = colX n c) ∧ (xv = 6 → colX n c = 5) := by
        unfold colX; split <;> omega
      have hxn : (6 ≤ n - 1 - 2 * (c + 1) ∧ (colX n c : Int) - 2 = n - 1 - 2 * (c + 1 : Nat) ∨ n - 1 - 2 * (c + 1) < 6 ∧ (colX n c : Int) - 2 = n - 2 - 2 * (c + 1 : Nat)) ∧ (colX n c : Int) - 2 < xv := by
        unfold colX; split <;> omega
      obtain ⟨hcx1, hcx2, hcx3, hcx4⟩ := hcx
      generalize hX : colX n c = X at *
      have HXN := Lib.hid hxn
      have HX := Lib.hid hX
      clear hxv hxn hX
      go_upto_if 72 with fail
      go_cut [15] from 67 to 122 (fun s15 wx => s15 = .int .i64 X ∧ wr = wx)
      case first =>
        by_cases h6 : xv = 6
        · have h5 := hcx4 h6
          subst h6
          have d6 : ((6 : Int) == 6) = true := rfl
          go_wp2
          go_meet
          exact ⟨by rw [h5]; rfl, rfl⟩
        · have h5 := hcx3 h6
          have d6 : (xv == 6) = false := by rw [beq_eq_false_iff_ne]; exact h6
          go_wp2
          go_meet
          exact ⟨by rw [h5], rfl⟩
      case rest =>
        obtain ⟨rfl, rfl⟩ := hcut
        clear hcx3 hcx4
        go_wp2_with fail
        go_loopw [12, 13, 14, 16, 17, 18] (fun ov cv bv kv _ _ wr => ∃ (k o r cu : Nat), k ≤ n ∧ ov = .int .i64 o ∧ cv = .int .i64 cu ∧ bv = .int .i64 r ∧ kv = .int .i64 k ∧ RN BB (zCnt G0 n (c * (n * 2) + k * 2)) o r cu ∧ Nats wr rb .u8 5 (resL BB tot o) ∧ Frm (fun k => k = rb) wz wr) (fun _ _ _ kv _ _ _ => n - (intOf kv).toNat)
        case atStart => exact ⟨0, o, r, cu, Nat.zero_le _, rfl, rfl, rfl, rfl, HRN.out, HZ.out, HF.out⟩
        case round =>
          clear HRN HZ HF
          obtain ⟨k, o, r, cu, hk, rfl, rfl, rfl, rfl, hrn, hz, hf⟩ := hrel
          have HRN := Lib.hid hrn
          have HZ := Lib.hid hz
          have HF := Lib.hid hf
          clear hrn hz hf
          by_cases hkn : k < n
          · have hdk : decide ((k : Int) < n) = true := by simp; omega
            have hrow : rowY n c k < n ∧ (up = true → ((rowY n c k : Nat) : Int) = (n : Int) - 1 - k) ∧ (up = false → rowY n c k = k) := by
              have := HUP.out
              unfold rowY
              refine ⟨by split <;> omega, fun h => ?_, fun h => ?_⟩
              · rcases this with ⟨_, h2⟩ | ⟨h2, _⟩
                · rw [if_pos h2]; omega
                · rw [h] at h2; cases h2
              · rcases this with ⟨h2, _⟩ | ⟨_, h2⟩
                · rw [h] at h2; cases h2
                · rw [if_neg (by omega)]
            obtain ⟨hY1, hY2, hY3⟩ := hrow
            generalize hY : rowY n c k = Y at *
            have HY := Lib.hid hY
            clear hY
            go_upto_if 81 with fail
            go_cut [17] from 75 to 120 (fun s17 wx => s17 = .int .i64 Y ∧ wr = wx)
            case first =>
              cases up
              · have h3 := hY3 rfl
                go_wp2
                go_meet
                exact ⟨by rw [h3], rfl⟩
              · have h3 := hY2 rfl
                go_wp2
                go_meet
                exact ⟨by rw [h3], rfl⟩
            case rest =>
              obtain ⟨rfl, rfl⟩ := hcut
              clear hY2 hY3
              go_wp2_with fail
              go_loopw [12, 13, 14, 18] (fun ov cv bv iv wr => ∃ (i o r cu : Nat), i ≤ 2 ∧ ov = .int .i64 o ∧ cv = .int .i64 cu ∧ bv = .int .i64 r ∧ iv = .int .i64 i ∧ RN BB (zCnt G0 n (c * (n * 2) + (k * 2 + i))) o r cu ∧ Nats wr rb .u8 5 (resL BB tot o) ∧ Frm (fun k => k = rb) wz wr) (fun _ _ _ iv _ => 2 - (intOf iv).toNat)
              case atStart => exact ⟨0, o, r, cu, by omega, rfl, rfl, rfl, rfl, HRN.out, HZ.out, HF.out⟩
              case round =>
                clear HRN HZ HF
                obtain ⟨i, o, r, cu, hi, rfl, rfl, rfl, rfl, hrn, hz, hf⟩ := hrel
                by_cases hi2 : i < 2
                · have hdi : decide ((i : Int) < 2) = true := by simp; omega
                  obtain ⟨hr8, hcu, hcnt⟩ := hrn.lt
                  obtain ⟨ezx, ezy⟩ := zig_at n c k i (by omega) hkn hi2
                  rw [HX.out] at ezx
                  rw [HY.out] at ezy
                  have hTz : c * (n * 2) + (k * 2 + i) < zN n := by
                    unfold zN
                    have := Nat.mul_le_mul_right (n * 2) (show c + 1 ≤ (n - 1) / 2 by omega)
                    rw [Nat.succ_mul] at this
                    omega
                  have hxi : ((X - i : Nat) : Int) = (X : Int) - i := by omega
                  have hgF := bxGet op ob n n (X - i) Y (fpat v) wr (HOZ.out.frm hf HNB.out.2.2.1 HNB.out.2.2.2.1) (by omega) hY1 (by omega) (by omega)
                  have hgM := bxGet p b n n (X - i) Y (fun x y => M x y ^^ maskBit m x y) wr (HXZ.out.frm hf HNB.out.1 HNB.out.2.1) (by omega) hY1 (by omega) (by omega)
                  rw [HFT.out (X - i) Y h1 h7 (by omega) hY1] at hgF
                  have hbit := HBITS.out _ hTz
                  rw [ezx, ezy] at hbit
                  have hyes := zCnt_yes G0 n (c * (n * 2) + (k * 2 + i))
                  have hno := zCnt_no G0 n (c * (n * 2) + (k * 2 + i))
                  have hle := zCnt_le G0 n (c * (n * 2) + (k * 2 + i) + 1) (zN n) (by omega)
                  rw [HCE.out] at hle
                  rw [ezx, ezy] at hyes hno
                  rw [show c * (n * 2) + (k * 2 + i) + 1 = c * (n * 2) + (k * 2 + (i + 1)) by omega] at hyes hno hle
                  rw [hxi] at hgF hgM
                  have cq := (HQZ.out.frm hf HNB.out.2.2.2.2).cell 0
                  simp only [List.getElem?_toArray, List.getElem?_cons_zero] at cq
                  have HRN := Lib.hid hrn
                  have HZ := Lib.hid hz
                  have HF := Lib.hid hf
                  clear hrn hz hf hxi ezx ezy hTz
                  cases he : (gget G0 (X - i) Y == -1)
                  · rw [he] at hgF
                    have hno2 := hno (by rw [beq_eq_false_iff_ne] at he; exact he)
                    have HGF := Lib.hid hgF
                    have HNO := Lib.hid hno2
                    clear hgF hgM hbit hyes hno hle he hno2
                    go_wp2_with fail
                    with_reducible refine HGF.out.mono ?_
                    rintro _ _ ⟨rfl, rfl⟩
                    dsimp only
                    go_wp2
                    exact ⟨⟨i + 1, o, r, cu, by omega, rfl, rfl, rfl, by go_num, by rw [HNO.out]; exact HRN.out, HZ.out, HF.out⟩, by simp [intOf]; omega⟩
                  · rw [he] at hgF
                    rw [beq_iff_eq] at he
                    have hy2 := hyes he
                    have hb2 := hbit he
                    rw [hb2] at hgM
                    rw [hy2] at hle
                    generalize hcn : zCnt G0 n (c * (n * 2) + (k * 2 + i)) = cnt at *
                    have hrn := HRN.out
                    have hor := i64_or (cu * 2) 1 (by omega) (by omega)
                    have e1 : cu * 2 ||| 1 = cu * 2 + 1 := by
                      have := Nat.two_pow_add_eq_or_of_lt (b := 1) (i := 1) (by omega) cu
                      rw [Nat.pow_one, Nat.mul_comm] at this
                      exact this.symm
                    rw [e1] at hor
                    simp only [Int.natCast_add, Int.natCast_mul, Int.cast_ofNat_Int] at hor
                    have hlenB : cnt < BB.length := by rw [HBBL.out]; omega
                    by_cases hr7 : r = 7
                    · have hful := hrn.full hr7
                      have hot : o < tot := by have := HCT.out; omega
                      have hset := resL_set hrn hr7 tot hot hlenB
                      have hlenR := resL_len BB tot o (by omega)
                      have hzc := HZ.out.cell o (by rw [hlenR]; exact hot)
                      have hzf := HZ.out.free o
                      have hst := HZ.out.set o (2 * cu + (BB.getD cnt false).toNat)
                      rw [hset] at hst
                      have hfs : Frm (fun k => k = rb) wz (wr.setCell ⟨rb, o, none⟩ (.int .u8 ((2 * cu + (BB.getD cnt false).toNat : Nat) : Int))) := HF.out.setCell (p := ⟨rb, o, none⟩) (.inl rfl) _
                      rw [← hy2] at hful
                      have d8 : ((r : Int) + 1 == 8) = true := by rw [beq_iff_eq]; omega
                      generalize (resL BB tot o).getD o 0 = old at hzc
                      cases hbv : BB.getD cnt false
                      all_goals
                        rw [hbv] at hgM hst hfs
                        first
                          | (rw [show ((2 * cu + Bool.toNat false : Nat) : Int) = (cu : Int) * 2 by simp only [Bool.toNat_false]; omega] at hst hfs)
                          | (rw [show ((2 * cu + Bool.toNat true : Nat) : Int) = (cu : Int) * 2 + 1 by simp only [Bool.toNat_true]; omega] at hst hfs)
                        have HGF := Lib.hid hgF
                        have HGM := Lib.hid hgM
                        have HST := Lib.hid hst
                        have HFS := Lib.hid hfs
                        have HFUL := Lib.hid hful
                        clear hgF hgM hbit hyes hno hle he hy2 hb2 hst hfs hful hset hlenR hrn hlenB hbv HRN HZ HF hcnt e1 hcn
                        go_wp2_with fail
                        with_reducible refine HGF.out.mono ?_
                        rintro _ _ ⟨rfl, rfl⟩
                        dsimp only
                        go_wp2_with fail
                        with_reducible refine HGM.out.mono ?_
                        rintro _ _ ⟨rfl, rfl⟩
                        dsimp only
                        go_wp2_with fail
                        exact ⟨⟨i + 1, o + 1, 0, 0, by omega, by go_num, rfl, rfl, by go_num, HFUL.out, HST.out, HFS.out⟩, by simp [intOf]; omega⟩
                    · have hmid := hrn.mid (by omega) hlenB
                      rw [← hy2] at hmid
                      have d8 : ((r : Int) + 1 == 8) = false := by rw [beq_eq_false_iff_ne]; omega
                      cases hbv : BB.getD cnt false
                      all_goals
                        rw [hbv] at hgM hmid
                        have HGF := Lib.hid hgF
                        have HGM := Lib.hid hgM
                        have HMID := Lib.hid hmid
                        clear hgF hgM hbit hyes hno hle he hy2 hb2 hmid hrn hlenB hbv HRN hcnt e1 hcn
                        go_wp2_with fail
                        with_reducible refine HGF.out.mono ?_
                        rintro _ _ ⟨rfl, rfl⟩
                        dsimp only
                        go_wp2_with fail
                        with_reducible refine HGM.out.mono ?_
                        rintro _ _ ⟨rfl, rfl⟩
                        dsimp only
                        go_wp2
                        exact ⟨⟨i + 1, o, r + 1, _, by omega, rfl, by go_num, by go_num, by go_num, HMID.out, HZ.out, HF.out⟩, by simp [intOf]; omega⟩
                · obtain rfl : i = 2 := by omega
                  have hdi : decide (((2 : Nat) : Int) < 2) = false := by decide
                  rw [show c * (n * 2) + (k * 2 + 2) = c * (n * 2) + (k + 1) * 2 by omega] at hrn
                  have HRN := Lib.hid hrn
                  have HZ := Lib.hid hz
                  have HF := Lib.hid hf
                  clear hrn hz hf
                  go_wp2
                  exact ⟨⟨k + 1, o, r, cu, by omega, rfl, rfl, rfl, by go_num, HRN.out, HZ.out, HF.out⟩, by simp [intOf]; omega⟩
          · obtain rfl : k = n := by omega
            have hdk : decide ((k : Int) < k) = false := by simp
            have hrn := HRN.out
            rw [show c * (k * 2) + k * 2 = (c + 1) * (k * 2) by rw [Nat.succ_mul]] at hrn
            have HRN2 := Lib.hid hrn
            clear hrn
            have hx := HXN.out
            have hup2 : (!up = true ∧ (c + 1) % 2 = 0 ∨ (!up) = false ∧ (c + 1) % 2 = 1) := by
              rcases HUP.out with ⟨rfl, h⟩ | ⟨rfl, h⟩
              · exact .inr ⟨rfl, by omega⟩
              · exact .inl ⟨rfl, by omega⟩
            have HUP2 := Lib.hid hup2
            clear hup2
            cases up
            all_goals
              go_wp2
              exact ⟨⟨c + 1, o, r, cu, _, _, by omega, rfl, HUP2.out, rfl, rfl, rfl, rfl, hx.1, HRN2.out, HZ.out, HF.out⟩, by simp only [intOf]; omega⟩
    · have hxv' : xv = -1 := by omega
      subst hxv'
      obtain rfl : c = (n - 1) / 2 := by omega
      have hd0 : decide ((0 : Int) < -1) = false := by decide
      have hrn := HRN.out
      rw [show (n - 1) / 2 * (n * 2) = zN n from rfl, HCE.out] at hrn
      have ho := hrn.off
      have hot : o = tot := by have := HCT.out; omega
      subst hot
      have hzz := HZ.out
      have hct := HCT.out
      have cpt : wr.cell? ⟨pv, 3, none⟩ = some (.int .i64 (o : Nat)) := by
        rw [HF.out.cell (p := ⟨pv, 3, none⟩) (World.block_lt_of_cell? _ _ HPVT.out) (by have := HPVL.out; show ¬ pv = rb; omega)]
        exact HPVT.out
      have htw := totalWords2 pv _ wr cpt
      have HTW2 := Lib.hid htw
      have hres : resL BB o o = bytesFrom BB 0 o := by unfold resL; rw [Nat.sub_self]; simp
      rw [hres] at hzz
      have HZZ := Lib.hid hzz
      have HFF : RowKit.Hid (Frm (fun k => k = q ∨ k = b) w wr) := Lib.hid (HFZ.out.step HF.out (fun k hk e => by have := HRBW.out; omega))
      have dne : ((o : Int) != o) = false := by simp
      have hto := HTOT.out
      clear hrn ho hzz htw hres hct HRN HZ HF cpt
      go_wp2_with fail
      with_reducible refine HTW2.out.mono ?_
      rintro _ _ ⟨rfl, rfl⟩
      dsimp only
      go_wp2
      go_ret2
      rw [hto]
      exact ⟨rb, rfl, HZZ.out, HFF.out⟩
end Go.Proofs.YtnpkihobbcglcaaGreatDoor

/- U14: Decoding 14: data blocks in memory. -/
namespace Go.Proofs.YtnpkihobbcglcaaGreatDoor
open Go Go.RowKit

/-- The first cnt data blocks: block j has dt j data words, sz j words in all. -/
structure DB (w : World) (R cnt N lo : Nat) (dt sz bs cs : Nat → Nat) (ys : Nat → List Nat) : Prop where
  tab : ∃ vs : List Value, Blk w R vs.toArray 299 ∧ vs.length = N ∧ ∀ j, j < cnt → vs[j]? = some (Value.pointer (some ⟨bs j, 0, none⟩))
  obj : ∀ j, j < cnt → Blk w (bs j) #[.int .i64 (dt j : Nat), .slice (some ⟨cs j, 0, none⟩) (sz j) (sz j)] 325
  row : ∀ j, j < cnt → Nats w (cs j) .u8 5 (ys j) ∧ (ys j).length = sz j
  inj : ∀ i j, i < cnt → j < cnt → cs i = cs j → i = j
  new : ∀ j, j < cnt → lo ≤ cs j
  newR : lo ≤ R
theorem DB.kept {w w' : World} {R cnt N lo : Nat} {dt sz bs cs : Nat → Nat} {ys : Nat → List Nat} (h : DB w R cnt N lo dt sz bs cs ys) (hf : Kept w w') : DB w' R cnt N lo dt sz bs cs ys := by
  obtain ⟨vs, h1, h2, h3⟩ := h.tab
  exact ⟨⟨vs, h1.frm hf (fun h => h), h2, h3⟩, fun j hj => (h.obj j hj).frm hf (fun h => h), fun j hj => ⟨(h.row j hj).1.frm hf (fun h => h), (h.row j hj).2⟩, h.inj, h.new, h.newR⟩
theorem DB.start (w : World) (N lo : Nat) (dt sz : Nat → Nat) (hlo : lo ≤ w.heap.size) : DB (w.alloc (.cells (Array.replicate N (.pointer none)) 299)) w.heap.size 0 N lo dt sz (fun _ => 0) (fun _ => 0) (fun _ => []) := by
  refine ⟨⟨List.replicate N (.pointer none), ?_, List.length_replicate, fun j hj => absurd hj (by omega)⟩, fun j hj => absurd hj (by omega), fun j hj => absurd hj (by omega), fun i j hi => absurd hi (by omega), fun j hj => absurd hj (by omega), hlo⟩
  have := Blk.new w (Array.replicate N (.pointer none)) 299
  simpa using this
theorem DB.lt {w : World} {R cnt N lo : Nat} {dt sz bs cs : Nat → Nat} {ys : Nat → List Nat} (h : DB w R cnt N lo dt sz bs cs ys) : R < w.heap.size := by
  obtain ⟨vs, h1, _⟩ := h.tab; exact h1.lt
theorem DB.slot {w : World} {R cnt N lo : Nat} {dt sz bs cs : Nat → Nat} {ys : Nat → List Nat} (h : DB w R cnt N lo dt sz bs cs ys) (j : Nat) (hj : j < N) : (∃ v, w.cell? ⟨R, j, none⟩ = some v) ∧ w.frozen? ⟨R, j, none⟩ = false := by
  obtain ⟨vs, h1, h2, h3⟩ := h.tab
  exact ⟨⟨vs[j]'(by omega), by rw [h1.cell]; simp [h2, hj]⟩, h1.free j⟩
theorem DB.ptr {w : World} {R cnt N lo : Nat} {dt sz bs cs : Nat → Nat} {ys : Nat → List Nat} (h : DB w R cnt N lo dt sz bs cs ys) (j : Nat) (hj : j < cnt) :
    w.cell? ⟨R, j, none⟩ = some (.pointer (some ⟨bs j, 0, none⟩)) ∧ w.cell? ⟨bs j, 0, none⟩ = some (.int .i64 (dt j : Nat)) ∧ w.cell? ⟨bs j, 1, none⟩ = some (.slice (some ⟨cs j, 0, none⟩) (sz j) (sz j)) := by
  obtain ⟨vs, h1, h2, h3⟩ := h.tab
  have ho := h.obj j hj
  refine ⟨by rw [h1.cell]; simpa using h3 j hj, ?_, ?_⟩
  · rw [ho.cell]; rfl
  · rw [ho.cell]; rfl
/-- One block more: its words made, its object made, its pointer stored. -/
theorem DB.push {w w1 w2 : World} {R cnt N lo b c : Nat} {dt sz bs cs : Nat → Nat} {ys : Nat → List Nat} {zs : List Nat} (h : DB w R cnt N lo dt sz bs cs ys) (hk : Kept w w1) (hc : Nats w1 c .u8 5 zs) (hcl : zs.length = sz cnt) (hcn : w.heap.size ≤ c) (hlo : lo ≤ w.heap.size) (hN : cnt < N)
    (hb : Blk w1 b #[.int .i64 (dt cnt : Nat), .slice (some ⟨c, 0, none⟩) (sz cnt) (sz cnt)] 325) (hw : w2 = w1.setCell ⟨R, cnt, none⟩ (.pointer (some ⟨b, 0, none⟩))) :
    DB w2 R (cnt + 1) N lo dt sz (fun j => if j = cnt then b else bs j) (fun j => if j = cnt then c else cs j) (fun j => if j = cnt then zs else ys j) := by
  obtain ⟨vs, h1, h2, h3⟩ := h.tab
  have hf : Frm (fun x => x = R) w1 w2 := by rw [hw]; exact (Frm.refl (fun x => x = R) w1).setCell (p := ⟨R, cnt, none⟩) (.inl rfl) _
  have h1' := h1.frm hk (fun h => h)
  have hs := h1'.set cnt (.pointer (some ⟨b, 0, none⟩))
  rw [← hw] at hs
  refine ⟨⟨vs.set cnt (.pointer (some ⟨b, 0, none⟩)), by simpa using hs, by rw [List.length_set]; exact h2, fun j hj => ?_⟩, fun j hj => ?_, fun j hj => ?_, fun i j hi hj he => ?_, fun j hj => ?_, h.newR⟩
  · by_cases e : j = cnt
    · subst e; rw [List.getElem?_set_self (by omega), if_pos rfl]
    · rw [List.getElem?_set_ne (Ne.symm e), if_neg e]; exact h3 j (by omega)
  · by_cases e : j = cnt
    · subst e; simp only [if_true]; exact hb.frm hf (Blk.ne hb h1' (by decide))
    · simp only [if_neg e]
      have ho := (h.obj j (by omega)).frm hk (fun h => h)
      exact ho.frm hf (Blk.ne ho h1' (by decide))
  · by_cases e : j = cnt
    · subst e; simp only [if_true]; exact ⟨hc.frm hf (Blk.ne hc h1' (by decide)), hcl⟩
    · simp only [if_neg e]
      have ho := (h.row j (by omega)).1.frm hk (fun h => h)
      exact ⟨ho.frm hf (Blk.ne ho h1' (by decide)), (h.row j (by omega)).2⟩
  · by_cases e : i = cnt <;> by_cases e' : j = cnt
    · omega
    · simp only [if_pos e, if_neg e'] at he
      have := (h.row j (by omega)).1.lt
      omega
    · simp only [if_neg e, if_pos e'] at he
      have := (h.row i (by omega)).1.lt
      omega
    · simp only [if_neg e, if_neg e'] at he
      exact h.inj i j (by omega) (by omega) he
  · by_cases e : j = cnt
    · simp only [if_pos e]; omega
    · simp only [if_neg e]; exact h.new j (by omega)
/-- A word written. -/
theorem DB.write {w : World} {R cnt N lo : Nat} {dt sz bs cs : Nat → Nat} {ys : Nat → List Nat} (h : DB w R cnt N lo dt sz bs cs ys) (J i v : Nat) (hJ : J < cnt) :
    DB (w.setCell ⟨cs J, i, none⟩ (.int .u8 v)) R cnt N lo dt sz bs cs (fun j => if j = J then (ys J).set i v else ys j) := by
  obtain ⟨vs, h1, h2, h3⟩ := h.tab
  have hr := (h.row J hJ).1
  have hf : Frm (fun x => x = cs J) w (w.setCell ⟨cs J, i, none⟩ (.int .u8 v)) := (Frm.refl (fun x => x = cs J) w).setCell (p := ⟨cs J, i, none⟩) (.inl rfl) _
  refine ⟨⟨vs, h1.frm hf (Blk.ne h1 hr (by decide)), h2, h3⟩, fun j hj => (h.obj j hj).frm hf (Blk.ne (h.obj j hj) hr (by decide)), fun j hj => ?_, h.inj, h.new, h.newR⟩
  by_cases e : j = J
  · subst e
    simp only [if_true]
    exact ⟨hr.set i v, by rw [List.length_set]; exact (h.row j hj).2⟩
  · simp only [if_neg e]
    exact ⟨(h.row j hj).1.frm hf (fun e' => e (h.inj j J hj hJ e')), (h.row j hj).2⟩

/-- Of the words so far filled each is the one of the target. -/
def Filled (ys : Nat → List Nat) (C : List Nat) (N d r : Nat) (F : Nat → Nat → Prop) : Prop := ∀ j t, j < N → F j t → (ys j).getD t 0 = C.getD (srcIx N d r j t) 0
theorem Filled.write {ys : Nat → List Nat} {C : List Nat} {N d r : Nat} {F F' : Nat → Nat → Prop} (h : Filled ys C N d r F) (J i v : Nat) (hl : i < (ys J).length) (hv : v = C.getD (srcIx N d r J i) 0) (hF : ∀ j t, j < N → F' j t → F j t ∨ j = J ∧ t = i) :
    Filled (fun j => if j = J then (ys J).set i v else ys j) C N d r F' := by
  intro j t hj hft
  by_cases e : j = J
  · subst e
    simp only [if_true]
    by_cases e2 : t = i
    · subst e2
      rw [List.getD_eq_getElem?_getD, List.getElem?_set_self hl, ← hv]; rfl
    · rw [List.getD_eq_getElem?_getD, List.getElem?_set_ne (Ne.symm e2), ← List.getD_eq_getElem?_getD]
      rcases hF j t hj hft with h1 | ⟨_, h1⟩
      · exact h j t hj h1
      · exact absurd h1 e2
  · simp only [if_neg e]
    rcases hF j t hj hft with h1 | ⟨h1, _⟩
    · exact h j t hj h1
    · exact absurd h1 e
theorem Filled.weak {ys : Nat → List Nat} {C : List Nat} {N d r : Nat} {F F' : Nat → Nat → Prop} (h : Filled ys C N d r F) (hF : ∀ j t, j < N → F' j t → F j t) : Filled ys C N d r F' := fun j t hj ht => h j t hj (hF j t hj ht)
theorem Filled.all {ys : Nat → List Nat} {C : List Nat} {N d r ec : Nat} (h : Filled ys C N d r (fun j t => t < bSize N d r j + ec)) (hl : ∀ j, j < N → (ys j).length = bSize N d r j + ec) (j : Nat) (hj : j < N) : ys j = blkW C N d r ec j := by
  apply List.ext_getElem
  · rw [hl j hj]; simp [blkW]
  · intro t h1 h2
    have ht : t < bSize N d r j + ec := by rw [← hl j hj]; exact h1
    have e := h j t hj ht
    rw [List.getD_eq_getElem?_getD, List.getElem?_eq_getElem h1] at e
    simp only [Option.getD_some] at e
    rw [e]
    simp [blkW]
end Go.Proofs.YtnpkihobbcglcaaGreatDoor
