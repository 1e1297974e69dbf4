/- The hybrid binarizer 3: the black points of the blocks, walked. The hybrid binarizer 4: each block against the average of the black points around it. -/
import Derived.Test.YtnpkihobbcglcaaGreatDoorQ27
import Derived.Deep.Cut
import Derived.Deep.CutRange
set_option linter.unusedSimpArgs false
set_option linter.unusedVariables false

/- Y3: The hybrid binarizer 3: the black points of the blocks, walked. -/
namespace Go.Proofs.YtnpkihobbcglcaaGreatDoor
open Go Go.RowKit

set_option maxRecDepth 100000 in
set_option maxHeartbeats 16000000 in
theorem blackPoints (q : Value) (g N c m n W H L : Nat) (P : Nat → Nat) (w : World) (hP : ∀ i, i < N → w.cell? ⟨g, i, none⟩ = some (.int .u8 (P i : Nat))) (hv : ∀ i, P i = 0 ∨ P i = L) (hN : H * W ≤ N) (hNb : N ≤ 160000)
    (hL0 : 1 ≤ L) (hL : L < 256) (hWa : 40 ≤ W) (hHa : 40 ≤ H) (hWb : W ≤ 400) (hHb : H ≤ 400) (hm : m ≤ 60) (hn : n ≤ 60) :
    Calls Tryz.prog 326 #[q, .slice (some ⟨g, 0, none⟩) N c, .int .i64 m, .int .i64 n, .int .i64 W, .int .i64 H] w fun e w' => ∃ o, e = .returned (.slice (some ⟨o, 0, none⟩) n n) ∧ BPs w' o n n m L ∧ Kept w w' := by
  have HP := Lib.hid hP
  have HV := Lib.hid hv
  have hlt : ∀ yo i, yo + 8 ≤ H → i < 8 → (yo + i) * W + W ≤ N := fun yo i hy hi => by
    have : (yo + i + 1) * W ≤ H * W := Nat.mul_le_mul_right _ (by omega)
    rw [Nat.succ_mul] at this
    omega
  have HLT := Lib.hid hlt
  have hmk := run_make_one 220 117 (.slice none 0 0) 24 (by kernel_rfl) info117 rfl n (by omega) (by omega) w
  have hmr := fun wx => run_make_ints 117 3 .i64 8 (by kernel_rfl) info3 m (by omega) (by omega) wx
  have hb0 := BPs.new w n m L
  have k0 : Kept w (w.alloc (.cells (Array.replicate n (.slice none 0 0)) 117)) := (Frm.refl _ _).alloc _
  have HMR := Lib.hid hmr
  clear hP hv hlt hN hmr
  go_enter Tryz.func326, Tryz.ntmps326
  go_wp2_with fail
  generalize w.alloc (.cells (Array.replicate n (.slice none 0 0)) 117) = w0 at *
  generalize ho : w.heap.size = o at *
  have HO := Lib.hid ho
  clear ho hmk
  go_loopw [16, 17, 18, 19, 20, 21, 22, 23, 24, 25, 26, 27, 28, 29] (fun yv _ _ _ _ _ _ _ _ _ _ _ _ _ wr => ∃ (y : Nat), y ≤ n ∧ yv = .int .i64 y ∧ BPs wr o y n m L ∧ Kept w wr) (fun yv _ _ _ _ _ _ _ _ _ _ _ _ _ _ => n - (intOf yv).toNat)
  case atStart => exact ⟨0, Nat.zero_le _, rfl, hb0, k0⟩
  case round =>
    obtain ⟨y, hy, rfl, hb, kw⟩ := hrel
    clear hb0 k0
    by_cases hyn : y < n
    · have hd : decide ((y : Int) < n) = true := by simp; omega
      have hmr := HMR.out wr
      have hsm := Small.new wr m L hL0
      have ka : Kept wr (wr.alloc (.cells (natCells .i64 (List.replicate m 0)) 3)) := (Frm.refl _ _).alloc _
      have hba := hb.kept ka
      have hne : o < wr.heap.size := hb.lt
      obtain ⟨⟨ov, hov⟩, hfz⟩ := hba.slot y hyn
      have hpush := hba.push hyn hsm hne
      have kp : Kept w ((wr.alloc (.cells (natCells .i64 (List.replicate m 0)) 3)).setCell ⟨o, y, none⟩ (.slice (some ⟨wr.heap.size, 0, none⟩) m m)) := (kw.trans ka).setCell (.inr (Nat.le_of_eq HO.out)) _
      have HPU := Lib.hid hpush
      have KP := Lib.hid kp
      clear hpush kp ka hba hb kw hsm hne
      generalize hbn : wr.heap.size = bn at *
      go_upto_if 50 with fail
      generalize ((wr.alloc (.cells (natCells .i64 (List.replicate m 0)) 3)).setCell ⟨o, y, none⟩ (.slice (some ⟨bn, 0, none⟩) m m)) = w1 at *
      clear hbn hmr hov hfz
      go_cut [17] from 36 to 181 (fun s17 wx => (∃ yo : Nat, yo + 8 ≤ H ∧ s17 = .int .i64 yo) ∧ w1 = wx)
      case first =>
        by_cases h8 : H - 8 < y * 8
        · have d8 : decide ((H : Int) - 8 < (y : Int) * 8) = true := by simp; omega
          go_wp2
          go_meet
          exact ⟨⟨H - 8, by omega, by go_num⟩, rfl⟩
        · have d8 : decide ((H : Int) - 8 < (y : Int) * 8) = false := by simp; omega
          go_wp2
          go_meet
          exact ⟨⟨y * 8, by omega, by go_num⟩, rfl⟩
      case rest =>
        obtain ⟨⟨yo, hyo, rfl⟩, rfl⟩ := hcut
        obtain ⟨A, hA⟩ : ∃ A, yo * W = A := ⟨_, rfl⟩
        have hAi : (yo : Int) * W = A := by rw [← hA, Int.natCast_mul]
        have hA0 : A ≤ 160000 := by rw [← hA]; exact Nat.le_trans (Nat.mul_le_mul (show yo ≤ 400 by omega) hWb) (by omega)
        have HA := Lib.hid hA
        clear hA
        go_wp2_with fail
        go_loopw [18, 19, 20, 21, 22, 23, 24, 25, 26, 27, 28, 29] (fun xv _ _ _ _ _ _ _ _ _ _ _ wr => ∃ (x : Nat), x ≤ m ∧ xv = .int .i64 x ∧ BPs wr o (y + 1) n m L ∧ Kept w wr) (fun xv _ _ _ _ _ _ _ _ _ _ _ _ => m - (intOf xv).toNat)
        case atStart => exact ⟨0, Nat.zero_le _, rfl, HPU.out, KP.out⟩
        case round =>
          obtain ⟨x, hx, rfl, hb, kw⟩ := hrel
          have HB := Lib.hid hb
          have KW := Lib.hid kw
          clear hb kw HPU KP
          by_cases hxm : x < m
          · have hd2 : decide ((x : Int) < m) = true := by simp; omega
            go_upto_if 61 with fail
            go_cut [19] from 52 to 181 (fun s19 wx => (∃ xo : Nat, xo + 8 ≤ W ∧ s19 = .int .i64 xo) ∧ wr = wx)
            case first =>
              by_cases h8 : W - 8 < x * 8
              · have d8 : decide ((W : Int) - 8 < (x : Int) * 8) = true := by simp; omega
                go_wp2
                go_meet
                exact ⟨⟨W - 8, by omega, by go_num⟩, rfl⟩
              · have d8 : decide ((W : Int) - 8 < (x : Int) * 8) = false := by simp; omega
                go_wp2
                go_meet
                exact ⟨⟨x * 8, by omega, by go_num⟩, rfl⟩
            case rest =>
              obtain ⟨⟨xo, hxo, rfl⟩, rfl⟩ := hcut
              go_wp2_with fail
              go_upto_region 21 with fail
              go_loopw [20, 21, 22, 23, 24, 25, 26, 27] (fun sv nv xv yv ov _ _ _ wx => wr = wx ∧ ∃ (yy o2 sum mn mx : Nat), yy ≤ 9 ∧ sv = .int .i64 sum ∧ nv = .int .i64 mn ∧ xv = .int .i64 mx ∧ yv = .int .i64 yy ∧ ov = .int .i64 o2 ∧ o2 = (yo + yy) * W + xo ∧ St L (8 * min yy 8) sum mn mx) (fun _ _ _ yv _ _ _ _ _ => 9 - (intOf yv).toNat)
              case atStart => exact ⟨rfl, 0, A + xo, 0, 255, 0, by omega, rfl, rfl, rfl, rfl, by go_num, by rw [← HA.out]; rfl, St.zero L⟩
              case round =>
                obtain ⟨rfl, yy, o2, sum, mn, mx, hyy, rfl, rfl, rfl, rfl, rfl, ho2, hst⟩ := hrel
                have hob : o2 ≤ 170000 := by
                  rw [ho2]
                  have := Nat.mul_le_mul (show yo + yy ≤ 409 by omega) hWb
                  omega
                by_cases hy8 : yy < 8
                · have hd3 : decide ((yy : Int) < 8) = true := by simp; omega
                  have hon : o2 + 8 ≤ N := by have := HLT.out yo yy hyo hy8; omega
                  have hnx : o2 + W = (yo + (yy + 1)) * W + xo := by rw [ho2, ← Nat.add_assoc, Nat.succ_mul]; omega
                  rw [Nat.min_eq_left (by omega)] at hst
                  have HST := Lib.hid hst
                  have HNX := Lib.hid hnx
                  have HO2 := Lib.hid ho2
                  have hbd := hst.bound hL (by omega)
                  obtain ⟨hbd1, hbd2, hbd3⟩ := hbd
                  clear hst hnx ho2
                  go_wp2_with fail
                  go_loopw [20, 21, 22, 25, 26] (fun sv nv xv iv _ wx => wr = wx ∧ ∃ (xx sum mn mx : Nat), xx ≤ 8 ∧ sv = .int .i64 sum ∧ nv = .int .i64 mn ∧ xv = .int .i64 mx ∧ iv = .int .i64 xx ∧ St L (8 * yy + xx) sum mn mx) (fun _ _ _ iv _ _ => 8 - (intOf iv).toNat)
                  case atStart => exact ⟨rfl, 0, sum, mn, mx, by omega, rfl, rfl, rfl, rfl, HST.out⟩
                  case round =>
                    clear HST hbd1 hbd2 hbd3
                    obtain ⟨rfl, xx, sum, mn, mx, hxx, rfl, rfl, rfl, rfl, hst⟩ := hrel
                    obtain ⟨hbd1, hbd2, hbd3⟩ := hst.bound hL (by omega)
                    have HST := Lib.hid hst
                    clear hst
                    by_cases hx8 : xx < 8
                    · have hd4 : decide ((xx : Int) < 8) = true := by simp; omega
                      have cp := cell_kept (HP.out (o2 + xx) (by omega)) KW.out
                      rcases HV.out (o2 + xx) with hz | hl
                      · rw [hz] at cp
                        have hor : bits .and .u8 0 255 = 0 := by kernel_rfl
                        clear hz
                        have d6 : decide ((mx : Int) < 0) = false := by simp
                        by_cases hm0 : 0 < mn
                        · have d5 : decide ((0 : Int) < mn) = true := by simp; omega
                          go_wp2
                          exact ⟨⟨trivial, xx + 1, sum, 0, mx, by omega, rfl, rfl, rfl, by go_num, HST.out.dark⟩, by simp [intOf]; omega⟩
                        · obtain rfl : mn = 0 := by omega
                          have d5 : decide ((0 : Int) < (0 : Nat)) = false := by decide
                          go_wp2
                          exact ⟨⟨trivial, xx + 1, sum, 0, mx, by omega, rfl, rfl, rfl, by go_num, HST.out.dark⟩, by simp [intOf]; omega⟩
                      · rw [hl] at cp
                        have hor := u8and255 L hL
                        clear hl
                        have hlt := HST.out.light hL0 hL
                        by_cases hm1 : L < mn
                        · rw [if_pos hm1] at hlt
                          have d5 : decide ((L : Int) < mn) = true := by simp; omega
                          by_cases hm2 : mx < L
                          · rw [if_pos hm2] at hlt
                            have d6 : decide ((mx : Int) < L) = true := by simp; omega
                            have HLI := Lib.hid hlt
                            clear hlt
                            go_wp2
                            exact ⟨⟨trivial, xx + 1, sum + L, L, L, by omega, by go_num, rfl, rfl, by go_num, HLI.out⟩, by simp [intOf]; omega⟩
                          · rw [if_neg hm2] at hlt
                            have d6 : decide ((mx : Int) < L) = false := by simp; omega
                            have HLI := Lib.hid hlt
                            clear hlt
                            go_wp2
                            exact ⟨⟨trivial, xx + 1, sum + L, L, mx, by omega, by go_num, rfl, rfl, by go_num, HLI.out⟩, by simp [intOf]; omega⟩
                        · rw [if_neg hm1] at hlt
                          have d5 : decide ((L : Int) < mn) = false := by simp; omega
                          by_cases hm2 : mx < L
                          · rw [if_pos hm2] at hlt
                            have d6 : decide ((mx : Int) < L) = true := by simp; omega
                            have HLI := Lib.hid hlt
                            clear hlt
                            go_wp2
                            exact ⟨⟨trivial, xx + 1, sum + L, mn, L, by omega, by go_num, rfl, rfl, by go_num, HLI.out⟩, by simp [intOf]; omega⟩
                          · rw [if_neg hm2] at hlt
                            have d6 : decide ((mx : Int) < L) = false := by simp; omega
                            have HLI := Lib.hid hlt
                            clear hlt
                            go_wp2
                            exact ⟨⟨trivial, xx + 1, sum + L, mn, mx, by omega, by go_num, rfl, rfl, by go_num, HLI.out⟩, by simp [intOf]; omega⟩
                    · obtain rfl : xx = 8 := by omega
                      have hd4 : decide (((8 : Nat) : Int) < 8) = false := by decide
                      by_cases hw : mn + 24 < mx
                      · have d7 : decide ((24 : Int) < (mx : Int) - mn) = true := by simp; omega
                        have hmn : mn ≠ 255 := by omega
                        go_wp2_with fail
                        go_loopw [20, 23, 24, 27] (fun sv yv ov _ wx => wr = wx ∧ ∃ (y2 o3 sum : Nat), y2 ≤ 8 ∧ yy < y2 ∧ sv = .int .i64 sum ∧ yv = .int .i64 y2 ∧ ov = .int .i64 o3 ∧ o3 = (yo + y2) * W + xo ∧ St L (8 * y2) sum mn mx) (fun _ yv _ _ _ => 8 - (intOf yv).toNat)
                        case atStart => exact ⟨rfl, yy + 1, o2 + W, sum, by omega, by omega, rfl, by go_num, by go_num, HNX.out, HST.out⟩
                        case round =>
                          clear HST hbd1 HNX HO2 hob hon
                          obtain ⟨rfl, y2, o3, sum, hy2, hyy2, rfl, rfl, rfl, ho3, hst⟩ := hrel
                          obtain ⟨hbd1, -, -⟩ := hst.bound hL (by omega)
                          have hob : o3 ≤ 170000 := by
                            rw [ho3]
                            have := Nat.mul_le_mul (show yo + y2 ≤ 409 by omega) hWb
                            omega
                          have hnx : o3 + W = (yo + (y2 + 1)) * W + xo := by rw [ho3, ← Nat.add_assoc, Nat.succ_mul]; omega
                          have HST := Lib.hid hst
                          have HNX := Lib.hid hnx
                          by_cases hy28 : y2 < 8
                          · have hd5 : decide ((y2 : Int) < 8) = true := by simp; omega
                            have hon : o3 + 8 ≤ N := by have := HLT.out yo y2 hyo hy28; omega
                            clear hst hnx ho3
                            go_wp2_with fail
                            go_loopw [20, 27] (fun sv iv wx => wr = wx ∧ ∃ (x2 sum : Nat), x2 ≤ 8 ∧ sv = .int .i64 sum ∧ iv = .int .i64 x2 ∧ St L (8 * y2 + x2) sum mn mx) (fun _ iv _ => 8 - (intOf iv).toNat)
                            case atStart => exact ⟨rfl, 0, sum, by omega, rfl, rfl, HST.out⟩
                            case round =>
                              clear HST hbd1
                              obtain ⟨rfl, x2, sum, hx2, rfl, rfl, hst⟩ := hrel
                              obtain ⟨hbd1, -, -⟩ := hst.bound hL (by omega)
                              by_cases hx28 : x2 < 8
                              · have hd6 : decide ((x2 : Int) < 8) = true := by simp; omega
                                have cp := cell_kept (HP.out (o3 + x2) (by omega)) KW.out
                                have hmo := hst.more (.inl hmn) (P (o3 + x2)) (HV.out _)
                                have hpb : P (o3 + x2) < 256 := by rcases HV.out (o3 + x2) with h | h <;> omega
                                generalize P (o3 + x2) = pv at cp hmo hpb
                                have hor := u8and255 pv hpb
                                have HMO := Lib.hid hmo
                                clear hst hmo
                                go_wp2
                                exact ⟨⟨trivial, x2 + 1, sum + pv, by omega, by go_num, by go_num, HMO.out⟩, by simp [intOf]; omega⟩
                              · obtain rfl : x2 = 8 := by omega
                                have hd6 : decide (((8 : Nat) : Int) < 8) = false := by decide
                                have HST := Lib.hid hst
                                clear hst
                                go_wp2
                                exact ⟨⟨trivial, y2 + 1, o3 + W, sum, by omega, by omega, rfl, by go_num, by go_num, HNX.out, HST.out⟩, by simp [intOf]; omega⟩
                          · obtain rfl : y2 = 8 := by omega
                            have hd5 : decide (((8 : Nat) : Int) < 8) = false := by decide
                            clear hst hnx ho3
                            go_wp2
                            exact ⟨⟨trivial, 9, o3 + W, sum, mn, mx, by omega, rfl, rfl, rfl, by go_num, by go_num, HNX.out, by simpa using HST.out⟩, by simp [intOf]; omega⟩
                      · have d7 : decide ((24 : Int) < (mx : Int) - mn) = false := by simp; omega
                        go_wp2
                        exact ⟨⟨trivial, yy + 1, o2 + W, sum, mn, mx, by omega, rfl, rfl, rfl, by go_num, by go_num, HNX.out, by rw [Nat.min_eq_left (by omega)]; exact HST.out⟩, by simp [intOf]; omega⟩
                · have hd3 : decide ((yy : Int) < 8) = false := by simp; omega
                  rw [Nat.min_eq_right (by omega)] at hst
                  obtain ⟨hbd1, hbd2, hbd3⟩ := hst.bound hL (by omega)
                  have HST := Lib.hid hst
                  clear hst ho2
                  go_upto_if 133 with fail
                  go_cut [28, 29] from 52 to 181 (fun s28 _ wx => (∃ v : Nat, v < L ∧ s28 = .int .i64 v) ∧ BPs wx o (y + 1) n m L ∧ Kept w wx)
                  case first =>
                    by_cases hw : mn + 24 < mx
                    · have d7 : decide ((mx : Int) - mn ≤ 24) = false := by simp; omega
                      have hav := HST.out.wide hL0 hw
                      go_wp2
                      go_meet
                      exact ⟨⟨sum / 64, hav, by go_num⟩, HB.out, KW.out⟩
                    · have d7 : decide ((mx : Int) - mn ≤ 24) = true := by simp; omega
                      have hav := HST.out.flat hL0 hL (by omega)
                      by_cases hy0 : y = 0
                      · subst hy0
                        have d8 : decide ((0 : Int) < ((0 : Nat) : Int)) = false := by decide
                        go_wp2
                        go_meet
                        exact ⟨⟨mn / 2, hav, by go_num⟩, HB.out, KW.out⟩
                      · have d8 : decide ((0 : Int) < (y : Int)) = true := by simp; omega
                        by_cases hx0 : x = 0
                        · subst hx0
                          have d9 : decide ((0 : Int) < ((0 : Nat) : Int)) = false := by decide
                          go_wp2
                          go_meet
                          exact ⟨⟨mn / 2, hav, by go_num⟩, HB.out, KW.out⟩
                        · have d9 : decide ((0 : Int) < (x : Int)) = true := by simp; omega
                          obtain ⟨b1, -, r1, s1⟩ := HB.out.row (y - 1) (by omega)
                          obtain ⟨b2, -, r2, s2⟩ := HB.out.row y (by omega)
                          obtain ⟨z1, v1, c1⟩ := s1.cell x hxm
                          obtain ⟨z2, v2, c2⟩ := s2.cell (x - 1) (by omega)
                          obtain ⟨z3, v3, c3⟩ := s1.cell (x - 1) (by omega)
                          clear s1 s2
                          have q1 : IntKind.i64.wrap ((y : Int) - 1) = ((y - 1 : Nat) : Int) := by rw [wrapI _ (by omega) (by omega)]; omega
                          have q2 : IntKind.i64.wrap ((x : Int) - 1) = ((x - 1 : Nat) : Int) := by rw [wrapI _ (by omega) (by omega)]; omega
                          have q3 : IntKind.i64.wrap (2 * (z2 : Int)) = 2 * (z2 : Int) := wrapI _ (by omega) (by omega)
                          have q4 : IntKind.i64.wrap ((z1 : Int) + 2 * (z2 : Int)) = (z1 : Int) + 2 * (z2 : Int) := wrapI _ (by omega) (by omega)
                          have q5 : IntKind.i64.wrap ((z1 : Int) + 2 * (z2 : Int) + z3) = (z1 : Int) + 2 * (z2 : Int) + z3 := wrapI _ (by omega) (by omega)
                          have q6 : ((z1 : Int) + 2 * (z2 : Int) + z3).tdiv 4 = (((z1 + 2 * z2 + z3) / 4 : Nat) : Int) := (Int.ofNat_tdiv (z1 + 2 * z2 + z3) 4).symm
                          have hnb : (z1 + 2 * z2 + z3) / 4 < L := by omega
                          generalize (z1 + 2 * z2 + z3) / 4 = nb at q6 hnb
                          have q7 : IntKind.i64.wrap (nb : Int) = nb := wrapI _ (by omega) (by omega)
                          have p1 : y - 1 < n := by omega
                          have p2 : x - 1 < m := by omega
                          generalize y - 1 = ym at q1 r1 p1
                          generalize x - 1 = xm at q2 c2 c3 p2
                          go_wp2_with fail
                          go_quiet (fail)
                          generalize hwq : wr.drewN nq = wq
                          have kq : Kept wr wq := by rw [← hwq]; exact (Frm.refl _ _).drewN nq
                          have HBQ := Lib.hid (HB.out.kept kq)
                          have HKQ := Lib.hid (KW.out.trans kq)
                          clear hwq kq r1 r2 c1 c2 c3
                          by_cases hmb : mn < nb
                          · have d10 : decide ((mn : Int) < nb) = true := by simp; omega
                            go_wp2
                            go_meet
                            exact ⟨⟨nb, hnb, rfl⟩, HBQ.out, HKQ.out⟩
                          · have d10 : decide ((mn : Int) < nb) = false := by simp; omega
                            go_wp2
                            go_meet
                            exact ⟨⟨mn / 2, hav, by go_num⟩, HBQ.out, HKQ.out⟩
                  case rest =>
                    obtain ⟨⟨v, hvL, rfl⟩, hb5, kw5⟩ := hcut
                    obtain ⟨b2, ob2, r2, s2⟩ := hb5.row y (by omega)
                    obtain ⟨z2, v2, c2⟩ := s2.cell x hxm
                    have f2 := s2.free x
                    have hwr := hb5.write s2 x v hvL
                    have HWR := Lib.hid hwr
                    have HKW := Lib.hid (kw5.setCell (p := ⟨b2, x, none⟩) (u := .int .i64 v) (.inr (by show w.heap.size ≤ b2; have := HO.out; omega)))
                    clear hb5 kw5 hwr s2 ob2
                    go_wp2
                    exact ⟨⟨x + 1, by omega, by go_num, HWR.out, HKW.out⟩, by simp [intOf]; omega⟩
          · obtain rfl : x = m := by omega
            have hd2 : decide ((x : Int) < x) = false := by simp
            go_wp2
            exact ⟨⟨y + 1, by omega, by go_num, HB.out, KW.out⟩, by simp [intOf]; omega⟩
    · obtain rfl : y = n := by omega
      have hd : decide ((y : Int) < y) = false := by simp
      go_wp2
      go_ret
      exact ⟨o, rfl, hb, kw⟩
end Go.Proofs.YtnpkihobbcglcaaGreatDoor

/- Y4: The hybrid binarizer 4: each block against the average of the black points around it. -/
namespace Go.Proofs.YtnpkihobbcglcaaGreatDoor
open Go Go.RowKit

theorem BPs.other {w w' : World} {o k n m L p b W H : Nat} {f : Nat → Nat → Bool} (h : BPs w o k n m L) (hx : BX w p b W H f) (hf : Frm (fun x => x = b) w w') : BPs w' o k n m L := by
  obtain ⟨vs, h1, h2, h3⟩ := h.ex
  obtain ⟨ws, x1, x2, x3⟩ := hx.ex
  refine ⟨vs, h1.frm hf (by rintro rfl; exact Blk.ne h1 x2 (by decide) rfl), h2, fun j hj => ?_⟩
  obtain ⟨c, h0, h4, h5⟩ := h3 j hj
  refine ⟨c, h0, h4, h5.frm hf ?_⟩
  rintro rfl
  obtain ⟨xs, hx, _⟩ := h5
  exact Blk.ne hx x2 (by decide) rfl

/-- All that is black among the cells Q is set, and nothing else. -/
structure Cover (P : Nat → Nat) (W : Nat) (Q : Nat → Nat → Prop) (f : Nat → Nat → Bool) : Prop where
  sound : ∀ a c, f a c = true → P (c * W + a) = 0
  cov : ∀ a c, Q a c → P (c * W + a) = 0 → f a c = true
theorem Cover.zero (P : Nat → Nat) (W : Nat) (Q : Nat → Nat → Prop) (hq : ∀ a c, ¬ Q a c) : Cover P W Q (fun _ _ => false) := ⟨fun _ _ h => (by cases h), fun a c h => absurd h (hq a c)⟩
theorem Cover.weak {P : Nat → Nat} {W : Nat} {Q Q' : Nat → Nat → Prop} {f : Nat → Nat → Bool} (h : Cover P W Q f) (hq : ∀ a c, Q' a c → Q a c) : Cover P W Q' f := ⟨h.sound, fun a c h1 => h.cov a c (hq a c h1)⟩
theorem Cover.block {P : Nat → Nat} {W xo yo : Nat} {Q Q' : Nat → Nat → Prop} {f f' : Nat → Nat → Bool} (h : Cover P W Q f) (hd : Dark P W xo yo 8 0 f f') (hq : ∀ a c, Q' a c → Q a c ∨ xo ≤ a ∧ a < xo + 8 ∧ yo ≤ c ∧ c < yo + 8) : Cover P W Q' f' := by
  refine ⟨fun a c h1 => ?_, fun a c h1 h2 => ?_⟩
  · rcases hd.sound a c h1 with h3 | h3
    · exact h.sound a c h3
    · exact h3
  · rcases hq a c h1 with h3 | ⟨h3, h4, h5, h6⟩
    · exact hd.mono a c (h.cov a c h3 h2)
    · exact hd.cov a c h3 h4 h5 (.inl h6) h2

theorem cap_nat (y n : Nat) (hn : 5 ≤ n) : ∃ t : Nat, (if (y : Int) < 2 then (2 : Int) else if (n : Int) - 3 < y then (n : Int) - 3 else y) = (t : Int) ∧ 2 ≤ t ∧ t + 3 ≤ n := by
  split
  · exact ⟨2, rfl, by omega, by omega⟩
  · split
    · exact ⟨n - 3, by omega, by omega, by omega⟩
    · exact ⟨y, rfl, by omega, by omega⟩

set_option maxRecDepth 100000 in
set_option maxHeartbeats 16000000 in
theorem thresholds (q : Value) (g N c m n W H p b o L : Nat) (P : Nat → Nat) (w : World) (h : BX w p b W H (fun _ _ => false)) (hbp : BPs w o n n m L) (hP : ∀ i, i < N → w.cell? ⟨g, i, none⟩ = some (.int .u8 (P i : Nat))) (hv : ∀ i, P i = 0 ∨ P i = L) (hN : H * W ≤ N) (hNb : N ≤ 160000)
    (hgb : g ≠ b) (hgs : g < w.heap.size) (hL0 : 1 ≤ L) (hL : L < 256) (hWa : 40 ≤ W) (hHa : 40 ≤ H) (hWb : W ≤ 400) (hHb : H ≤ 400) (hm0 : 5 ≤ m) (hm : m ≤ 60) (hn0 : 5 ≤ n) (hn : n ≤ 60) (hmW : W ≤ 8 * m) (hnH : H ≤ 8 * n) :
    Calls Tryz.prog 327 #[q, .slice (some ⟨g, 0, none⟩) N c, .int .i64 m, .int .i64 n, .int .i64 W, .int .i64 H, .slice (some ⟨o, 0, none⟩) n n, .pointer (some ⟨p, 0, none⟩)] w fun e w' => e = .returned (.tuple #[]) ∧ BX w' p b W H (fun a c => decide (P (c * W + a) = 0)) ∧ Frm (fun k => k = b) w w' := by
  have HP := Lib.hid hP
  have HV := Lib.hid hv
  have HN := Lib.hid hN
  have HBX := Lib.hid h
  have HBP := Lib.hid hbp
  clear hP hv hN h hbp
  have bL : b < w.heap.size := HBX.out.lt.2
  go_enter Tryz.func327, Tryz.ntmps327
  go_wp2_with fail
  go_loopw [18, 19, 20, 21, 22, 23, 24, 25, 26, 27] (fun yv _ _ _ _ _ _ _ _ _ wr => ∃ (y : Nat) (f : Nat → Nat → Bool), y ≤ n ∧ yv = .int .i64 y ∧ BX wr p b W H f ∧ BPs wr o n n m L ∧ Frm (fun k => k = b) w wr ∧ Cover P W (fun a c => a < W ∧ c < H ∧ c < 8 * y) f) (fun yv _ _ _ _ _ _ _ _ _ _ => n - (intOf yv).toNat)
  case atStart => exact ⟨0, _, Nat.zero_le _, rfl, HBX.out, HBP.out, Frm.refl _ _, Cover.zero _ _ _ (fun a c h => by omega)⟩
  case round =>
    obtain ⟨y, f, hy, rfl, hb, hbp, hf, hcv⟩ := hrel
    have HB := Lib.hid hb
    have HBPS := Lib.hid hbp
    have HF := Lib.hid hf
    have HCV := Lib.hid hcv
    clear hb hbp hf hcv HBX HBP
    by_cases hyn : y < n
    · have hd : decide ((y : Int) < n) = true := by simp; omega
      go_upto_if 41 with fail
      go_cut [19] from 32 to 113 (fun s19 wx => (∃ yo : Nat, yo + 8 ≤ H ∧ yo ≤ 8 * y ∧ (yo = 8 * y ∨ yo = H - 8) ∧ s19 = .int .i64 yo) ∧ wr = wx)
      case first =>
        by_cases h8 : H - 8 < y * 8
        · have d8 : decide ((H : Int) - 8 < (y : Int) * 8) = true := by simp; omega
          go_wp2
          go_meet
          exact ⟨⟨H - 8, by omega, by omega, .inr rfl, by go_num⟩, rfl⟩
        · have d8 : decide ((H : Int) - 8 < (y : Int) * 8) = false := by simp; omega
          go_wp2
          go_meet
          exact ⟨⟨y * 8, by omega, by omega, .inl (by omega), by go_num⟩, rfl⟩
      case rest =>
        obtain ⟨⟨yo, hyo, hyo2, hyo3, rfl⟩, rfl⟩ := hcut
        obtain ⟨tp, htp, htp2, htp3⟩ := cap_nat y n hn0
        have hcap := capInt q y 2 ((n : Int) - 3) wr
        rw [htp] at hcap
        have HCAP := Lib.hid hcap
        have HYO3 := Lib.hid hyo3
        clear hcap htp hyo3
        go_wp2_with fail
        with_reducible refine HCAP.out.mono ?_
        rintro _ _ ⟨rfl, rfl⟩
        dsimp only
        go_wp2_with fail
        go_loopw [21, 22, 23, 24, 25, 26, 27] (fun xv _ _ _ _ _ _ wr => ∃ (x : Nat) (f : Nat → Nat → Bool), x ≤ m ∧ xv = .int .i64 x ∧ BX wr p b W H f ∧ BPs wr o n n m L ∧ Frm (fun k => k = b) w wr ∧ Cover P W (fun a c => a < W ∧ c < H ∧ (c < 8 * y ∨ c < 8 * y + 8 ∧ a < 8 * x)) f) (fun xv _ _ _ _ _ _ _ => m - (intOf xv).toNat)
        case atStart => exact ⟨0, f, Nat.zero_le _, rfl, HB.out, HBPS.out, HF.out, HCV.out.weak (fun a c h => by omega)⟩
        case round =>
          obtain ⟨x, f2, hx, rfl, hb, hbp, hf, hcv⟩ := hrel
          clear HB HBPS HF HCV HCAP
          have HB := Lib.hid hb
          have HBPS := Lib.hid hbp
          have HF := Lib.hid hf
          have HCV := Lib.hid hcv
          clear hb hbp hf hcv
          by_cases hxm : x < m
          · have hd2 : decide ((x : Int) < m) = true := by simp; omega
            go_upto_if 57 with fail
            go_cut [22] from 48 to 113 (fun s22 wx => (∃ xo : Nat, xo + 8 ≤ W ∧ xo ≤ 8 * x ∧ (xo = 8 * x ∨ xo = W - 8) ∧ s22 = .int .i64 xo) ∧ wr = wx)
            case first =>
              by_cases h8 : W - 8 < x * 8
              · have d8 : decide ((W : Int) - 8 < (x : Int) * 8) = true := by simp; omega
                go_wp2
                go_meet
                exact ⟨⟨W - 8, by omega, by omega, .inr rfl, by go_num⟩, rfl⟩
              · have d8 : decide ((W : Int) - 8 < (x : Int) * 8) = false := by simp; omega
                go_wp2
                go_meet
                exact ⟨⟨x * 8, by omega, by omega, .inl (by omega), by go_num⟩, rfl⟩
            case rest =>
              obtain ⟨⟨xo, hxo, hxo2, hxo3, rfl⟩, rfl⟩ := hcut
              obtain ⟨lf, hlf, hlf2, hlf3⟩ := cap_nat x m hm0
              have hcap := capInt q x 2 ((m : Int) - 3) wr
              rw [hlf] at hcap
              have HCAP := Lib.hid hcap
              have HXO3 := Lib.hid hxo3
              clear hcap hlf hxo3
              go_wp2_with fail
              with_reducible refine HCAP.out.mono ?_
              rintro _ _ ⟨rfl, rfl⟩
              dsimp only
              go_wp2_with fail
              go_loopw [24, 25, 26] (fun sv zv _ wx => ∃ (k sum : Nat), k ≤ 5 ∧ sv = .int .i64 sum ∧ zv = .int .i64 ((k : Int) - 2) ∧ sum ≤ 5 * k * (L - 1) ∧ BX wx p b W H f2 ∧ BPs wx o n n m L ∧ Frm (fun k => k = b) w wx) (fun _ zv _ _ => (3 - intOf zv).toNat)
              case atStart => exact ⟨0, 0, by omega, rfl, rfl, by omega, HB.out, HBPS.out, HF.out⟩
              case round =>
                obtain ⟨k, sum, hk, rfl, rfl, hsum, hb, hbp, hf⟩ := hrel
                clear HB HBPS HF HCAP
                have HB := Lib.hid hb
                have HBPS := Lib.hid hbp
                have HF := Lib.hid hf
                have hsb : sum ≤ 6350 := by
                  have : 5 * k * (L - 1) ≤ 25 * 254 := Nat.mul_le_mul (by omega) (by omega)
                  omega
                clear hb hbp hf
                by_cases hk5 : k < 5
                · have hd3 : decide ((k : Int) - 2 ≤ 2) = true := by simp; omega
                  obtain ⟨br, -, r1, s1⟩ := HBPS.out.row (tp + k - 2) (by omega)
                  obtain ⟨z0, v0, c0⟩ := s1.cell (lf - 2) (by omega)
                  obtain ⟨z1, v1, c1⟩ := s1.cell (lf - 1) (by omega)
                  obtain ⟨z2, v2, c2⟩ := s1.cell lf (by omega)
                  obtain ⟨z3, v3, c3⟩ := s1.cell (lf + 1) (by omega)
                  obtain ⟨z4, v4, c4⟩ := s1.cell (lf + 2) (by omega)
                  clear s1
                  have q0 : IntKind.i64.wrap ((lf : Int) - 2) = ((lf - 2 : Nat) : Int) := by rw [wrapI _ (by omega) (by omega)]; omega
                  have q1 : IntKind.i64.wrap ((lf : Int) - 1) = ((lf - 1 : Nat) : Int) := by rw [wrapI _ (by omega) (by omega)]; omega
                  have q3 : IntKind.i64.wrap ((lf : Int) + 1) = ((lf + 1 : Nat) : Int) := by rw [wrapI _ (by omega) (by omega)]; omega
                  have q4 : IntKind.i64.wrap ((lf : Int) + 2) = ((lf + 2 : Nat) : Int) := by rw [wrapI _ (by omega) (by omega)]; omega
                  have p0 : lf - 2 < m := by omega
                  have p1 : lf - 1 < m := by omega
                  have p2 : lf < m := by omega
                  have p3 : lf + 1 < m := by omega
                  have p4 : lf + 2 < m := by omega
                  have t0 : (tp : Int) + ((k : Int) - 2) = ((tp + k - 2 : Nat) : Int) := by omega
                  have pt : tp + k - 2 < n := by omega
                  generalize tp + k - 2 = tk at r1 t0 pt
                  generalize lf - 2 = i0 at c0 q0 p0
                  generalize lf - 1 = i1 at c1 q1 p1
                  generalize lf + 1 = i3 at c3 q3 p3
                  generalize lf + 2 = i4 at c4 q4 p4
                  have a1 : IntKind.i64.wrap ((z0 : Int) + z1) = (z0 : Int) + z1 := wrapI _ (by omega) (by omega)
                  have a2 : IntKind.i64.wrap ((z0 : Int) + z1 + z2) = (z0 : Int) + z1 + z2 := wrapI _ (by omega) (by omega)
                  have a3 : IntKind.i64.wrap ((z0 : Int) + z1 + z2 + z3) = (z0 : Int) + z1 + z2 + z3 := wrapI _ (by omega) (by omega)
                  have a4 : IntKind.i64.wrap ((z0 : Int) + z1 + z2 + z3 + z4) = (z0 : Int) + z1 + z2 + z3 + z4 := wrapI _ (by omega) (by omega)
                  have a5 : IntKind.i64.wrap ((sum : Int) + ((z0 : Int) + z1 + z2 + z3 + z4)) = (sum : Int) + ((z0 : Int) + z1 + z2 + z3 + z4) := wrapI _ (by omega) (by omega)
                  have hs5 : sum + (z0 + z1 + z2 + z3 + z4) ≤ 5 * (k + 1) * (L - 1) := by
                    have e : 5 * (k + 1) * (L - 1) = 5 * k * (L - 1) + 5 * (L - 1) := by rw [Nat.mul_add, Nat.add_mul]
                    omega
                  go_wp2_with fail
                  go_quiet (fail)
                  generalize hwq : wr.drewN nq = wq
                  have kq : Kept wr wq := by rw [← hwq]; exact (Frm.refl _ _).drewN nq
                  have HB2 := Lib.hid (HB.out.kept kq)
                  have HBP2 := Lib.hid (HBPS.out.kept kq)
                  have HF2 := Lib.hid (HF.out.step kq (fun _ _ h => h.elim))
                  have HS5 := Lib.hid hs5
                  clear hwq kq r1 c0 c1 c2 c3 c4 HB HBPS HF hs5 hsum
                  go_wp2
                  exact ⟨⟨k + 1, sum + (z0 + z1 + z2 + z3 + z4), by omega, by go_num, by go_num, HS5.out, HB2.out, HBP2.out, HF2.out⟩, by simp [intOf]; omega⟩
                · obtain rfl : k = 5 := by omega
                  have hd3 : decide (((5 : Nat) : Int) - 2 ≤ 2) = false := by decide
                  have hav : sum / 25 < L := by omega
                  have hth := thresholdBlock q g N c xo yo (sum / 25) W H p b L P f2 wr HB.out (fun i hi => by rw [HF.out.cell hgs hgb]; exact HP.out i hi) HV.out HN.out hNb hgb (Nat.lt_of_lt_of_le hgs HF.out.size) hav hL hxo hyo hWb hHb
                  simp only [Int.natCast_ediv, Int.cast_ofNat_Int] at hth
                  have HTH := Lib.hid hth
                  clear hth hsum
                  go_wp2_with fail
                  with_reducible refine HTH.out.mono ?_
                  rintro _ w5 ⟨rfl, f5, hb5, hd5, hf5⟩
                  have HBP5 := Lib.hid (HBPS.out.other HB.out hf5)
                  have HF5 := Lib.hid (HF.out.trans hf5)
                  have HC5 : RowKit.Hid (Cover P W (fun a c => a < W ∧ c < H ∧ (c < 8 * y ∨ c < 8 * y + 8 ∧ a < 8 * (x + 1))) f5) := Lib.hid (HCV.out.block hd5 (fun a c h => by have h1 := HXO3.out; have h2 := HYO3.out; omega))
                  have HB5 := Lib.hid hb5
                  clear hb5 hd5 hf5 HB HBPS HF HCV HTH
                  dsimp only
                  go_wp2
                  exact ⟨⟨x + 1, f5, by omega, by go_num, HB5.out, HBP5.out, HF5.out, HC5.out⟩, by simp [intOf]; omega⟩
          · obtain rfl : x = m := by omega
            have hd2 : decide ((x : Int) < x) = false := by simp
            go_wp2
            exact ⟨⟨y + 1, f2, by omega, by go_num, HB.out, HBPS.out, HF.out, HCV.out.weak (fun a c h => by omega)⟩, by simp [intOf]; omega⟩
    · obtain rfl : y = n := by omega
      have hd : decide ((y : Int) < y) = false := by simp
      go_wp2
      go_end0
      refine ⟨rfl, HB.out.congr (fun a c ha hc => ?_), HF.out⟩
      by_cases hz : P (c * W + a) = 0
      · rw [HCV.out.cov a c ⟨ha, hc, by omega⟩ hz, decide_eq_true hz]
      · rw [decide_eq_false hz]
        cases hf : f a c
        · rfl
        · exact absurd (HCV.out.sound a c hf) hz
end Go.Proofs.YtnpkihobbcglcaaGreatDoor
