/- The picture drawn: PXDraw. The hybrid binarizer 1: a value capped; a block of pixels against a threshold. The hybrid binarizer 2: the black points of the blocks, plain: less than the light's gray. -/
import Derived.Test.YtnpkihobbcglcaaGreatDoorQ25
import Derived.Test.YtnpkihobbcglcaaGreatDoorQ26
import Derived.BigQuiet
import Derived.Deep.QuietTactic
set_option linter.unusedSimpArgs false
set_option linter.unusedVariables false

/- R2: The picture drawn: PXDraw. -/
namespace Go.Proofs.YtnpkihobbcglcaaGreatDoor
open Go Go.RowKit

theorem wrapI (n : Int) (h0 : -1000000000 ≤ n) (h1 : n < 1000000000) : IntKind.i64.wrap n = n := by rw [IntKind.wrap_i64]; omega

/-- A pixel: dark within the modules where a module is set. -/
def pixAt (s m0 m2 n light : Nat) (R : List (List Bool)) (x y : Nat) : Nat :=
  if m0 ≤ x ∧ m2 ≤ y ∧ x < m0 + s * n ∧ y < m2 + s * n ∧ (R.getD ((y - m2) / s) []).getD ((x - m0) / s) false = true then 0 else light
def pixVal (s m0 m2 n light : Nat) (R : List (List Bool)) (W t : Nat) : Value := .int .u8 ((pixAt s m0 m2 n light R (t % W) (t / W) : Nat) : Int)
def pixRow (s m0 m2 n light : Nat) (R : List (List Bool)) (W k : Nat) : List Value := (List.range k).map (pixVal s m0 m2 n light R W)
theorem pixRow_succ (s m0 m2 n light : Nat) (R : List (List Bool)) (W y x : Nat) (hx : x < W) :
    pixRow s m0 m2 n light R W (y * W + x + 1) = pixRow s m0 m2 n light R W (y * W + x) ++ [.int .u8 ((pixAt s m0 m2 n light R x y : Nat) : Int)] := by
  unfold pixRow
  rw [List.range_succ, List.map_append]
  have h1 : (y * W + x) / W = y := by rw [Nat.mul_comm, Nat.mul_add_div (by omega), Nat.div_eq_of_lt hx]; omega
  have h2 : (y * W + x) % W = x := by rw [Nat.mul_comm, Nat.mul_add_mod, Nat.mod_eq_of_lt hx]
  simp [pixVal, h1, h2]

set_option maxRecDepth 100000 in
set_option maxHeartbeats 8000000 in
theorem pxDraw (g cap n s m0 m1 m2 m3 light W H : Nat) (R : List (List Bool)) (w : World) (hS : SliceOf w (.slice (some ⟨g, 0, none⟩) n cap) R) (hn : R.length = n) (hr : ∀ y, y < n → (R.getD y []).length = n) (hn1 : 1 ≤ n) (hn2 : n ≤ 45) (hs1 : 1 ≤ s) (hs2 : s ≤ 4)
    (h0 : m0 ≤ 40) (h1 : m1 ≤ 40) (h2 : m2 ≤ 40) (h3 : m3 ≤ 40) (hW : W = m0 + s * n + m1) (hH : H = m2 + s * n + m3) (hl : light < 256) :
    Calls Tryz.prog 23 #[.slice (some ⟨g, 0, none⟩) n cap, .int .i64 s, .agg #[.int .i64 m0, .int .i64 m1, .int .i64 m2, .int .i64 m3], .int .u8 0, .int .u8 light] w fun e w' => ∃ b c, e = .returned (.tuple #[.int .i64 W, .int .i64 H, .slice (some ⟨b, 0, none⟩) (H * W) c]) ∧ Row w' 5 b (H * W) c (pixRow s m0 m2 n light R W (H * W)) ∧ Kept w w' := by
  obtain ⟨vs, hrow, hat⟩ : ∃ vs, Row w 56 g n cap vs ∧ ∀ (j : Nat) (r : List Bool), R[j]? = some r → ∃ b, vs[j]? = some (Value.slice (some ⟨b, 0, none⟩) r.length r.length) ∧ Bools w b r := by
    rcases hS with ⟨_, h⟩ | ⟨g', cap', vs, h, h2, h3⟩
    · cases h
    · cases h
      rw [hn] at h2
      exact ⟨vs, h2, h3⟩
  have hat2 : ∀ y, y < n → ∃ b, w.cell? ⟨g, y, none⟩ = some (.slice (some ⟨b, 0, none⟩) n n) ∧ Bools w b (R.getD y []) := by
    intro y hy
    obtain ⟨b, hb1, hb2⟩ := hat y (R.getD y []) (by rw [List.getD_eq_getElem?_getD, List.getElem?_eq_getElem (by omega)]; rfl)
    rw [hr y hy] at hb1
    exact ⟨b, by rw [hrow.cell y hy]; exact hb1, hb2⟩
  obtain ⟨b0, hb0, _⟩ := hat2 0 (by omega)
  obtain ⟨Z, hZ⟩ : ∃ Z, s * n = Z := ⟨_, rfl⟩
  have hZi : (s : Int) * n = Z := by rw [← hZ, Int.natCast_mul]
  have hZb : Z ≤ 180 := by rw [← hZ]; exact Nat.le_trans (Nat.mul_le_mul hs2 hn2) (by omega)
  rw [hZ] at hW hH
  have HAT := Lib.hid hat2
  have HZ := Lib.hid hZ
  have HR := Lib.hid hr
  have HW := Lib.hid hW
  have HH := Lib.hid hH
  have hWi : (m0 : Int) + Z + m1 = W := by omega
  have hHi : (m2 : Int) + Z + m3 = H := by omega
  have hWb : W ≤ 260 := by omega
  have hHb : H ≤ 260 := by omega
  clear hat2 hat hrow hS hZ hr hW hH
  have hd0 : decide ((0 : Int) < n) = true := by simp; omega
  have hd0' : decide (0 < n) = true := by simp; omega
  have hmb := Blk.new w #[.int .i64 m0, .int .i64 m1, .int .i64 m2, .int .i64 m3] 59
  have ka : Kept w (w.alloc (.cells #[.int .i64 m0, .int .i64 m1, .int .i64 m2, .int .i64 m3] 59)) := (Frm.refl _ _).alloc _
  have hb1 := cell_kept hb0 ka
  go_enter Tryz.func23, Tryz.ntmps23
  go_wp2_with fail
  have c0 := hmb.cell 0
  have c1 := hmb.cell 1
  have c2 := hmb.cell 2
  have c3 := hmb.cell 3
  simp only [List.getElem?_toArray, List.getElem?_cons_zero, List.getElem?_cons_succ] at c0 c1 c2 c3
  generalize w.alloc (.cells #[.int .i64 m0, .int .i64 m1, .int .i64 m2, .int .i64 m3] 59) = wA at hmb ka hb1 c0 c1 c2 c3 ⊢
  generalize w.heap.size = mb at hmb c0 c1 c2 c3 ⊢
  have HMB := Lib.hid hmb
  clear hmb
  have wz1 : IntKind.i64.wrap ((s : Int) * n) = Z := by rw [hZi]; exact wrapi64 _ (by omega) (by omega)
  go_quiet (fail)
  have ka2 : Kept w (wA.drewN nq) := ka.drewN nq
  have kb : Kept wA (wA.drewN nq) := (Frm.refl _ _).drewN nq
  obtain ⟨P, hP⟩ : ∃ P, W * H = P := ⟨_, rfl⟩
  have hPi : (W : Int) * H = P := by rw [← hP, Int.natCast_mul]
  have hPb : P ≤ 67600 := by rw [← hP]; exact Nat.le_trans (Nat.mul_le_mul hWb hHb) (by omega)
  have HP := Lib.hid hP
  have hmk := run_make_cap 32 5 (.int .u8 0) 1 (by kernel_rfl) info5 rfl 0 P (by omega) (by omega) (by omega) (wA.drewN nq)
  simp only [Int.cast_ofNat_Int] at hmk
  have hrb : Row ((wA.drewN nq).alloc (.cells (Array.replicate P (.int .u8 0)) 5)) 5 (wA.drewN nq).heap.size 0 P [] := by
    have := Row.made (Blk.new (wA.drewN nq) (Array.replicate P (.int .u8 0)) 5) (by simp [maxLen]; omega)
    simpa using this
  have kc : Kept wA ((wA.drewN nq).alloc (.cells (Array.replicate P (.int .u8 0)) 5)) := kb.alloc _
  have hsz : (wA.drewN nq).heap.size = wA.heap.size := rfl
  rw [hsz] at hmk hrb
  clear hP hWi hHi c0 c1 c2 c3 wz1 ka2 kb hsz
  go_wp2_with fail
  generalize (wA.drewN nq).alloc (.cells (Array.replicate P (.int .u8 0)) 5) = wB at hrb kc ⊢
  clear hmk
  have HKA := Lib.hid ka
  clear ka hb1 hb0
  go_loopw [16, 17] (fun ov yv wr => ∃ (y b c : Nat), y ≤ H ∧ yv = .int .i64 y ∧ ov = .slice (some ⟨b, 0, none⟩) (y * W) c ∧ Row wr 5 b (y * W) c (pixRow s m0 m2 n light R W (y * W)) ∧ wA.heap.size ≤ b ∧ Kept wA wr) (fun _ yv _ => H - (intOf yv).toNat)
  case atStart => exact ⟨0, wA.heap.size, P, Nat.zero_le _, rfl, by rw [Nat.zero_mul], by rw [Nat.zero_mul]; exact hrb, Nat.le_refl _, kc⟩
  case round =>
    obtain ⟨y, b, c, hy, rfl, rfl, hrw, hbs, kw⟩ := hrel
    clear hrb kc
    by_cases hyl : y < H
    · have hdy : decide ((y : Int) < H) = true := by simp; omega
      obtain ⟨Q, hQ⟩ : ∃ Q, y * W = Q := ⟨_, rfl⟩
      have hQb : Q + W ≤ 70000 := by
        have := Nat.mul_le_mul (show y ≤ 260 by omega) hWb
        omega
      rw [hQ] at hrw ⊢
      have HQ := Lib.hid hQ
      clear hQ
      go_wp2
      go_loopw [16, 18, 19, 20, 21] (fun ov xv _ _ _ wx => ∃ (x b c : Nat), x ≤ W ∧ xv = .int .i64 x ∧ ov = .slice (some ⟨b, 0, none⟩) (Q + x) c ∧ Row wx 5 b (Q + x) c (pixRow s m0 m2 n light R W (Q + x)) ∧ wA.heap.size ≤ b ∧ Kept wA wx) (fun _ xv _ _ _ _ => W - (intOf xv).toNat)
      case atStart => exact ⟨0, b, c, Nat.zero_le _, rfl, rfl, hrw, hbs, kw⟩
      case round =>
        obtain ⟨x, b, c, hx, rfl, rfl, hrx, hbx, kx⟩ := hrel
        clear hrw hbs kw
        by_cases hxl : x < W
        · have hdx : decide ((x : Int) < W) = true := by simp; omega
          have hmr := HMB.out.frm kx (fun h => h)
          have c0 := hmr.cell 0
          have c2 := hmr.cell 2
          simp only [List.getElem?_toArray, List.getElem?_cons_zero, List.getElem?_cons_succ] at c0 c2
          have wx0 : IntKind.i64.wrap ((x : Int) - m0) = (x : Int) - m0 := wrapI _ (by omega) (by omega)
          have wy0 : IntKind.i64.wrap ((y : Int) - m2) = (y : Int) - m2 := wrapI _ (by omega) (by omega)
          have HRX := Lib.hid hrx
          have HKX := Lib.hid kx
          have HBX := Lib.hid hbx
          have wz1 : IntKind.i64.wrap ((s : Int) * n) = Z := by rw [hZi]; exact wrapI _ (by omega) (by omega)
          clear hmr hrx kx hbx
          by_cases hA : m0 ≤ x
          · have dA : decide ((0 : Int) ≤ (x : Int) - m0) = true := by simp; omega
            by_cases hB : m2 ≤ y
            · have dB : decide ((0 : Int) ≤ (y : Int) - m2) = true := by simp; omega
              by_cases hC : x < m0 + Z
              · have dC : decide ((x : Int) - m0 < Z) = true := by simp; omega
                by_cases hD : y < m2 + Z
                · have dD : decide ((y : Int) - m2 < Z) = true := by simp; omega
                  obtain ⟨kk, hkk⟩ : ∃ kk, (y - m2) / s = kk := ⟨_, rfl⟩
                  obtain ⟨ii, hii⟩ : ∃ ii, (x - m0) / s = ii := ⟨_, rfl⟩
                  have hkn : kk < n := by
                    rw [← hkk]
                    refine Nat.div_lt_of_lt_mul ?_
                    rw [HZ.out]
                    omega
                  have hin : ii < n := by
                    rw [← hii]
                    refine Nat.div_lt_of_lt_mul ?_
                    rw [HZ.out]
                    omega
                  have q1 : ((y : Int) - m2).tdiv s = (kk : Int) := by
                    rw [show (y : Int) - m2 = ((y - m2 : Nat) : Int) by omega, ← Int.ofNat_tdiv, hkk]
                  have q2 : ((x : Int) - m0).tdiv s = (ii : Int) := by
                    rw [show (x : Int) - m0 = ((x - m0 : Nat) : Int) by omega, ← Int.ofNat_tdiv, hii]
                  have wk1 : IntKind.i64.wrap (kk : Int) = kk := wrapI _ (by omega) (by omega)
                  have wk2 : IntKind.i64.wrap (ii : Int) = ii := wrapI _ (by omega) (by omega)
                  have hs0 : decide ((s : Int) = 0) = false := by simp; omega
                  obtain ⟨bk, hbk1, hbk2⟩ := HAT.out kk hkn
                  have cg := cell_kept hbk1 (HKA.out.trans HKX.out)
                  have cb := (hbk2.frm (HKA.out.trans HKX.out) (fun h => h)).cell ii (by rw [HR.out kk hkn]; exact hin)
                  have HKK := Lib.hid hkk
                  have HII := Lib.hid hii
                  have hki : (kk : Int) < n := by omega
                  have hii2 : (ii : Int) < n := by omega
                  clear hkk hii hbk1 hbk2
                  generalize hbv : (R.getD kk []).getD ii false = bv at cb
                  have HBV := Lib.hid hbv
                  clear hbv
                  cases bv
                  · go_wp2_with fail
                    go_quiet (fail)
                    have kq1 : Kept wr (wr.drewN nq) := (Frm.refl _ _).drewN nq
                    generalize wr.drewN nq = wq1 at kq1 ⊢
                    have cg1 := cell_kept cg kq1
                    have cb1 := cell_kept cb kq1
                    go_wp2_with fail
                    go_quiet (fail)
                    have kq2 : Kept wr (wq1.drewN nq) := kq1.drewN nq
                    generalize wq1.drewN nq = wq2 at kq2 ⊢
                    obtain ⟨g', cap', w5, hrun, hrow5, f5, hg5⟩ := run_append_row1 32 32 5 (.int .u8 0) 1 (by kernel_rfl) info5 rfl (HRX.out.kept kq2) (.int .u8 light) rfl (by unfold maxLen; omega) (by omega)
                    have hpix : pixAt s m0 m2 n light R x y = light := by
                      unfold pixAt
                      rw [if_neg]
                      rw [HKK.out, HII.out, HBV.out]
                      rintro ⟨_, _, _, _, h⟩
                      cases h
                    have hst := pixRow_succ s m0 m2 n light R W y x hxl
                    rw [HQ.out, hpix] at hst
                    rw [← hst] at hrow5
                    have hk5 : Kept wA w5 := (HKX.out.trans kq2).step f5 (by
                      rintro k hk rfl
                      have := HBX.out
                      omega)
                    have hb5 : wA.heap.size ≤ g' := by
                      have h1 := HBX.out
                      have h2 := HKX.out.size
                      have h3 := kq2.size
                      omega
                    have HRUN := Lib.hid hrun
                    have HR5 := Lib.hid hrow5
                    have HK5 := Lib.hid hk5
                    clear cg cb cg1 cb1 hrun hrow5 f5 hg5 hpix hst hk5 kq1 kq2 c0 c2
                    go_wp2_with (at_builtin; refine wpList_append_run rfl (.tmp 106) (.tmp 108) 32 32 rfl _ _ rfl rfl _ _ HRUN.out ?_)
                    exact ⟨⟨x + 1, g', cap', by omega, by go_num, rfl, HR5.out, hb5, HK5.out⟩, by simp [intOf]; omega⟩
                  · go_wp2_with fail
                    go_quiet (fail)
                    have kq1 : Kept wr (wr.drewN nq) := (Frm.refl _ _).drewN nq
                    generalize wr.drewN nq = wq1 at kq1 ⊢
                    have cg1 := cell_kept cg kq1
                    have cb1 := cell_kept cb kq1
                    go_wp2_with fail
                    go_quiet (fail)
                    have kq2 : Kept wr (wq1.drewN nq) := kq1.drewN nq
                    generalize wq1.drewN nq = wq2 at kq2 ⊢
                    obtain ⟨g', cap', w5, hrun, hrow5, f5, hg5⟩ := run_append_row1 32 32 5 (.int .u8 0) 1 (by kernel_rfl) info5 rfl (HRX.out.kept kq2) (.int .u8 0) rfl (by unfold maxLen; omega) (by omega)
                    have hpix : pixAt s m0 m2 n light R x y = 0 := by
                      unfold pixAt
                      rw [if_pos]
                      rw [HKK.out, HII.out, HBV.out, HZ.out]
                      exact ⟨hA, hB, hC, hD, rfl⟩
                    have hst := pixRow_succ s m0 m2 n light R W y x hxl
                    rw [HQ.out, hpix] at hst
                    change _ = _ ++ [Value.int .u8 0] at hst
                    rw [← hst] at hrow5
                    have hk5 : Kept wA w5 := (HKX.out.trans kq2).step f5 (by
                      rintro k hk rfl
                      have := HBX.out
                      omega)
                    have hb5 : wA.heap.size ≤ g' := by
                      have h1 := HBX.out
                      have h2 := HKX.out.size
                      have h3 := kq2.size
                      omega
                    have HRUN := Lib.hid hrun
                    have HR5 := Lib.hid hrow5
                    have HK5 := Lib.hid hk5
                    clear cg cb cg1 cb1 hrun hrow5 f5 hg5 hpix hst hk5 kq1 kq2 c0 c2
                    go_wp2_with (at_builtin; refine wpList_append_run rfl (.tmp 106) (.tmp 108) 32 32 rfl _ _ rfl rfl _ _ HRUN.out ?_)
                    exact ⟨⟨x + 1, g', cap', by omega, by go_num, rfl, HR5.out, hb5, HK5.out⟩, by simp [intOf]; omega⟩
                · have dD : decide ((y : Int) - m2 < Z) = false := by simp; omega
                  go_wp2_with fail
                  go_quiet (fail)
                  have kq1 : Kept wr (wr.drewN nq) := (Frm.refl _ _).drewN nq
                  generalize wr.drewN nq = wq1 at kq1 ⊢
                  go_wp2_with fail
                  go_quiet (fail)
                  have kq2 : Kept wr (wq1.drewN nq) := kq1.drewN nq
                  generalize wq1.drewN nq = wq2 at kq2 ⊢
                  obtain ⟨g', cap', w5, hrun, hrow5, f5, hg5⟩ := run_append_row1 32 32 5 (.int .u8 0) 1 (by kernel_rfl) info5 rfl (HRX.out.kept kq2) (.int .u8 light) rfl (by unfold maxLen; omega) (by omega)
                  have hpix : pixAt s m0 m2 n light R x y = light := by
                    unfold pixAt
                    rw [if_neg]
                    rw [HZ.out]
                    omega
                  have hst := pixRow_succ s m0 m2 n light R W y x hxl
                  rw [HQ.out, hpix] at hst
                  rw [← hst] at hrow5
                  have hk5 : Kept wA w5 := (HKX.out.trans kq2).step f5 (by
                    rintro k hk rfl
                    have := HBX.out
                    omega)
                  have hb5 : wA.heap.size ≤ g' := by
                    have h1 := HBX.out
                    have h2 := HKX.out.size
                    have h3 := kq2.size
                    omega
                  have HRUN := Lib.hid hrun
                  have HR5 := Lib.hid hrow5
                  have HK5 := Lib.hid hk5
                  clear hrun hrow5 f5 hg5 hpix hst hk5 kq1 kq2 c0 c2
                  go_wp2_with (at_builtin; refine wpList_append_run rfl (.tmp 106) (.tmp 108) 32 32 rfl _ _ rfl rfl _ _ HRUN.out ?_)
                  exact ⟨⟨x + 1, g', cap', by omega, by go_num, rfl, HR5.out, hb5, HK5.out⟩, by simp [intOf]; omega⟩
              · have dC : decide ((x : Int) - m0 < Z) = false := by simp; omega
                go_wp2_with fail
                go_quiet (fail)
                have kq1 : Kept wr (wr.drewN nq) := (Frm.refl _ _).drewN nq
                generalize wr.drewN nq = wq1 at kq1 ⊢
                go_wp2_with fail
                go_quiet (fail)
                have kq2 : Kept wr (wq1.drewN nq) := kq1.drewN nq
                generalize wq1.drewN nq = wq2 at kq2 ⊢
                obtain ⟨g', cap', w5, hrun, hrow5, f5, hg5⟩ := run_append_row1 32 32 5 (.int .u8 0) 1 (by kernel_rfl) info5 rfl (HRX.out.kept kq2) (.int .u8 light) rfl (by unfold maxLen; omega) (by omega)
                have hpix : pixAt s m0 m2 n light R x y = light := by
                  unfold pixAt
                  rw [if_neg]
                  rw [HZ.out]
                  omega
                have hst := pixRow_succ s m0 m2 n light R W y x hxl
                rw [HQ.out, hpix] at hst
                rw [← hst] at hrow5
                have hk5 : Kept wA w5 := (HKX.out.trans kq2).step f5 (by
                  rintro k hk rfl
                  have := HBX.out
                  omega)
                have hb5 : wA.heap.size ≤ g' := by
                  have h1 := HBX.out
                  have h2 := HKX.out.size
                  have h3 := kq2.size
                  omega
                have HRUN := Lib.hid hrun
                have HR5 := Lib.hid hrow5
                have HK5 := Lib.hid hk5
                clear hrun hrow5 f5 hg5 hpix hst hk5 kq1 kq2 c0 c2
                go_wp2_with (at_builtin; refine wpList_append_run rfl (.tmp 106) (.tmp 108) 32 32 rfl _ _ rfl rfl _ _ HRUN.out ?_)
                exact ⟨⟨x + 1, g', cap', by omega, by go_num, rfl, HR5.out, hb5, HK5.out⟩, by simp [intOf]; omega⟩
            · have dB : decide ((0 : Int) ≤ (y : Int) - m2) = false := by simp; omega
              go_wp2_with fail
              go_quiet (fail)
              have kq1 : Kept wr (wr.drewN nq) := (Frm.refl _ _).drewN nq
              generalize wr.drewN nq = wq1 at kq1 ⊢
              go_wp2_with fail
              go_quiet (fail)
              have kq2 : Kept wr (wq1.drewN nq) := kq1.drewN nq
              generalize wq1.drewN nq = wq2 at kq2 ⊢
              obtain ⟨g', cap', w5, hrun, hrow5, f5, hg5⟩ := run_append_row1 32 32 5 (.int .u8 0) 1 (by kernel_rfl) info5 rfl (HRX.out.kept kq2) (.int .u8 light) rfl (by unfold maxLen; omega) (by omega)
              have hpix : pixAt s m0 m2 n light R x y = light := by
                unfold pixAt
                rw [if_neg]
                rw [HZ.out]
                omega
              have hst := pixRow_succ s m0 m2 n light R W y x hxl
              rw [HQ.out, hpix] at hst
              rw [← hst] at hrow5
              have hk5 : Kept wA w5 := (HKX.out.trans kq2).step f5 (by
                rintro k hk rfl
                have := HBX.out
                omega)
              have hb5 : wA.heap.size ≤ g' := by
                have h1 := HBX.out
                have h2 := HKX.out.size
                have h3 := kq2.size
                omega
              have HRUN := Lib.hid hrun
              have HR5 := Lib.hid hrow5
              have HK5 := Lib.hid hk5
              clear hrun hrow5 f5 hg5 hpix hst hk5 kq1 kq2 c0 c2
              go_wp2_with (at_builtin; refine wpList_append_run rfl (.tmp 106) (.tmp 108) 32 32 rfl _ _ rfl rfl _ _ HRUN.out ?_)
              exact ⟨⟨x + 1, g', cap', by omega, by go_num, rfl, HR5.out, hb5, HK5.out⟩, by simp [intOf]; omega⟩
          · have dA : decide ((0 : Int) ≤ (x : Int) - m0) = false := by simp; omega
            go_wp2_with fail
            go_quiet (fail)
            have kq1 : Kept wr (wr.drewN nq) := (Frm.refl _ _).drewN nq
            generalize wr.drewN nq = wq1 at kq1 ⊢
            go_wp2_with fail
            go_quiet (fail)
            have kq2 : Kept wr (wq1.drewN nq) := kq1.drewN nq
            generalize wq1.drewN nq = wq2 at kq2 ⊢
            obtain ⟨g', cap', w5, hrun, hrow5, f5, hg5⟩ := run_append_row1 32 32 5 (.int .u8 0) 1 (by kernel_rfl) info5 rfl (HRX.out.kept kq2) (.int .u8 light) rfl (by unfold maxLen; omega) (by omega)
            have hpix : pixAt s m0 m2 n light R x y = light := by
              unfold pixAt
              rw [if_neg]
              rw [HZ.out]
              omega
            have hst := pixRow_succ s m0 m2 n light R W y x hxl
            rw [HQ.out, hpix] at hst
            rw [← hst] at hrow5
            have hk5 : Kept wA w5 := (HKX.out.trans kq2).step f5 (by
              rintro k hk rfl
              have := HBX.out
              omega)
            have hb5 : wA.heap.size ≤ g' := by
              have h1 := HBX.out
              have h2 := HKX.out.size
              have h3 := kq2.size
              omega
            have HRUN := Lib.hid hrun
            have HR5 := Lib.hid hrow5
            have HK5 := Lib.hid hk5
            clear hrun hrow5 f5 hg5 hpix hst hk5 kq1 kq2 c0 c2
            go_wp2_with (at_builtin; refine wpList_append_run rfl (.tmp 106) (.tmp 108) 32 32 rfl _ _ rfl rfl _ _ HRUN.out ?_)
            exact ⟨⟨x + 1, g', cap', by omega, by go_num, rfl, HR5.out, hb5, HK5.out⟩, by simp [intOf]; omega⟩
        · obtain rfl : x = W := by omega
          have hdx : decide ((x : Int) < x) = false := by simp
          have hS : (y + 1) * x = Q + x := by rw [Nat.succ_mul, HQ.out]
          go_wp2
          exact ⟨⟨y + 1, b, c, by omega, by go_num, by rw [hS], by rw [hS]; exact hrx, hbx, kx⟩, by simp [intOf]; omega⟩
    · obtain rfl : y = H := by omega
      have hdy : decide ((y : Int) < y) = false := by simp
      have kf := HKA.out.trans kw
      go_wp2
      refine bodyPost_ret (results_tmp3 rfl _ _ _) rfl ?_
      exact ⟨b, c, rfl, hrw, kf⟩
end Go.Proofs.YtnpkihobbcglcaaGreatDoor

/- Y1: The hybrid binarizer 1: a value capped; a block of pixels against a threshold. -/
namespace Go.Proofs.YtnpkihobbcglcaaGreatDoor
open Go Go.RowKit

theorem u8and255 (v : Nat) (h : v < 256) : bits .and .u8 (v : Int) 255 = v := by
  have o : ∀ n : Nat, n < 2 ^ 8 → (BitVec.ofInt 8 (n : Int)).toNat = n := fun n hn => by
    rw [BitVec.ofInt_natCast, BitVec.toNat_ofNat]; exact Nat.mod_eq_of_lt hn
  show IntKind.u8.wrap ((BitVec.ofInt 8 (v : Int) &&& BitVec.ofInt 8 ((255 : Nat) : Int)).toNat : Int) = _
  rw [BitVec.toNat_and, o v h, o 255 (by omega), show v &&& 255 = v % 2 ^ 8 from Nat.and_two_pow_sub_one_eq_mod v 8, Nat.mod_eq_of_lt h]
  show ((v : Int) % 256) = _
  omega

theorem capInt (q : Value) (v lo hi : Int) (w : World) : Calls Tryz.prog 328 #[q, .int .i64 v, .int .i64 lo, .int .i64 hi] w fun e w' => e = .returned (.int .i64 (if v < lo then lo else if hi < v then hi else v)) ∧ w = w' := by
  by_cases h1 : v < lo
  · have d1 : decide (v < lo) = true := by simpa using h1
    rw [if_pos h1]
    go_enter Tryz.func328, Tryz.ntmps328
    go_wp2
    go_ret
    exact ⟨rfl, rfl⟩
  · have d1 : decide (v < lo) = false := by simpa using h1
    rw [if_neg h1]
    by_cases h2 : hi < v
    · have d2 : decide (hi < v) = true := by simpa using h2
      rw [if_pos h2]
      go_enter Tryz.func328, Tryz.ntmps328
      go_wp2
      go_ret
      exact ⟨rfl, rfl⟩
    · have d2 : decide (hi < v) = false := by simpa using h2
      rw [if_neg h2]
      go_enter Tryz.func328, Tryz.ntmps328
      go_wp2
      go_ret
      exact ⟨rfl, rfl⟩

/-- What is dark so far: f' has all of f, nothing else that is not black, and the first rows and columns of the block. -/
structure Dark (P : Nat → Nat) (W xo yo i j : Nat) (f f' : Nat → Nat → Bool) : Prop where
  mono : ∀ a c, f a c = true → f' a c = true
  sound : ∀ a c, f' a c = true → f a c = true ∨ P (c * W + a) = 0
  cov : ∀ a c, xo ≤ a → a < xo + 8 → yo ≤ c → (c < yo + i ∨ c = yo + i ∧ a < xo + j) → P (c * W + a) = 0 → f' a c = true
theorem Dark.refl (P : Nat → Nat) (W xo yo : Nat) (f : Nat → Nat → Bool) : Dark P W xo yo 0 0 f f :=
  ⟨fun _ _ h => h, fun _ _ h => .inl h, fun a c _ _ _ _ _ => by omega⟩
theorem Dark.light {P : Nat → Nat} {W xo yo i j : Nat} {f f' : Nat → Nat → Bool} (h : Dark P W xo yo i j f f') (hp : P ((yo + i) * W + (xo + j)) ≠ 0) : Dark P W xo yo i (j + 1) f f' := by
  refine ⟨h.mono, h.sound, fun a c h1 h2 h3 h4 h5 => ?_⟩
  by_cases e : c = yo + i ∧ a = xo + j
  · obtain ⟨rfl, rfl⟩ := e; exact absurd h5 hp
  · exact h.cov a c h1 h2 h3 (by omega) h5
theorem Dark.black {P : Nat → Nat} {W xo yo i j : Nat} {f f' : Nat → Nat → Bool} (h : Dark P W xo yo i j f f') (hp : P ((yo + i) * W + (xo + j)) = 0) : Dark P W xo yo i (j + 1) f (fun a c => if a = xo + j ∧ c = yo + i then true else f' a c) := by
  refine ⟨fun a c h1 => ?_, fun a c h1 => ?_, fun a c h1 h2 h3 h4 h5 => ?_⟩
  · split
    · rfl
    · exact h.mono a c h1
  · split at h1
    · rename_i e; obtain ⟨rfl, rfl⟩ := e; exact .inr hp
    · exact h.sound a c h1
  · split
    · rfl
    · exact h.cov a c h1 h2 h3 (by omega) h5
theorem Dark.row {P : Nat → Nat} {W xo yo i : Nat} {f f' : Nat → Nat → Bool} (h : Dark P W xo yo i 8 f f') : Dark P W xo yo (i + 1) 0 f f' :=
  ⟨h.mono, h.sound, fun a c h1 h2 h3 h4 h5 => h.cov a c h1 h2 h3 (by omega) h5⟩

set_option maxRecDepth 100000 in
set_option maxHeartbeats 4000000 in
theorem thresholdBlock (q : Value) (g N c xo yo thr W H p b L : Nat) (P : Nat → Nat) (f : Nat → Nat → Bool) (w : World) (h : BX w p b W H f) (hP : ∀ i, i < N → w.cell? ⟨g, i, none⟩ = some (.int .u8 (P i : Nat))) (hv : ∀ i, P i = 0 ∨ P i = L) (hN : H * W ≤ N) (hNb : N ≤ 160000)
    (hgb : g ≠ b) (hgs : g < w.heap.size) (hthr : thr < L) (hL : L < 256) (hx : xo + 8 ≤ W) (hy : yo + 8 ≤ H) (hWb : W ≤ 400) (hHb : H ≤ 400) :
    Calls Tryz.prog 329 #[q, .slice (some ⟨g, 0, none⟩) N c, .int .i64 xo, .int .i64 yo, .int .i64 thr, .int .i64 W, .pointer (some ⟨p, 0, none⟩)] w fun e w' => e = .returned (.tuple #[]) ∧ ∃ f', BX w' p b W H f' ∧ Dark P W xo yo 8 0 f f' ∧ Frm (fun k => k = b) w w' := by
  have hlt : ∀ i j, i < 8 → j < 8 → (yo + i) * W + xo + j < N := fun i j hi hj => by
    have : (yo + i + 1) * W ≤ H * W := Nat.mul_le_mul_right _ (by omega)
    rw [Nat.succ_mul] at this
    omega
  have hstep : ∀ i, (yo + i) * W + xo + W = (yo + (i + 1)) * W + xo := fun i => by
    rw [← Nat.add_assoc, Nat.succ_mul]; omega
  obtain ⟨A, hA⟩ : ∃ A, yo * W = A := ⟨_, rfl⟩
  have hAi : (yo : Int) * W = A := by rw [← hA, Int.natCast_mul]
  have hA0 : A ≤ N := by
    rw [← hA]; exact Nat.le_trans (Nat.mul_le_mul_right _ (by omega)) hN
  have w1 : IntKind.i64.wrap (A : Int) = A := wrapI _ (by omega) (by omega)
  have w2 : IntKind.i64.wrap ((A : Int) + xo) = (A : Int) + xo := wrapI _ (by omega) (by omega)
  have HP := Lib.hid hP
  have HV := Lib.hid hv
  have HLT := Lib.hid hlt
  have HST := Lib.hid hstep
  have HA := Lib.hid hA
  clear hP hv hlt hstep hA hN
  go_enter Tryz.func329, Tryz.ntmps329
  go_wp2_with fail
  go_loopw [14, 15, 16] (fun yv ov _ wr => ∃ (i o : Nat) (f' : Nat → Nat → Bool), i ≤ 8 ∧ yv = .int .i64 i ∧ ov = .int .i64 o ∧ o = (yo + i) * W + xo ∧ BX wr p b W H f' ∧ Dark P W xo yo i 0 f f' ∧ Frm (fun k => k = b) w wr) (fun yv _ _ _ => 8 - (intOf yv).toNat)
  case atStart => exact ⟨0, A + xo, f, by omega, rfl, by go_num, by rw [← HA.out]; rfl, h, Dark.refl _ _ _ _ _, Frm.refl _ _⟩
  case round =>
    obtain ⟨i, o, f', hi, rfl, rfl, ho, hb, hd, hf⟩ := hrel
    have HO := Lib.hid ho
    have HB := Lib.hid hb
    have HD := Lib.hid hd
    have HF := Lib.hid hf
    clear ho hb hd hf h
    by_cases hi8 : i < 8
    · have e1 : decide ((i : Int) < 8) = true := by simp; omega
      have hoN : o + 8 ≤ N := by rw [HO.out]; have := HLT.out i 7 hi8 (by omega); omega
      go_wp2_with fail
      go_loopw [16] (fun xv wx => ∃ (j : Nat) (f2 : Nat → Nat → Bool), j ≤ 8 ∧ xv = .int .i64 j ∧ BX wx p b W H f2 ∧ Dark P W xo yo i j f f2 ∧ Frm (fun k => k = b) w wx) (fun xv _ => 8 - (intOf xv).toNat)
      case atStart => exact ⟨0, f', by omega, rfl, HB.out, HD.out, HF.out⟩
      case round =>
        obtain ⟨j, f2, hj, rfl, hb2, hd2, hf2⟩ := hrel
        have HB2 := Lib.hid hb2
        have HD2 := Lib.hid hd2
        have HF2 := Lib.hid hf2
        clear hb2 hd2
        by_cases hj8 : j < 8
        · have e2 : decide ((j : Int) < 8) = true := by simp; omega
          have cp : wr.cell? ⟨g, o + j, none⟩ = some (.int .u8 (P (o + j) : Nat)) := by
            rw [hf2.cell hgs hgb]; exact HP.out _ (by omega)
          clear hf2
          have hix : o + j = (yo + i) * W + (xo + j) := by rw [HO.out]; omega
          rcases HV.out (o + j) with hz | hl
          · rw [hz] at cp
            rw [hix] at hz
            have HZ := Lib.hid hz
            clear hz hix
            have hor : bits .and .u8 0 255 = 0 := by kernel_rfl
            have e3 : decide ((0 : Int) ≤ thr) = true := by simp
            have hs := bxSet p b W H (xo + j) (yo + i) f2 wr HB2.out (by omega) (by omega) hWb hHb
            simp only [Int.natCast_add] at hs
            have HS := Lib.hid hs
            clear hs
            go_wp2_with fail
            with_reducible refine HS.out.mono ?_
            rintro _ w3 ⟨rfl, hb3, hf3⟩
            dsimp only
            go_wp2
            exact ⟨⟨j + 1, _, by omega, by go_num, hb3, HD2.out.black HZ.out, HF2.out.trans hf3⟩, by simp [intOf]; omega⟩
          · rw [hl] at cp
            rw [hix] at hl
            have HZ : RowKit.Hid (P ((yo + i) * W + (xo + j)) ≠ 0) := Lib.hid (by rw [hl]; omega)
            clear hl hix
            have hor := u8and255 L hL
            have e3 : decide ((L : Int) ≤ thr) = false := by simp; omega
            go_wp2
            exact ⟨⟨j + 1, f2, by omega, by go_num, HB2.out, HD2.out.light HZ.out, HF2.out⟩, by simp [intOf]; omega⟩
        · obtain rfl : j = 8 := by omega
          have e2 : decide (((8 : Nat) : Int) < 8) = false := by decide
          clear hf2
          go_wp2
          exact ⟨⟨i + 1, o + W, f2, by omega, by go_num, by go_num, by rw [HO.out]; exact HST.out i, HB2.out, HD2.out.row, HF2.out⟩, by simp [intOf]; omega⟩
    · obtain rfl : i = 8 := by omega
      have e1 : decide (((8 : Nat) : Int) < 8) = false := by decide
      go_wp2
      go_end0
      exact ⟨rfl, f', HB.out, HD.out, HF.out⟩
end Go.Proofs.YtnpkihobbcglcaaGreatDoor

/- Y2: The hybrid binarizer 2: the black points of the blocks, plain: less than the light's gray. -/
namespace Go.Proofs.YtnpkihobbcglcaaGreatDoor
open Go Go.RowKit

/-- What the pixels seen so far say: each is 0 or L. -/
structure St (L cnt sum mn mx : Nat) : Prop where
  top : sum ≤ L * cnt
  low : cnt = 0 ∧ mn = 255 ∨ mn = L ∨ mn = 0 ∧ sum + L ≤ L * cnt
  high : mx = 0 ∨ mx = L
theorem St.zero (L : Nat) : St L 0 0 255 0 := ⟨Nat.zero_le _, .inl ⟨rfl, rfl⟩, .inl rfl⟩
theorem St.dark {L cnt sum mn mx : Nat} (h : St L cnt sum mn mx) : St L (cnt + 1) sum 0 mx := by
  have h1 := h.top
  have e : L * (cnt + 1) = L * cnt + L := Nat.mul_succ L cnt
  exact ⟨by omega, .inr (.inr ⟨rfl, by omega⟩), h.high⟩
theorem St.light {L cnt sum mn mx : Nat} (h : St L cnt sum mn mx) (_h0 : 1 ≤ L) (hL : L < 256) : St L (cnt + 1) (sum + L) (if L < mn then L else mn) (if mx < L then L else mx) := by
  have h1 := h.top
  have h2 := h.low
  have h3 := h.high
  have e : L * (cnt + 1) = L * cnt + L := Nat.mul_succ L cnt
  refine ⟨by omega, ?_, ?_⟩
  · split <;> omega
  · split <;> omega
theorem St.bound {L cnt sum mn mx : Nat} (h : St L cnt sum mn mx) (hL : L < 256) (hc : cnt ≤ 64) : sum ≤ 16320 ∧ mn < 256 ∧ mx < 256 := by
  have h1 := h.top
  have h2 := h.low
  have h3 := h.high
  have : L * cnt ≤ 255 * 64 := Nat.mul_le_mul (by omega) hc
  omega
theorem St.wide {L sum mn mx : Nat} (h : St L 64 sum mn mx) (_h0 : 1 ≤ L) (hd : mn + 24 < mx) : sum / 64 < L := by
  have h2 := h.low
  have h3 := h.high
  omega
theorem St.flat {L sum mn mx : Nat} (h : St L 64 sum mn mx) (h0 : 1 ≤ L) (hL : L < 256) (hd : mx ≤ mn + 24) : mn / 2 < L := by
  have h2 := h.low
  have h3 := h.high
  omega
/-- More pixels summed alone. -/
theorem St.more {L cnt sum mn mx : Nat} (h : St L cnt sum mn mx) (hm : mn ≠ 255 ∨ 0 < cnt) (p : Nat) (hp : p = 0 ∨ p = L) : St L (cnt + 1) (sum + p) mn mx := by
  have h1 := h.top
  have h2 := h.low
  have e : L * (cnt + 1) = L * cnt + L := Nat.mul_succ L cnt
  exact ⟨by omega, by omega, h.high⟩

/-- A row of black points. -/
def Small (w : World) (b n L : Nat) : Prop := ∃ xs, Nats w b .i64 3 xs ∧ xs.length = n ∧ ∀ i, xs.getD i 0 < L
theorem Small.cell {w : World} {b n L : Nat} (h : Small w b n L) (i : Nat) (hi : i < n) : ∃ v : Nat, v < L ∧ w.cell? ⟨b, i, none⟩ = some (.int .i64 v) := by
  obtain ⟨xs, h1, h2, h3⟩ := h
  exact ⟨_, h3 i, h1.cell i (by omega)⟩
theorem Small.free {w : World} {b n L : Nat} (h : Small w b n L) (i : Nat) : w.frozen? ⟨b, i, none⟩ = false := by
  obtain ⟨xs, h1, h2, h3⟩ := h
  exact h1.free i
theorem Small.new (w : World) (n L : Nat) (hL : 1 ≤ L) : Small (w.alloc (.cells (natCells .i64 (List.replicate n 0)) 3)) w.heap.size n L := by
  refine ⟨_, Nats.new w .i64 3 (List.replicate n 0), List.length_replicate, fun i => ?_⟩
  rw [List.getD_eq_getElem?_getD, List.getElem?_replicate]
  split
  · exact hL
  · exact hL
theorem Small.set {w : World} {b n L : Nat} (h : Small w b n L) (i v : Nat) (hv : v < L) : Small (w.setCell ⟨b, i, none⟩ (.int .i64 v)) b n L := by
  obtain ⟨xs, h1, h2, h3⟩ := h
  refine ⟨_, h1.set i v, by rw [List.length_set]; exact h2, fun j => ?_⟩
  rw [List.getD_eq_getElem?_getD, List.getElem?_set]
  split
  · split
    · exact hv
    · have := h3 b; simp only [Option.getD_none]; omega
  · rw [← List.getD_eq_getElem?_getD]; exact h3 j
theorem Small.frm {S : Nat → Prop} {w w' : World} {b n L : Nat} (h : Small w b n L) (hf : Frm S w w') (hn : ¬ S b) : Small w' b n L := by
  obtain ⟨xs, h1, h2, h3⟩ := h
  exact ⟨xs, h1.frm hf hn, h2, h3⟩

/-- The first k of n rows of m black points. -/
structure BPs (w : World) (o k n m L : Nat) : Prop where
  ex : ∃ vs : List Value, Blk w o vs.toArray 117 ∧ vs.length = n ∧ ∀ j, j < k → ∃ b, o < b ∧ vs[j]? = some (Value.slice (some ⟨b, 0, none⟩) m m) ∧ Small w b m L
theorem BPs.kept {w w' : World} {o k n m L : Nat} (h : BPs w o k n m L) (hf : Kept w w') : BPs w' o k n m L := by
  obtain ⟨vs, h1, h2, h3⟩ := h.ex
  exact ⟨vs, h1.frm hf (fun h => h), h2, fun j hj => let ⟨b, h0, h4, h5⟩ := h3 j hj; ⟨b, h0, h4, h5.frm hf (fun h => h)⟩⟩
theorem BPs.new (w : World) (n m L : Nat) : BPs (w.alloc (.cells (Array.replicate n (.slice none 0 0)) 117)) w.heap.size 0 n m L := by
  refine ⟨List.replicate n (.slice none 0 0), ?_, List.length_replicate, fun j hj => absurd hj (by omega)⟩
  have := Blk.new w (Array.replicate n (.slice none 0 0)) 117
  simpa using this
theorem BPs.lt {w : World} {o k n m L : Nat} (h : BPs w o k n m L) : o < w.heap.size := by
  obtain ⟨vs, h1, _⟩ := h.ex; exact h1.lt
theorem BPs.row {w : World} {o k n m L : Nat} (h : BPs w o k n m L) (j : Nat) (hj : j < k) : ∃ b, o < b ∧ w.cell? ⟨o, j, none⟩ = some (.slice (some ⟨b, 0, none⟩) m m) ∧ Small w b m L := by
  obtain ⟨vs, h1, h2, h3⟩ := h.ex
  obtain ⟨b, h0, h4, h5⟩ := h3 j hj
  exact ⟨b, h0, by rw [h1.cell]; simpa using h4, h5⟩
theorem BPs.slot {w : World} {o k n m L : Nat} (h : BPs w o k n m L) (j : Nat) (hj : j < n) : (∃ v, w.cell? ⟨o, j, none⟩ = some v) ∧ w.frozen? ⟨o, j, none⟩ = false := by
  obtain ⟨vs, h1, h2, h3⟩ := h.ex
  exact ⟨⟨vs[j]'(by omega), by rw [h1.cell]; simp [h2, hj]⟩, h1.free j⟩
/-- One row more. -/
theorem BPs.push {w : World} {o k n m L b : Nat} (h : BPs w o k n m L) (hk : k < n) (hb : Small w b m L) (hne : o < b) : BPs (w.setCell ⟨o, k, none⟩ (.slice (some ⟨b, 0, none⟩) m m)) o (k + 1) n m L := by
  obtain ⟨vs, h1, h2, h3⟩ := h.ex
  have hf : Frm (fun x => x = o) w (w.setCell ⟨o, k, none⟩ (.slice (some ⟨b, 0, none⟩) m m)) := (Frm.refl (fun x => x = o) w).setCell (p := ⟨o, k, none⟩) (.inl rfl) _
  have hs := h1.set k (.slice (some ⟨b, 0, none⟩) m m)
  refine ⟨vs.set k (.slice (some ⟨b, 0, none⟩) m m), by simpa using hs, by rw [List.length_set]; exact h2, fun j hj => ?_⟩
  by_cases e : j = k
  · subst e
    exact ⟨b, hne, by rw [List.getElem?_set_self (by omega)], hb.frm hf (fun e => by omega)⟩
  · obtain ⟨c, h0, h4, h5⟩ := h3 j (by omega)
    refine ⟨c, h0, by rw [List.getElem?_set_ne (Ne.symm e)]; exact h4, h5.frm hf ?_⟩
    rintro rfl
    obtain ⟨xs, hx, _⟩ := h5
    exact Blk.ne hx h1 (by decide) rfl
/-- A black point written. -/
theorem BPs.write {w : World} {o k n m L b : Nat} (h : BPs w o k n m L) (hb : Small w b m L) (i v : Nat) (hv : v < L) : BPs (w.setCell ⟨b, i, none⟩ (.int .i64 v)) o k n m L := by
  obtain ⟨vs, h1, h2, h3⟩ := h.ex
  have hf : Frm (fun x => x = b) w (w.setCell ⟨b, i, none⟩ (.int .i64 v)) := (Frm.refl (fun x => x = b) w).setCell (p := ⟨b, i, none⟩) (.inl rfl) _
  refine ⟨vs, h1.frm hf ?_, h2, fun j hj => ?_⟩
  · rintro rfl
    obtain ⟨xs, hx, _⟩ := hb
    exact Blk.ne hx h1 (by decide) rfl
  · obtain ⟨c, h0, h4, h5⟩ := h3 j hj
    refine ⟨c, h0, h4, ?_⟩
    by_cases e : c = b
    · subst e; exact h5.set i v hv
    · exact h5.frm hf e
end Go.Proofs.YtnpkihobbcglcaaGreatDoor
