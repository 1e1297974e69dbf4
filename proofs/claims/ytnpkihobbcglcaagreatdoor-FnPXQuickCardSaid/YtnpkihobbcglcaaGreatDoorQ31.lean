/- The hybrid binarizer 5: GetBlackMatrix; black; rowsOf; BlackMatrix. black; rowsOf; BlackMatrix. -/
import Derived.Test.YtnpkihobbcglcaaGreatDoorQ29
import Derived.Test.YtnpkihobbcglcaaGreatDoorQ30
import Derived.Handy
set_option linter.unusedSimpArgs false
set_option linter.unusedVariables false

/- Y5: The hybrid binarizer 5: GetBlackMatrix; black; rowsOf; BlackMatrix. -/
namespace Go.Proofs.YtnpkihobbcglcaaGreatDoor
open Go Go.RowKit

theorem globalSource (p : Nat) (v : Value) (w : World) (h : w.cell? ⟨p, 0, none⟩ = some v) : Calls Tryz.prog 319 #[.pointer (some ⟨p, 0, none⟩)] w fun e w' => e = .returned v ∧ w = w' := by
  go_enter Tryz.func319, Tryz.ntmps319
  go_wp2
  go_ret
  exact ⟨rfl, rfl⟩

theorem newGlobal (s : Nat) (w : World) : Calls Tryz.prog 112 #[.iface 226 (.pointer (some ⟨s, 0, none⟩))] w fun e w' => ∃ p, e = .returned (.iface 232 (.pointer (some ⟨p, 0, none⟩))) ∧ w'.cell? ⟨p, 0, none⟩ = some (.iface 226 (.pointer (some ⟨s, 0, none⟩))) ∧ Kept w w' := by
  have hmk := fun wx => run_make_ints 117 3 .i64 8 (by kernel_rfl) info3 32 (by omega) (by omega) wx
  simp only [Int.cast_ofNat_Int] at hmk
  go_enter Tryz.func112, Tryz.ntmps112
  go_wp2_with fail
  have ka := (((Frm.refl (fun _ => False) w).alloc (.cells #[] 5)).alloc (.cells (natCells .i64 (List.replicate 32 0)) 3)).alloc (.cells #[.iface 226 (.pointer (some ⟨s, 0, none⟩)), .slice (some ⟨w.heap.size, 0, none⟩) 0 0, .slice (some ⟨w.heap.size + 1, 0, none⟩) 32 32] 234)
  have hb := Blk.new ((w.alloc (.cells #[] 5)).alloc (.cells (natCells .i64 (List.replicate 32 0)) 3)) #[.iface 226 (.pointer (some ⟨s, 0, none⟩)), .slice (some ⟨w.heap.size, 0, none⟩) 0 0, .slice (some ⟨w.heap.size + 1, 0, none⟩) 32 32] 234
  have hc := hb.cell 0
  go_ret
  exact ⟨w.heap.size + 1 + 1, rfl, by simpa using hc, ka⟩

set_option maxRecDepth 100000 in
theorem newHybrid (s : Nat) (w : World) : Calls Tryz.prog 113 #[.iface 226 (.pointer (some ⟨s, 0, none⟩))] w fun e w' => ∃ hp gp, e = .returned (.iface 235 (.pointer (some ⟨hp, 0, none⟩))) ∧ Blk w' hp #[.pointer (some ⟨gp, 0, none⟩), .pointer none] 237 ∧ w'.cell? ⟨gp, 0, none⟩ = some (.iface 226 (.pointer (some ⟨s, 0, none⟩))) ∧ Kept w w' ∧ w.heap.size ≤ hp := by
  have hg := newGlobal s w
  have HG := Lib.hid hg
  clear hg
  go_enter Tryz.func113, Tryz.ntmps113
  go_wp2_with fail
  with_reducible refine HG.out.mono ?_
  rintro _ w1 ⟨p, rfl, hc, k1⟩
  have hta : (Instr.typeAssert (.iface 232 (.pointer (some ⟨p, 0, none⟩))) 186 232 false).run Tryz.prog w1 = .ok (.pointer (some ⟨p, 0, none⟩)) w1 := by kernel_rfl
  dsimp only
  go_wp2_with fail
  have hb := Blk.new w1 #[.pointer (some ⟨p, 0, none⟩), .pointer none] 237
  have ka : Kept w1 (w1.alloc (.cells #[.pointer (some ⟨p, 0, none⟩), .pointer none] 237)) := (Frm.refl _ _).alloc _
  go_ret
  exact ⟨w1.heap.size, p, rfl, hb, cell_kept hc ka, k1.trans ka, k1.size⟩

set_option maxRecDepth 100000 in
set_option maxHeartbeats 4000000 in
theorem hybridMatrix (hp gp sp g N c W H L : Nat) (px : List Nat) (w : World) (hh : Blk w hp #[.pointer (some ⟨gp, 0, none⟩), .pointer none] 237) (hg : w.cell? ⟨gp, 0, none⟩ = some (.iface 226 (.pointer (some ⟨sp, 0, none⟩))))
    (hs : Blk w sp #[.int .i64 W, .int .i64 H, .slice (some ⟨g, 0, none⟩) N c, .int .i64 W, .int .i64 H, .int .i64 0, .int .i64 0] 230) (hr : Row w 5 g N c (natVals .u8 px)) (hv : ∀ i, px.getD i 0 = 0 ∨ px.getD i 0 = L) (hN : H * W = N)
    (hL0 : 1 ≤ L) (hL : L < 256) (hWa : 40 ≤ W) (hHa : 40 ≤ H) (hWb : W ≤ 400) (hHb : H ≤ 400) :
    Calls Tryz.prog 325 #[.pointer (some ⟨hp, 0, none⟩)] w fun e w' => ∃ p b, e = .returned (.tuple #[.pointer (some ⟨p, 0, none⟩), .nilIface]) ∧ BX w' p b W H (fun a k => decide (px.getD (k * W + a) 0 = 0)) ∧ Frm (fun k => k = hp) w w' ∧ w.heap.size ≤ p ∧ w.heap.size ≤ b := by
  have h0 := hh.cell 0
  have h1 := hh.cell 1
  simp only [List.getElem?_toArray, List.getElem?_cons_zero, List.getElem?_cons_succ] at h0 h1
  have s0 := hs.cell 0
  have s1 := hs.cell 1
  simp only [List.getElem?_toArray, List.getElem?_cons_zero, List.getElem?_cons_succ] at s0 s1
  have hgs := globalSource gp _ w hg
  have hsw := srcWidth sp _ w s0
  have hsh := srcHeight sp _ w s1
  have hwm := wholeMatrix sp g N c W H 0 0 w hs
  have HGS := Lib.hid hgs
  have HSW := Lib.hid hsw
  have HSH := Lib.hid hsh
  have HWM := Lib.hid hwm
  have d1 : decide ((40 : Int) ≤ W) = true := by simp; omega
  have d2 : decide ((40 : Int) ≤ H) = true := by simp; omega
  clear hgs hsw hsh hwm s0 s1 hg
  go_enter Tryz.func325, Tryz.ntmps325
  go_wp2_with fail
  with_reducible refine HGS.out.mono ?_
  rintro _ _ ⟨rfl, rfl⟩
  dsimp only
  go_wp2_with fail
  with_reducible refine HSW.out.mono ?_
  rintro _ _ ⟨rfl, rfl⟩
  dsimp only
  go_wp2_with fail
  with_reducible refine HSH.out.mono ?_
  rintro _ _ ⟨rfl, rfl⟩
  dsimp only
  go_wp2_with fail
  with_reducible refine HWM.out.mono ?_
  rintro _ _ ⟨rfl, rfl⟩
  dsimp only
  have a1 := and7 W (by omega)
  have a2 := and7 H (by omega)
  simp only [Int.natCast_emod, Int.cast_ofNat_Int] at a1 a2
  go_upto_if 45 with fail
  go_cut [8] from 46 (fun s8 wx => (∃ m : Nat, 5 ≤ m ∧ m ≤ 60 ∧ W ≤ 8 * m ∧ s8 = .int .i64 m) ∧ w = wx)
  case first =>
    by_cases hz : W % 8 = 0
    · have d3 : ((W : Int) % 8 != 0) = false := by rw [bne_eq_false_iff_eq]; omega
      go_wp2
      go_meet
      exact ⟨⟨W / 8, by omega, by omega, by omega, by go_num⟩, rfl⟩
    · have d3 : ((W : Int) % 8 != 0) = true := by rw [bne_iff_ne]; omega
      go_wp2
      go_meet
      exact ⟨⟨W / 8 + 1, by omega, by omega, by omega, by go_num⟩, rfl⟩
  case rest =>
    obtain ⟨⟨m, hm5, hm60, hmW, rfl⟩, rfl⟩ := hcut
    go_upto_if 52 with fail
    go_cut [9] from 53 (fun s9 wx => (∃ n : Nat, 5 ≤ n ∧ n ≤ 60 ∧ H ≤ 8 * n ∧ s9 = .int .i64 n) ∧ w = wx)
    case first =>
      by_cases hz : H % 8 = 0
      · have d3 : ((H : Int) % 8 != 0) = false := by rw [bne_eq_false_iff_eq]; omega
        go_wp2
        go_meet
        exact ⟨⟨H / 8, by omega, by omega, by omega, by go_num⟩, rfl⟩
      · have d3 : ((H : Int) % 8 != 0) = true := by rw [bne_iff_ne]; omega
        go_wp2
        go_meet
        exact ⟨⟨H / 8 + 1, by omega, by omega, by omega, by go_num⟩, rfl⟩
    case rest =>
      obtain ⟨⟨n, hn5, hn60, hnH, rfl⟩, rfl⟩ := hcut
      have hNb : N ≤ 160000 := by rw [← hN]; exact Nat.le_trans (Nat.mul_le_mul hHb hWb) (by omega)
      have hpl : px.length = N := by have := hr.len; rwa [natVals_length] at this
      have hP : ∀ i, i < N → w.cell? ⟨g, i, none⟩ = some (.int .u8 (px.getD i 0 : Nat)) := fun i hi => by
        rw [hr.cell i hi]; exact natVals_get _ _ _ (by omega)
      have hbp := blackPoints (.pointer (some ⟨hp, 0, none⟩)) g N c m n W H L (fun i => px.getD i 0) w hP hv (by omega) hNb hL0 hL hWa hHa hWb hHb hm60 hn60
      have HBP := Lib.hid hbp
      have HPX := Lib.hid hP
      have HRR := Lib.hid hr
      have HH := Lib.hid hh
      have HNN := Lib.hid hN
      clear hbp hP hr hh hs HGS HSW HSH HWM hpl hN
      go_wp2_with fail
      with_reducible refine HBP.out.mono ?_
      rintro _ w1 ⟨o, rfl, hbp1, k1⟩
      have hnew := bxNew W H w1 (by omega) (by omega) hWb hHb
      have HNEW := Lib.hid hnew
      have HB1 := Lib.hid hbp1
      have K1 := Lib.hid k1
      clear hnew hbp1 k1 HBP
      dsimp only
      go_wp2_with fail
      with_reducible refine HNEW.out.mono ?_
      rintro _ w2 ⟨p, b, rfl, hbx, k2, hp2, hb2⟩
      have hk12 := K1.out.trans k2
      have hgs2 : g < w2.heap.size := Nat.lt_of_lt_of_le HRR.out.lt hk12.size
      have hgb : g ≠ b := by
        have h1 := HRR.out.lt
        have h2 := K1.out.size
        omega
      have hth := thresholds (.pointer (some ⟨hp, 0, none⟩)) g N c m n W H p b o L (fun i => px.getD i 0) w2 hbx (HB1.out.kept k2) (fun i hi => cell_kept (HPX.out i hi) hk12) hv (by rw [HNN.out]; exact Nat.le_refl _) hNb hgb hgs2 hL0 hL hWa hHa hWb hHb hm5 hm60 hn5 hn60 hmW hnH
      have HTH := Lib.hid hth
      have K2 := Lib.hid hk12
      have HPB : RowKit.Hid (w.heap.size ≤ p ∧ w.heap.size ≤ b) := Lib.hid ⟨by have := K1.out.size; omega, by have := K1.out.size; omega⟩
      clear hbx k2 hp2 hb2 hk12 hgs2 hgb hth HB1 K1 HNEW
      dsimp only
      go_wp2_with fail
      with_reducible refine HTH.out.mono ?_
      rintro _ w3 ⟨rfl, hbx3, hf3⟩
      have hk3 : Kept w w3 := K2.out.step hf3 (fun k hk hkb => by have := HPB.out.2; omega)
      have hh3 := HH.out.frm hk3 (fun h => h)
      have e0 := hh3.cell 1
      simp only [List.getElem?_toArray, List.getElem?_cons_zero, List.getElem?_cons_succ] at e0
      have f0 := hh3.free 1
      have hset := hh3.set 1 (.pointer (some ⟨p, 0, none⟩))
      have e1 := hset.cell 1
      have hlt := HH.out.lt
      have hfr : Frm (fun k => k = hp) w3 (w3.setCell ⟨hp, 1, none⟩ (.pointer (some ⟨p, 0, none⟩))) := (Frm.refl (fun k => k = hp) w3).setCell (p := ⟨hp, 1, none⟩) (.inl rfl) _
      have hbx4 := hbx3.frm hfr (by have := HPB.out.1; omega) (by have := HPB.out.2; omega)
      have HBX4 := Lib.hid hbx4
      have HFR := Lib.hid ((hk3.toFrm (S := fun k => k = hp)).trans hfr)
      clear hbx3 hf3 hk3 hh3 hset hfr hbx4 HTH
      dsimp only
      go_wp2
      go_ret2
      exact ⟨p, b, rfl, HBX4.out, HFR.out, HPB.out.1, HPB.out.2⟩
end Go.Proofs.YtnpkihobbcglcaaGreatDoor

/- Y6: black; rowsOf; BlackMatrix. -/
namespace Go.Proofs.YtnpkihobbcglcaaGreatDoor
open Go Go.RowKit

theorem blackAny (b N c W H L : Nat) (px : List Nat) (w : World) (hr : Row w 5 b N c (natVals .u8 px)) (hv : ∀ i, px.getD i 0 = 0 ∨ px.getD i 0 = L) (hN : H * W = N) (hL0 : 1 ≤ L) (hL : L < 256) (hWa : 40 ≤ W) (hHa : 40 ≤ H) (hWb : W ≤ 400) (hHb : H ≤ 400) :
    Calls Tryz.prog 65 #[.int .i64 W, .int .i64 H, .slice (some ⟨b, 0, none⟩) N c, .bool true] w fun e w' => ∃ p bb, e = .returned (.pointer (some ⟨p, 0, none⟩)) ∧ BX w' p bb W H (fun a k => decide (px.getD (k * W + a) 0 = 0)) ∧ Kept w w' := by
  have hs := sourceAny b N c W H (natVals .u8 px) w hr (natVals_one _ _) hN (by omega) (by omega) hWb hHb
  have HS := Lib.hid hs
  have HV := Lib.hid hv
  have HN := Lib.hid hN
  clear hs hv hN hr
  go_enter Tryz.func65, Tryz.ntmps65
  go_wp2_with fail
  with_reducible refine HS.out.mono ?_
  rintro _ w1 ⟨sp, g, cap, rfl, hb1, hr1, k1⟩
  have hg := newGlobal sp w1
  have HG := Lib.hid hg
  have HB1 := Lib.hid hb1
  have HR1 := Lib.hid hr1
  have HK1 := Lib.hid k1
  clear hg hb1 hr1 k1 HS
  dsimp only
  go_wp2_with fail
  with_reducible refine HG.out.mono ?_
  rintro _ w2 ⟨gp0, rfl, -, k2⟩
  have hh := newHybrid sp w2
  have HH := Lib.hid hh
  have HB2 := Lib.hid (HB1.out.frm k2 (fun h => h))
  have HR2 := Lib.hid (HR1.out.kept k2)
  have HK2 := Lib.hid (HK1.out.trans k2)
  clear hh k2 HB1 HR1 HK1 HG
  dsimp only
  go_wp2_with fail
  with_reducible refine HH.out.mono ?_
  rintro _ w3 ⟨hp, gp, rfl, hb3, hg3, k3, hle⟩
  have hm := hybridMatrix hp gp sp g N cap W H L px w3 hb3 hg3 (HB2.out.frm k3 (fun h => h)) (HR2.out.kept k3) HV.out HN.out hL0 hL hWa hHa hWb hHb
  have HM := Lib.hid hm
  have HK3 := Lib.hid (HK2.out.trans k3)
  have HLE := Lib.hid (Nat.le_trans HK2.out.size hle)
  clear hm hb3 hg3 k3 hle HB2 HR2 HK2 HH
  dsimp only
  go_wp2_with fail
  with_reducible refine HM.out.mono ?_
  rintro _ w4 ⟨p, bb, rfl, hx, hf, -, -⟩
  have HX := Lib.hid hx
  have HK4 : RowKit.Hid (Kept w w4) := Lib.hid (HK3.out.step hf (fun k hk e => by have := HLE.out; omega))
  clear hx hf HK3 HM
  dsimp only
  go_wp2
  go_ret
  exact ⟨p, bb, rfl, HX.out, HK4.out⟩

/-- The first k rows of a picture in memory. -/
def rowF (f : Nat → Nat → Bool) (W y : Nat) : List Bool := (List.range W).map fun x => f x y
structure PR (w : World) (o k H W : Nat) (f : Nat → Nat → Bool) : Prop where
  ex : ∃ vs : List Value, Blk w o vs.toArray 56 ∧ vs.length = H ∧ ∀ j, j < k → ∃ b, vs[j]? = some (Value.slice (some ⟨b, 0, none⟩) W W) ∧ Bools w b (rowF f W j)
theorem PR.new (w : World) (H W : Nat) (f : Nat → Nat → Bool) : PR (w.alloc (.cells (Array.replicate H (.slice none 0 0)) 56)) w.heap.size 0 H W f := by
  refine ⟨List.replicate H (.slice none 0 0), ?_, List.length_replicate, fun j hj => absurd hj (by omega)⟩
  have := Blk.new w (Array.replicate H (.slice none 0 0)) 56
  simpa using this
theorem PR.slot {w : World} {o k H W : Nat} {f : Nat → Nat → Bool} (h : PR w o k H W f) (j : Nat) (hj : j < H) : (∃ v, w.cell? ⟨o, j, none⟩ = some v) ∧ w.frozen? ⟨o, j, none⟩ = false := by
  obtain ⟨vs, h1, h2, h3⟩ := h.ex
  exact ⟨⟨vs[j]'(by omega), by rw [h1.cell]; simp [h2, hj]⟩, h1.free j⟩
theorem PR.lt {w : World} {o k H W : Nat} {f : Nat → Nat → Bool} (h : PR w o k H W f) : o < w.heap.size := by
  obtain ⟨vs, h1, _⟩ := h.ex; exact h1.lt
/-- A row more: its slice stored, its bits laid behind. -/
theorem PR.push {w wa wb wx : World} {o k H W bn : Nat} {f : Nat → Nat → Bool} (h : PR w o k H W f) (hk : k < H) (hbn : bn = w.heap.size) (ha : Kept w wa) (hwb : wb = wa.setCell ⟨o, k, none⟩ (.slice (some ⟨bn, 0, none⟩) W W))
    (hx : Frm (fun x => x = bn) wb wx) (hb : Bools wx bn (rowF f W k)) : PR wx o (k + 1) H W f := by
  obtain ⟨vs, h1, h2, h3⟩ := h.ex
  have hol := h1.lt
  have hfb : Frm (fun x => x = o) wa wb := by rw [hwb]; exact (Frm.refl (fun x => x = o) wa).setCell (p := ⟨o, k, none⟩) (.inl rfl) _
  have h1b : Blk wb o (vs.set k (.slice (some ⟨bn, 0, none⟩) W W)).toArray 56 := by
    have := (h1.frm ha (fun h => h)).set k (.slice (some ⟨bn, 0, none⟩) W W)
    rw [hwb]; simpa using this
  refine ⟨_, h1b.frm hx (by omega), by rw [List.length_set]; exact h2, fun j hj => ?_⟩
  by_cases e : j = k
  · subst e; exact ⟨bn, by rw [List.getElem?_set_self (by omega)], hb⟩
  · obtain ⟨c, h4, h5⟩ := h3 j (by omega)
    have hcl := Blk.lt h5
    refine ⟨c, by rw [List.getElem?_set_ne (Ne.symm e)]; exact h4, ((h5.frm ha (fun h => h)).frm hfb ?_).frm hx (by omega)⟩
    rintro rfl
    exact Blk.ne h5 h1 (by decide) rfl
theorem PR.slice {w : World} {o H W : Nat} {f : Nat → Nat → Bool} (h : PR w o H H W f) (hH : H ≤ 1000) : SliceOf w (.slice (some ⟨o, 0, none⟩) H H) ((List.range H).map (rowF f W)) := by
  obtain ⟨vs, h1, h2, h3⟩ := h.ex
  have hl : ((List.range H).map (rowF f W)).length = H := by simp
  have hs : vs.toArray.size = H := by simp [h2]
  have hr := Row.of_blk h1 (by rw [hs]; unfold maxLen; omega)
  rw [hs] at hr
  refine .inr ⟨o, H, vs, by rw [hl], by rw [hl]; simpa using hr, fun j r hj => ?_⟩
  have hjl : j < H := by have := (List.getElem?_eq_some_iff.1 hj).1; omega
  have e : r = rowF f W j := by simpa [hjl] using hj.symm
  subst e
  obtain ⟨b, h4, h5⟩ := h3 j hjl
  have hlr : (rowF f W j).length = W := by simp [rowF]
  exact ⟨b, by rw [hlr]; exact h4, h5⟩

set_option maxRecDepth 100000 in
set_option maxHeartbeats 4000000 in
theorem rowsOf (p b W H : Nat) (f : Nat → Nat → Bool) (w : World) (h : BX w p b W H f) (hWb : W ≤ 400) (hHb : H ≤ 400) :
    Calls Tryz.prog 66 #[.pointer (some ⟨p, 0, none⟩)] w fun e w' => ∃ o, e = .returned (.slice (some ⟨o, 0, none⟩) H H) ∧ SliceOf w' (.slice (some ⟨o, 0, none⟩) H H) ((List.range H).map (rowF f W)) ∧ Kept w w' := by
  have hh := bxHeight p b W H f w h
  have HH := Lib.hid hh
  have HBX := Lib.hid h
  have hmk := run_make_one 24 56 (.slice none 0 0) 24 (by kernel_rfl) info56 rfl H (by omega) (by omega) w
  have hp0 := PR.new w H W f
  have k0 : Kept w (w.alloc (.cells (Array.replicate H (.slice none 0 0)) 56)) := (Frm.refl _ _).alloc _
  have hmr := fun wx => run_make_one 56 4 (.bool false) 1 (by kernel_rfl) info4 rfl W (by omega) (by omega) wx
  have HMR := Lib.hid hmr
  clear hh h hmr
  go_enter Tryz.func66, Tryz.ntmps66
  go_wp2_with fail
  with_reducible refine HH.out.mono ?_
  rintro _ _ ⟨rfl, rfl⟩
  dsimp only
  go_wp2_with fail
  generalize w.alloc (.cells (Array.replicate H (.slice none 0 0)) 56) = w0 at *
  generalize ho : w.heap.size = o at *
  have HO := Lib.hid ho
  clear ho hmk
  go_loopw [4, 5, 11] (fun _ _ yv wr => ∃ (y : Nat), y ≤ H ∧ yv = .int .i64 y ∧ PR wr o y H W f ∧ Kept w wr) (fun _ _ yv _ => H - (intOf yv).toNat)
  case atStart => exact ⟨0, Nat.zero_le _, rfl, hp0, k0⟩
  case round =>
    obtain ⟨y, hy, rfl, hb, kw⟩ := hrel
    clear hp0 k0 HH
    by_cases hyH : y < H
    · have hd : decide ((y : Int) < H) = true := by simp; omega
      have hww := bxWidth p b W H f wr (HBX.out.kept kw)
      have HWW := Lib.hid hww
      have hmr := HMR.out wr
      have ka : Kept wr (wr.alloc (.cells (Array.replicate W (.bool false)) 4)) := (Frm.refl _ _).alloc _
      have hbl := Bools.new wr (rowP (fun x => f x y) W 0)
      rw [rowP_zero] at hbl
      have hbl2 : Bools (wr.alloc (.cells (Array.replicate W (.bool false)) 4)) wr.heap.size (rowP (fun x => f x y) W 0) := by
        rw [rowP_zero]; simpa using hbl
      obtain ⟨⟨ov, hov⟩, hfz⟩ := hb.slot y hyH
      have hov2 := cell_kept hov ka
      have hfz2 : (wr.alloc (.cells (Array.replicate W (.bool false)) 4)).frozen? ⟨o, y, none⟩ = false := by rw [ka.frozen hb.lt (fun h => h)]; exact hfz
      have HB := Lib.hid hb
      have KW := Lib.hid kw
      clear hww hb kw hbl hov hfz
      go_wp2_with fail
      with_reducible refine HWW.out.mono ?_
      rintro _ _ ⟨rfl, rfl⟩
      dsimp only
      go_upto_region 6 with fail
      have hol := HB.out.lt
      generalize hbn : wr.heap.size = bn at *
      have hfb : Frm (fun x => x = o) (wr.alloc (.cells (Array.replicate W (.bool false)) 4)) ((wr.alloc (.cells (Array.replicate W (.bool false)) 4)).setCell ⟨o, y, none⟩ (.slice (some ⟨bn, 0, none⟩) W W)) := (Frm.refl (fun x => x = o) _).setCell (p := ⟨o, y, none⟩) (.inl rfl) _
      have hb2 := Bools.frm hbl2 hfb (by omega)
      have hky : Kept w ((wr.alloc (.cells (Array.replicate W (.bool false)) 4)).setCell ⟨o, y, none⟩ (.slice (some ⟨bn, 0, none⟩) W W)) := (KW.out.trans ka).setCell (.inr (Nat.le_of_eq HO.out)) _
      have hcy : ((wr.alloc (.cells (Array.replicate W (.bool false)) 4)).setCell ⟨o, y, none⟩ (.slice (some ⟨bn, 0, none⟩) W W)).cell? ⟨o, y, none⟩ = some (.slice (some ⟨bn, 0, none⟩) W W) := by
        obtain ⟨vs, hv1, hv2, -⟩ := HB.out.ex
        have := ((hv1.frm ka (fun h => h)).set y (.slice (some ⟨bn, 0, none⟩) W W)).cell y
        rw [this]; simp [hv2, hyH]
      generalize hwb : (wr.alloc (.cells (Array.replicate W (.bool false)) 4)).setCell ⟨o, y, none⟩ (.slice (some ⟨bn, 0, none⟩) W W) = wb at *
      have HWB := Lib.hid hwb
      have HKA := Lib.hid ka
      have HBN := Lib.hid hbn
      have HKY := Lib.hid hky
      have HCY := Lib.hid hcy
      have hwbs : wr.heap.size ≤ wb.heap.size := Nat.le_trans ka.size hfb.size
      have hbnw : bn < wb.heap.size := hb2.lt
      clear hwb ka hbn hky hfb hov2 hfz2 hbl2 hmr HWW hwbs
      go_wp2_with fail
      go_loopw [5, 25] (fun _ xv wx => ∃ x : Nat, x ≤ W ∧ xv = .int .i64 x ∧ Bools wx bn (rowP (fun x => f x y) W x) ∧ Frm (fun k => k = bn) wb wx) (fun _ xv _ => W - (intOf xv).toNat)
      case atStart => exact ⟨0, Nat.zero_le _, rfl, hb2, Frm.refl _ _⟩
      case round =>
        obtain ⟨x, hx, rfl, hbx, hfx⟩ := hrel
        clear hb2
        by_cases hxW : x < W
        · have hdx : decide ((x : Int) < W) = true := by simp; omega
          have hkx : Kept w wr := HKY.out.step hfx (fun k hk e => by have := HO.out; omega)
          have hbxx := HBX.out.kept hkx
          have cy : wr.cell? ⟨o, y, none⟩ = some (.slice (some ⟨bn, 0, none⟩) W W) := by rw [hfx.cell (p := ⟨o, y, none⟩) (by show o < wb.heap.size; omega) (by show o ≠ bn; omega)]; exact HCY.out
          have cx := hbx.cell x (by rw [rowP_len]; exact hxW)
          have fx := hbx.free x
          have hgt := fun n => bxGet p b W H x y f (wr.drewN n) (hbxx.kept ((Frm.refl _ _).drewN n)) hxW hyH hWb hHb
          have hset := fun n => Bools.set (w := wr.drewN n) hbx x (f x y)
          rw [show ((rowP (fun x => f x y) W x).set x (f x y)) = rowP (fun x => f x y) W (x + 1) from rowP_step (fun x => f x y) W x hxW] at hset
          have hfs : ∀ n, Frm (fun k => k = bn) wb ((wr.drewN n).setCell ⟨bn, x, none⟩ (.bool (f x y))) := fun n => (hfx.drewN n).setCell (.inl rfl) _
          generalize hfv : f x y = fv at hgt hset hfs
          have HGT := Lib.hid hgt
          have HSET := Lib.hid hset
          have HFS := Lib.hid hfs
          clear hkx hbxx hbx hfx hgt hset hfs hcy hfv
          go_wp2_with fail
          refine wp_region_quiet_tail 9 (by kernel_rfl) (by kernel_rfl) ?_
          simp only [List.take_succ_cons, List.take_zero, List.drop_succ_cons, List.drop_zero]
          repeat (go_big_quiet_step (exact Calls.quiet_of_same ((HGT.out _).mono (fun _ _ h => ⟨h.1, h.2.symm⟩))))
          refine wpQuiet_nil ?_
          intro _ hw'
          obtain ⟨nq, hw''⟩ := hw'
          subst hw''
          go_wp2
          exact ⟨⟨x + 1, by omega, by go_num, HSET.out _, HFS.out _⟩, by simp [intOf]; omega⟩
        · obtain rfl : x = W := by omega
          have hdx : decide ((x : Int) < x) = false := by simp
          rw [rowP_all] at hbx
          have hpr := HB.out.push hyH HBN.out.symm HKA.out HWB.out.symm hfx hbx
          have HPR := Lib.hid hpr
          have HKX : RowKit.Hid (Kept w wr) := Lib.hid (HKY.out.step hfx (fun k hk e => by have := HO.out; have := KW.out.size; have := HBN.out; omega))
          clear hpr hbx hfx
          go_wp2
          exact ⟨⟨y + 1, by omega, by go_num, HPR.out, HKX.out⟩, by simp [intOf]; omega⟩
    · obtain rfl : y = H := by omega
      have hd : decide ((y : Int) < y) = false := by simp
      have hsl := hb.slice (by omega)
      go_wp2
      go_ret
      exact ⟨o, rfl, hsl, kw⟩
end Go.Proofs.YtnpkihobbcglcaaGreatDoor
