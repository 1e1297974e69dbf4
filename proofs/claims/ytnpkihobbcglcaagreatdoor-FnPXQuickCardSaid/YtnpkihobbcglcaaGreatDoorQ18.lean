/- The generator built: the walk. Error correction words made: the plain law and the walk of Encode. generateECBytes: the walk. -/
import Derived.Test.YtnpkihobbcglcaaGreatDoorQ17
import Derived.Deep.RegionHeld3
set_option linter.unusedSimpArgs false
set_option linter.unusedVariables false

/- F14: The generator built: the walk. -/
namespace Go.Proofs.YtnpkihobbcglcaaGreatDoor
open Go Go.RowKit

theorem genP_facts (d : Nat) (hd : d < 31) : (genP d).length = d + 1 ∧ (genP d).getD 0 0 = 1 ∧ Bytes (genP d) ∧ ∀ i, i < d → ev (genP d) (ge i) = 0 := by
  have h := gen_ok d hd
  unfold genOk at h
  simp only [Bool.and_eq_true, decide_eq_true_eq, List.all_eq_true] at h
  obtain ⟨⟨⟨h1, h2⟩, h3⟩, h4⟩ := h
  refine ⟨h1, h2, fun c hc => h3 c hc, fun i hi => ?_⟩
  have := h4 i (List.mem_range.2 hi)
  simpa using this
theorem genP_cons (d : Nat) (hd : d < 31) : ∃ gt, genP d = 1 :: gt ∧ gt.length = d := by
  obtain ⟨h1, h2, _⟩ := genP_facts d hd
  cases h : genP d with
  | nil => rw [h] at h1; simp at h1
  | cons x r => rw [h] at h1 h2; simp at h1 h2; exact ⟨r, by rw [h2], by omega⟩

theorem gfExpK (f e l z o k : Nat) (w : World) (h : GF w f e l z o) (hk : k < 256) : Calls Tryz.prog 200 #[.pointer (some ⟨f, 0, none⟩), .int .i64 k] w fun r w' => r = .returned (.int .i64 (ge k : Nat)) ∧ w = w' :=
  gfExp f e l z o (k : Int) w h (by omega) (by omega)
theorem newPoly2 (f c : Nat) (w : World) (hc : c < 256) : Calls Tryz.prog 146 #[.pointer (some ⟨f, 0, none⟩), .slice (some ⟨w.heap.size, 0, none⟩) 2 2] (w.alloc (.cells #[.int .i64 1, .int .i64 (c : Nat)] 3)).drew fun r w' => ∃ p, r = .returned (.tuple #[.pointer (some ⟨p, 0, none⟩), .nilIface]) ∧ GP w' p f [1, c] ∧ Kept w w' := by
  have h := newPoly f w.heap.size [1, c] (w.alloc (.cells (natCells .i64 [1, c]) 3)).drew (Nats.new w .i64 3 [1, c]).drew (by simp) (by simp) (by intro x hx; simp at hx; omega)
  refine Calls.mono h ?_
  rintro r w' ⟨p, h1, h2, h3, _⟩
  exact ⟨p, h1, h2.gp, (((Frm.refl _ _).alloc _).drew).trans h3⟩

set_option maxRecDepth 100000 in
set_option maxHeartbeats 4000000 in
theorem buildGen (f e l z o eo g0 p0 dd : Nat) (w : World) (hf : GF w f e l z o) (ho : Blk w eo #[.pointer (some ⟨f, 0, none⟩), .slice (some ⟨g0, 0, none⟩) 1 1] 274) (hr : Row w 240 g0 1 1 [.pointer (some ⟨p0, 0, none⟩)]) (hp : GP w p0 f [1]) (hd1 : 1 ≤ dd) (hd : dd < 31) :
    Calls Tryz.prog 165 #[.pointer (some ⟨eo, 0, none⟩), .int .i64 dd] w fun r w' => ∃ pg, r = .returned (.pointer (some ⟨pg, 0, none⟩)) ∧ GP w' pg f (genP dd) ∧ Frm (fun k => k = eo ∨ k = g0) w w' ∧ w'.cell? ⟨eo, 0, none⟩ = some (.pointer (some ⟨f, 0, none⟩)) := by
  have o0 := ho.cell 0
  have o1 := ho.cell 1
  have c0 := hr.cell 0 (by omega)
  simp at o0 o1 c0
  have HO := Lib.hid ho
  have HR := Lib.hid hr
  have HP := Lib.hid hp
  have HF := Lib.hid hf
  clear ho hr hp hf
  have hdl0 : decide ((1 : Int) ≤ dd) = true := by simp; omega
  go_enter Tryz.func165, Tryz.ntmps165
  go_wp2_with fail
  go_loopw [6, 7, 8, 9, 10, 11] (fun lv dv _ _ _ _ wr => ∃ k g cap xs pg, k ≤ dd ∧ dv = .int .i64 ((k : Int) + 1) ∧ lv = .pointer (some ⟨pg, 0, none⟩) ∧ Blk wr eo #[.pointer (some ⟨f, 0, none⟩), .slice (some ⟨g, 0, none⟩) ((k + 1 : Nat) : Nat) cap] 274 ∧ Row wr 240 g (k + 1) cap xs ∧ xs[k]? = some (.pointer (some ⟨pg, 0, none⟩)) ∧ GP wr pg f (genP k) ∧ Frm (fun k => k = eo ∨ k = g0) w wr ∧ (g = g0 ∨ w.heap.size ≤ g)) (fun _ dv _ _ _ _ _ => dd + 1 - (intOf dv).toNat)
  case atStart => exact ⟨0, g0, 1, _, p0, by omega, rfl, rfl, HO.out, HR.out, rfl, HP.out, Frm.refl _ _, .inl rfl⟩
  case round =>
    obtain ⟨k, g, cap, xs, pg, hk, rfl, rfl, bo, br, hx, gp, fr, hg⟩ := hrel
    clear o0 o1 c0
    have o0 := bo.cell 0
    have o1 := bo.cell 1
    simp at o0 o1
    have BO := Lib.hid bo
    have BR := Lib.hid br
    have HX := Lib.hid hx
    have GP0 := Lib.hid gp
    have HG := Lib.hid hg
    have hOt : Other w (fun k => k = eo ∨ k = g0) := by
      rintro b (rfl | rfl)
      · exact ⟨_, _, HO.out, by decide, by decide, by decide⟩
      · obtain ⟨cur, h, _⟩ := HR.out.cells
        exact ⟨_, _, h, by decide, by decide, by decide⟩
    have GF1 := Lib.hid (HF.out.other fr hOt)
    have FR := Lib.hid fr
    clear bo br hx gp hg hOt fr
    by_cases hlt : k < dd
    · have hwk : IntKind.i64.wrap (k : Int) = k := wrapi64 _ (by omega) (by omega)
      have hdl : decide ((k : Int) + 1 ≤ dd) = true := by simp; omega
      go_wp2_with fail
      have o0' : wr.drew.cell? ⟨eo, 0, none⟩ = some (.pointer (some ⟨f, 0, none⟩)) := o0
      have hkr : Kept wr wr.drew := (Frm.refl _ _).drew
      have leo : eo < wr.heap.size := BO.out.lt
      have hka : Kept wr (wr.alloc (.cells #[.int .i64 1, .int .i64 (ge k : Nat)] 3)).drew := ((Frm.refl _ _).alloc _).drew
      have oa0 : (wr.alloc (.cells #[.int .i64 1, .int .i64 (ge k : Nat)] 3)).drew.cell? ⟨eo, 0, none⟩ = some (.pointer (some ⟨f, 0, none⟩)) := by rw [hka.cell leo (fun h => h)]; exact o0
      have HKA := Lib.hid hka
      have OA0 := Lib.hid oa0
      clear hka oa0
      go_region_held3 (fun w' => w'.cell? ⟨eo, 0, none⟩ = some (.pointer (some ⟨f, 0, none⟩)) ∧ Kept wr w')
        (first | assumption | exact ⟨o0', hkr⟩ | exact ⟨OA0.out, HKA.out⟩ | exact ⟨Eq.trans (k2.cell (p := ⟨eo, 0, none⟩) leo (fun h => h)) o0, k2⟩)
        (first
          | (go_at_call 201; with_reducible refine (gfBase f e l z o _ (GF1.out.kept (And.right (by assumption)))).mono ?_; rintro r _ ⟨rfl, rfl⟩)
          | (go_at_call 200; with_reducible refine (gfExpK f e l z o k _ (GF1.out.kept (And.right (by assumption))) (by omega)).mono ?_; rintro r _ ⟨rfl, rfl⟩)
          | (go_at_call 146; with_reducible refine (newPoly2 f (ge k) wr (ge_lt k)).mono ?_; rintro r w2 ⟨p2, rfl, gp2, k2⟩))
      obtain ⟨hgl, hgh, hgb, _⟩ := genP_facts k (by omega)
      have hg0 : (genP k).getD 0 0 ≠ 0 := by rw [hgh]; omega
      have hA := gpMul f e l z o pg p2 (genP k) [1, ge k] w2 (GF1.out.kept k2) (GP0.out.kept k2) gp2 (by omega) (by simp) hg0 (by simp)
      have HA := Lib.hid hA
      have K2 := Lib.hid k2
      clear hA hgl hgh hgb hg0 k2 gp2 o0' hkr HKA OA0
      go_wp2_with fail
      with_reducible refine HA.out.mono ?_
      clear HA
      rintro r w3 ⟨pn, rfl, gpn, k3, _⟩
      have k23 : Kept wr w3 := K2.out.trans k3
      have b3 := BO.out.frm k23 (fun h => h)
      have r3 := BR.out.kept k23
      have c1 := b3.cell 1
      simp at c1
      have neg : eo ≠ g := by
        obtain ⟨cur, h, _⟩ := r3.cells
        exact b3.ne h (by decide)
      obtain ⟨g', cap', w4, hrun, hrow, hfr, hg'⟩ := run_append_row1 272 272 240 (.pointer none) 8 (by kernel_rfl) info240 rfl r3 (.pointer (some ⟨pn, 0, none⟩)) rfl (by unfold maxLen; omega) (by omega)
      have b4 := b3.frm hfr neg
      have c4 := b4.cell 1
      simp at c4
      have f4 := b4.free 1
      have B4 := Lib.hid b4
      have B3 := Lib.hid b3
      have R3 := Lib.hid r3
      have R4 := Lib.hid hrow
      have FR4 := Lib.hid hfr
      have HG4 := Lib.hid hg'
      have HRUN := Lib.hid hrun
      have K3 := Lib.hid k23
      have GPN := Lib.hid gpn
      clear b4 b3 r3 hrow hfr hg' k23 gpn hrun
      go_wp2_with (at_builtin; refine wpList_append_run rfl (.tmp 66) (.tmp 68) 272 272 rfl _ _ rfl rfl _ _ HRUN.out ?_)
      have hg4 : g' = g0 ∨ w.heap.size ≤ g' := by
        have h1 := HG4.out
        have h2 := HG.out
        have h3 := FR.out.size
        have h4 := K3.out.size
        omega
      have fr4 : Frm (fun k => k = eo ∨ k = g0) w w4 := by
        have h1 : Frm (fun k => k = eo ∨ k = g0) w w3 := FR.out.trans K3.out.toFrm
        refine h1.step FR4.out ?_
        rintro b hb rfl
        have h2 := HG.out
        right; omega
      have hO2 : Other w3 (fun k => k = g) := by
        rintro b rfl
        obtain ⟨cur, h, _⟩ := R3.out.cells
        exact ⟨_, _, h, by decide, by decide, by decide⟩
      have gpn4 := GPN.out.other FR4.out hO2
      have hO3 : Other w4 (fun k => k = eo) := by
        rintro b rfl
        exact ⟨_, _, B4.out, by decide, by decide, by decide⟩
      have neg' : g' ≠ eo := by
        rintro rfl
        obtain ⟨cur, h, _⟩ := R4.out.cells
        exact h.ne B4.out (by decide) rfl
      have fs : Frm (fun k => k = eo) w4 (w4.setCell ⟨eo, 1, none⟩ (.slice (some ⟨g', 0, none⟩) (k + 1 + 1) cap')) := (Frm.refl (fun k => k = eo) w4).setCell (p := ⟨eo, 1, none⟩) (.inl rfl) _
      refine ⟨⟨k + 1, g', cap', xs ++ [.pointer (some ⟨pn, 0, none⟩)], pn, by omega, by go_num, rfl, ?_, R4.out.frm fs neg', ?_, gpn4.other fs hO3, fr4.setCell (.inl (.inl rfl)) _, hg4⟩, by simp [intOf]; omega⟩
      · exact B4.out.set 1 _
      · have := R3.out.len
        rw [List.getElem?_append_right (by omega)]
        simp [this]
    · obtain rfl : k = dd := by omega
      have hdl : decide ((k : Int) + 1 ≤ k) = false := by simp; omega
      have c2 := BR.out.cell k (by omega)
      rw [HX.out] at c2
      go_wp2
      go_ret
      exact ⟨pg, rfl, GP0.out, FR.out, o0⟩
end Go.Proofs.YtnpkihobbcglcaaGreatDoor

/- F15: Error correction words made: the plain law and the walk of Encode. -/
namespace Go.Proofs.YtnpkihobbcglcaaGreatDoor
open Go Go.RowKit

theorem ev_tail (a : Nat) (ha : a < 256) (data ecs : List Nat) (hd : Bytes data) (he : Bytes ecs) : ev (data ++ ecs) a = ev (data ++ List.replicate ecs.length 0) a ^^^ ev ecs a := by
  have h := ev_xor a ha (data ++ List.replicate ecs.length 0) (List.replicate data.length 0 ++ ecs) (by simp) (hd.append (Bytes.zeros _)) ((Bytes.zeros _).append he)
  rw [ev_zeros_left] at h
  rw [← h]
  congr 1
  apply List.ext_getElem
  · simp
  · intro i h1 h2
    rw [List.getElem_zipWith]
    by_cases hi : i < data.length
    · rw [List.getElem_append_left hi, List.getElem_append_left (by simpa using hi), List.getElem_append_left (by simpa using hi)]
      simp
    · rw [List.getElem_append_right (by omega), List.getElem_append_right (by omega), List.getElem_append_right (by simp; omega)]
      simp

/-- What the remainder, padded, does to the whole. -/
theorem rs_law (a : Nat) (ha : a < 256) (data rs : List Nat) (ec : Nat) (hd : Bytes data) (hr : Bytes rs) (hl : rs.length ≤ ec) (hev : ev rs a = ev (monP (strip data) ec 1) a) :
    ev (data ++ (List.replicate (ec - rs.length) 0 ++ rs)) a = 0 := by
  rw [ev_tail a ha data _ hd ((Bytes.zeros _).append hr), ev_zeros_left, hev, monP_shift a _ _ (strip_bytes _ hd)]
  have e1 : (List.replicate (ec - rs.length) 0 ++ rs).length = ec := by simp; omega
  rw [e1]
  have e2 : ev (data ++ List.replicate ec 0) a = ev (strip data ++ List.replicate ec 0) a := by
    unfold ev
    rw [hx_append, hx_append]
    have := strip_ev data a
    unfold ev at this
    rw [this]
  rw [e2, Nat.xor_self]

set_option maxRecDepth 100000 in
set_option maxHeartbeats 4000000 in
theorem rsEncode (f e l z o eo g0 p0 a ec n : Nat) (data : List Nat) (w : World) (hf : GF w f e l z o) (ho : Blk w eo #[.pointer (some ⟨f, 0, none⟩), .slice (some ⟨g0, 0, none⟩) 1 1] 274) (hr : Row w 240 g0 1 1 [.pointer (some ⟨p0, 0, none⟩)]) (hp : GP w p0 f [1])
    (ha : Nats w a .i64 3 (data ++ List.replicate ec 0)) (he1 : 1 ≤ ec) (he : ec < 31) (hdl : data.length = n) (hn1 : 1 ≤ n) (hn : n ≤ 300) (hby : Bytes data) :
    Calls Tryz.prog 129 #[.pointer (some ⟨eo, 0, none⟩), .slice (some ⟨a, 0, none⟩) (n + ec) (n + ec), .int .i64 ec] w fun r w' => ∃ ecs, r = .returned .nilIface ∧ Nats w' a .i64 3 (data ++ ecs) ∧ ecs.length = ec ∧ Bytes ecs ∧ (∀ i, i < ec → ev (data ++ ecs) (ge i) = 0) ∧ Frm (fun k => k = eo ∨ k = g0 ∨ k = a) w w' := by
  have neo : a ≠ eo := Blk.ne ha ho (by decide)
  have nga : a ≠ g0 := by
    obtain ⟨cur, h, _⟩ := hr.cells
    exact Blk.ne ha h (by decide)
  have hOt : Other w (fun k => k = eo ∨ k = g0) := by
    rintro b (rfl | rfl)
    · exact ⟨_, _, ho, by decide, by decide, by decide⟩
    · obtain ⟨cur, h, _⟩ := hr.cells
      exact ⟨_, _, h, by decide, by decide, by decide⟩
  have HOT := Lib.hid hOt
  have HO := Lib.hid ho
  have HR := Lib.hid hr
  have HP := Lib.hid hp
  have HF := Lib.hid hf
  have HA := Lib.hid ha
  have HBY := Lib.hid hby
  have hd1 : decide ((ec : Int) ≤ 0) = false := by simp; omega
  have hd2 : decide ((n : Int) ≤ 0) = false := by simp; omega
  have HDL := Lib.hid hdl
  clear ho hr hp hf ha hOt hby
  go_enter Tryz.func129, Tryz.ntmps129
  go_wp2_with fail
  with_reducible refine (buildGen f e l z o eo g0 p0 ec w HF.out HO.out HR.out HP.out he1 he).mono ?_
  rintro r w1 ⟨pg, rfl, gg, f1, o1⟩
  have hm1 := run_make_ints 117 3 .i64 8 (by kernel_rfl) info3 n (by omega) (by omega) w1
  have hdl := HDL.out
  have a1 := HA.out.frm f1 (by
    rintro (h | h)
    · exact neo h
    · exact nga h)
  have la := a1.lt
  have hz := Nats.new w1 .i64 3 (List.replicate n 0)
  have hcp := run_copy_nats (P := Tryz.prog) (w1.alloc (.cells (natCells .i64 (List.replicate n 0)) 3)) 117 117 3 3 .i64 w1.heap.size 0 n n a 0 (n + ec) (n + ec) n 3 3 (List.replicate n 0) (data ++ List.replicate ec 0) (by kernel_rfl) (by kernel_rfl) hz (a1.alloc _) (by simp [Nat.min_def]) (by simp [hdl]) (by simp)
  have hb1 := hz.setRow data
  have k1 : Kept w1 ((w1.alloc (.cells (natCells .i64 (List.replicate n 0)) 3)).setRow w1.heap.size (natCells .i64 data)) := ((Frm.refl _ _).alloc _).setRow (.inr (Nat.le_refl _)) _
  have ecp : ((data ++ List.replicate ec 0).drop 0).take n = data := by rw [List.drop_zero, List.take_append_of_le_length (by omega), ← hdl, List.take_length]
  rw [ecp, List.take_zero, List.nil_append, Nat.zero_add, List.drop_eq_nil_of_le (by simp), List.append_nil] at hcp
  have gg2 := gg.kept k1
  have F2 := Lib.hid ((HF.out.other f1 HOT.out).kept k1)
  have G2 := Lib.hid gg2
  have o2 : ((w1.alloc (.cells (natCells .i64 (List.replicate n 0)) 3)).setRow w1.heap.size (natCells .i64 data)).cell? ⟨eo, 0, none⟩ = some (.pointer (some ⟨f, 0, none⟩)) := by rw [k1.cell (World.block_lt_of_cell? _ _ o1) (fun h => h)]; exact o1
  have hnp := newPoly f w1.heap.size data ((w1.alloc (.cells (natCells .i64 (List.replicate n 0)) 3)).setRow w1.heap.size (natCells .i64 data)) hb1 (by intro e; rw [e] at hdl; simp at hdl; omega) (by omega) HBY.out
  rw [hdl] at hnp
  have HNP := Lib.hid hnp
  have A2 := Lib.hid (a1.frm k1 (fun h => h))
  have F12 : Hid (Frm (fun k => k = eo ∨ k = g0) w ((w1.alloc (.cells (natCells .i64 (List.replicate n 0)) 3)).setRow w1.heap.size (natCells .i64 data))) := Lib.hid (f1.trans k1.toFrm)
  clear hz hb1 k1 a1 gg gg2 hdl hnp ecp f1 o1
  go_wp2_with fail
  with_reducible refine HNP.out.mono ?_
  rintro r w2 ⟨p1, rfl, gp1, k2, _⟩
  have gp1' := gp1.gp
  have A3 := Lib.hid (A2.out.frm k2 (fun h => h))
  have F3 := Lib.hid (F2.out.kept k2)
  have G3 := Lib.hid (G2.out.kept k2)
  have F13 := Lib.hid (F12.out.trans k2.toFrm)
  clear HNP F2 G2 A2 F12 k2 gp1 hm1 hcp o2
  generalize (w1.alloc (.cells (natCells .i64 (List.replicate n 0)) 3)).setRow w1.heap.size (natCells .i64 data) = w1' at *
  have hsl : (strip data).length ≤ n := by have := strip_len data; have := HDL.out; omega
  go_wp2_with fail
  have hA := mulMonomial f e l z o p1 ec 1 (strip data) w2 F3.out gp1' (by omega) (by omega) (by omega)
  simp only [Int.cast_ofNat_Int] at hA
  with_reducible refine hA.mono ?_
  clear hA
  rintro r w3 ⟨p2, rfl, gp2, k3, _⟩
  have A4 := Lib.hid (A3.out.frm k3 (fun h => h))
  have F4 := Lib.hid (F3.out.kept k3)
  have G4 := Lib.hid (G3.out.kept k3)
  have F14 := Lib.hid (F13.out.trans k3.toFrm)
  have GP2 := Lib.hid gp2
  clear A3 F3 G3 F13 gp2
  obtain ⟨gt, hgt, hgl⟩ := genP_cons ec he
  have hml : (monP (strip data) ec 1).length ≤ n + ec := by
    refine Nat.le_trans (strip_len _) ?_
    simp; omega
  have hdv := gpDivide f e l z o p2 pg (monP (strip data) ec 1) gt w3 F4.out GP2.out (by have := G4.out; rw [hgt] at this; exact this) (by intro e; rw [e] at hgl; simp at hgl; omega) (by omega) (by omega)
  have HDV := Lib.hid hdv
  have HGT := Lib.hid hgt
  clear hdv hgt
  go_wp2_with fail
  with_reducible refine HDV.out.mono ?_
  clear HDV
  rintro r w4 ⟨qq, s, rs, rfl, grs, k4, lrs, hev⟩
  have hgr : ∀ i, i < ec → ev (1 :: gt) (ge i) = 0 := by rw [← HGT.out]; exact (genP_facts ec he).2.2.2
  have hroot : ∀ i, i < ec → ev rs (ge i) = ev (monP (strip data) ec 1) (ge i) := fun i hi => hev _ (ge_lt i) (hgr i hi)
  have HROOT := Lib.hid hroot
  have A5 := Lib.hid (A4.out.frm k4 (fun h => h))
  have F15 := Lib.hid (F14.out.trans k4.toFrm)
  clear A4 F4 G4 F14 GP2 hev hgr hroot
  obtain ⟨rb, rof, rxs, grs⟩ := grs
  have GRS := Lib.hid grs
  have brs := grs.bytes
  have BRS := Lib.hid brs
  have hrl : rs.length ≤ ec := by omega
  have hr1 : 1 ≤ rs.length := by have := grs.len; have := grs.lt; omega
  clear grs brs lrs
  go_wp2_with fail
  with_reducible refine (gpCoefs s f rb rof rxs rs w4 GRS.out).mono ?_
  rintro r _ ⟨rfl, rfl⟩
  obtain ⟨m, hm⟩ : ∃ m : Nat, ec = m + rs.length := ⟨ec - rs.length, by omega⟩
  have hmi : (ec : Int) - rs.length = m := by omega
  have HM := Lib.hid hm
  clear hm
  go_wp2_with fail
  go_loopw [17] (fun i wr => ∃ k : Nat, k ≤ m ∧ i = .int .i64 k ∧ Nats wr a .i64 3 (data ++ List.replicate ec 0) ∧ Frm (fun k => k = a) w4 wr) (fun i _ => m - (intOf i).toNat)
  case atStart => exact ⟨0, Nat.zero_le _, rfl, A5.out, Frm.refl _ _⟩
  case round =>
    obtain ⟨k, hk, rfl, ar, fr⟩ := hrel
    by_cases hlt : k < m
    · have hlen : (data ++ List.replicate ec 0).length = n + ec := by simp [HDL.out]
      have c1 := ar.cell (n + k) (by have := HM.out; omega)
      have f1 := ar.free (n + k)
      have hz : (data ++ List.replicate ec 0).getD (n + k) 0 = 0 := by
        rw [List.getD_eq_getElem?_getD, List.getElem?_append_right (by rw [HDL.out]; omega)]
        rw [List.getElem?_replicate]
        split <;> rfl
      have hset : (data ++ List.replicate ec 0).set (n + k) 0 = data ++ List.replicate ec 0 := by
        apply List.ext_getElem?
        intro j
        rw [List.getElem?_set]
        split
        · rename_i h; subst h
          rw [List.getD_eq_getElem?_getD] at hz
          rw [List.getElem?_eq_getElem (by have := HM.out; omega)] at hz ⊢
          simp at hz
          simp [hlen, hz]
          have := HM.out
          omega
        · rfl
      have ar2 := ar.set (n + k) 0
      rw [hset] at ar2
      rw [hz] at c1
      have hdk : decide ((k : Int) < m) = true := by simp; omega
      have AR2 := Lib.hid ar2
      clear hlen hz hset ar2 ar
      go_wp2
      exact ⟨⟨k + 1, by omega, by go_num, AR2.out, fr.setCell (.inl rfl) _⟩, by simp [intOf]; omega⟩
    · obtain rfl : k = m := by omega
      have hdk : decide ((k : Int) < k) = false := by simp
      have grr : Nats wr rb .i64 3 rxs := by
        by_cases e : rb = a
        · subst e
          have h1 := GRS.out.row
          have h2 := A5.out
          unfold Nats Blk at h1 h2 ar ⊢
          rw [h1] at h2
          rw [ar, ← h2]
        · exact GRS.out.row.frm fr e
      have hlen : (data ++ List.replicate ec 0).length = n + ec := by simp [HDL.out]
      have hfit : rof + rs.length ≤ rxs.length := by have := GRS.out.len; have := GRS.out.lt; omega
      have hcp := run_copy_nats (P := Tryz.prog) wr 117 117 3 3 .i64 a (n + k) (n + ec - (n + k)) (n + ec - (n + k)) rb rof rs.length rs.length rs.length 3 3 (data ++ List.replicate ec 0) rxs (by kernel_rfl) (by kernel_rfl) ar grr (by have := HM.out; simp [Nat.min_def]; omega) hfit (by have := HM.out; omega)
      have e1 : (data ++ List.replicate ec 0).take (n + k) ++ (rxs.drop rof).take rs.length ++ (data ++ List.replicate ec 0).drop (n + k + rs.length) = data ++ (List.replicate (ec - rs.length) 0 ++ rs) := by
        rw [GRS.out.cut, List.take_length, List.drop_eq_nil_of_le (by have := HM.out; omega), List.append_nil, ← List.append_assoc]
        congr 1
        rw [← HDL.out, List.take_length_add_append, List.take_replicate]
        congr 2
        have := HM.out; omega
      rw [e1] at hcp
      have hfin := ar.setRow (data ++ (List.replicate (ec - rs.length) 0 ++ rs))
      have HFIN := Lib.hid hfin
      have FF : Hid (Frm (fun k => k = eo ∨ k = g0 ∨ k = a) w (wr.setRow a (natCells .i64 (data ++ (List.replicate (ec - rs.length) 0 ++ rs))))) := by
        refine Lib.hid (((F15.out.mono ?_).trans (fr.mono ?_)).setRow (.inl (.inr (.inr rfl))) _)
        · rintro b _ (h | h)
          · exact .inl h
          · exact .inr (.inl h)
        · rintro b _ h
          exact .inr (.inr h)
      clear ar grr hlen hfit e1 hfin fr
      go_wp2_with fail
      go_ret
      refine ⟨List.replicate (ec - rs.length) 0 ++ rs, rfl, HFIN.out, by simp; omega, (Bytes.zeros _).append BRS.out, fun i hi => ?_, FF.out⟩
      exact rs_law (ge i) (ge_lt i) data rs ec HBY.out BRS.out hrl (HROOT.out i hi)
end Go.Proofs.YtnpkihobbcglcaaGreatDoor

/- F16: generateECBytes: the walk. -/
namespace Go.Proofs.YtnpkihobbcglcaaGreatDoor
open Go Go.RowKit

theorem wrapu8 (v : Nat) (h : v < 256) : IntKind.u8.wrap (v : Int) = v := by
  unfold IntKind.wrap
  simp [IntKind.signed, IntKind.bits]
  omega
theorem and255 (v : Nat) (h : v < 256) : bits .and .i64 (v : Int) 255 = v := by
  have h2 := i64_and v 255 (by omega) (by omega)
  rw [show v &&& 255 = v from by
    have := Nat.and_two_pow_sub_one_eq_mod v 8
    simp at this
    omega] at h2
  exact h2
/-- Filled from the left. -/
def fillP (xs : List Nat) (m k : Nat) : List Nat := xs.take k ++ List.replicate (m - k) 0
theorem fillP_len (xs : List Nat) (m k : Nat) (hk : k ≤ xs.length) (hm : k ≤ m) : (fillP xs m k).length = m := by simp [fillP]; omega
theorem fillP_step (xs : List Nat) (m k : Nat) (hk : k < xs.length) (hm : xs.length ≤ m) : (fillP xs m k).set k (xs.getD k 0) = fillP xs m (k + 1) := by
  apply List.ext_getElem?
  intro j
  unfold fillP
  rw [List.getElem?_set]
  have hl : (xs.take k ++ List.replicate (m - k) 0).length = m := by simp; omega
  split
  · rename_i h; subst h
    rw [hl, if_pos (by omega), List.getElem?_append_left (by simp; omega), List.getElem?_take, if_pos (by omega), List.getD_eq_getElem?_getD, List.getElem?_eq_getElem hk]
    rfl
  · rename_i h
    by_cases hj : j < k
    · rw [List.getElem?_append_left (by simp; omega), List.getElem?_append_left (by simp; omega), List.getElem?_take, List.getElem?_take, if_pos hj, if_pos (by omega)]
    · rw [List.getElem?_append_right (by simp; omega), List.getElem?_append_right (by simp; omega), List.getElem?_replicate, List.getElem?_replicate]
      simp only [List.length_take]
      congr 1
      rw [eq_iff_iff]
      omega

set_option maxRecDepth 100000 in
set_option maxHeartbeats 4000000 in
theorem genEC (d n ec : Nat) (data : List Nat) (w : World) (hd : Nats w d .u8 5 data) (he1 : 1 ≤ ec) (he : ec < 31) (hdl : data.length = n) (hn1 : 1 ≤ n) (hn : n ≤ 300) (hby : Bytes data) :
    Calls Tryz.prog 99 #[.slice (some ⟨d, 0, none⟩) n n, .int .i64 ec] w fun r w' => ∃ b ecs, r = .returned (.tuple #[.slice (some ⟨b, 0, none⟩) ec ec, .nilIface]) ∧ Nats w' b .u8 5 ecs ∧ ecs.length = ec ∧ Bytes ecs ∧ (∀ i, i < ec → ev (data ++ ecs) (ge i) = 0) ∧ Kept w w' ∧ w.heap.size ≤ b := by
  have hm1 := run_make_ints 117 3 .i64 8 (by kernel_rfl) info3 (n + ec) (by omega) (by omega) w
  have HD := Lib.hid hd
  have HBY := Lib.hid hby
  have HDL := Lib.hid hdl
  simp only [Int.natCast_add] at hm1
  clear hd hby hdl
  go_enter Tryz.func99, Tryz.ntmps99
  go_wp2
  have hz := Nats.new w .i64 3 (List.replicate (n + ec) 0)
  have k0 : Kept w (w.alloc (.cells (natCells .i64 (List.replicate (n + ec) 0)) 3)) := (Frm.refl _ _).alloc _
  have hz' : Nats (w.alloc (.cells (natCells .i64 (List.replicate (n + ec) 0)) 3)) w.heap.size .i64 3 (fillP data (n + ec) 0) := hz
  clear hz
  generalize w.alloc (.cells (natCells .i64 (List.replicate (n + ec) 0)) 3) = w0 at hz' k0 ⊢
  go_loopw [8] (fun i wr => ∃ k : Nat, k ≤ n ∧ i = .int .i64 k ∧ Nats wr w.heap.size .i64 3 (fillP data (n + ec) k) ∧ Kept w wr) (fun i _ => n - (intOf i).toNat)
  case atStart => exact ⟨0, Nat.zero_le _, rfl, hz', k0⟩
  case round =>
    obtain ⟨k, hk, rfl, ar, fr⟩ := hrel
    clear hz' k0
    by_cases hlt : k < n
    · have cd := (HD.out.frm fr (fun h => h)).cell k (by rw [HDL.out]; exact hlt)
      have ca := ar.cell k (by rw [fillP_len _ _ _ (by rw [HDL.out]; exact hk) (by omega)]; omega)
      have fa := ar.free k
      have hv : data.getD k 0 < 256 := bytes_at HBY.out k
      have ha := and255 _ hv
      have hset := ar.set k (data.getD k 0)
      rw [fillP_step _ _ _ (by rw [HDL.out]; exact hlt) (by rw [HDL.out]; omega)] at hset
      generalize data.getD k 0 = v at cd hv ha hset
      have hwv : wrap64 (v : Int) = v := by unfold wrap64; omega
      have HS := Lib.hid hset
      clear hset ar
      have hdk : decide ((k : Int) < n) = true := by simp; omega
      go_wp2
      exact ⟨⟨k + 1, by omega, by go_num, HS.out, fr.setCell (.inr (Nat.le_refl _)) _⟩, by simp [intOf]; omega⟩
    · obtain rfl : k = n := by omega
      have hdk : decide ((k : Int) < k) = false := by simp
      have hfull : fillP data (k + ec) k = data ++ List.replicate ec 0 := by
        unfold fillP
        rw [← HDL.out, List.take_length]
        congr 2
        omega
      rw [hfull] at ar
      have AR := Lib.hid ar
      clear ar hfull hm1
      go_wp2_with fail
      with_reducible refine (qrField wr).mono ?_
      rintro r w1 ⟨f, e, l, z, o, rfl, hf, k1, _⟩
      have HF := Lib.hid hf
      clear hf
      go_wp2_with fail
      with_reducible refine (newEncoder f w1).mono ?_
      rintro r w2 ⟨eo, g, p, rfl, ho, hr, hp, k2, leo, lg⟩
      have lw := fr.size
      have lk1 := k1.size
      have hE := rsEncode f e l z o eo g p w.heap.size ec k data w2 (HF.out.kept k2) ho hr hp ((AR.out.frm k1 (fun h => h)).frm k2 (fun h => h)) he1 he HDL.out hn1 hn HBY.out
      have HE := Lib.hid hE
      clear hE ho hr hp
      go_wp2_with fail
      with_reducible refine HE.out.mono ?_
      rintro r w3 ⟨ecs, rfl, he3, hecl, hecb, hroot, f3⟩
      have k3 : Kept w w3 := by
        have h1 : Kept w w2 := (fr.trans k1).trans k2
        refine h1.step f3 ?_
        rintro b hb (h | h | h)
        · omega
        · omega
        · omega
      have hm2 := run_make_ints 32 5 .u8 1 (by kernel_rfl) info5 ec (by omega) (by omega) w3
      have hz2 := Nats.new w3 .u8 5 (List.replicate ec 0)
      have k4 : Kept w3 (w3.alloc (.cells (natCells .u8 (List.replicate ec 0)) 5)) := (Frm.refl _ _).alloc _
      have hz3 : Nats (w3.alloc (.cells (natCells .u8 (List.replicate ec 0)) 5)) w3.heap.size .u8 5 (fillP ecs ec 0) := hz2
      have lw3 : w.heap.size < w3.heap.size := by have := he3.lt; exact this
      have K3 := Lib.hid k3
      have HE3 := Lib.hid he3
      have HEC := Lib.hid hecl
      have HEB := Lib.hid hecb
      have HRT := Lib.hid hroot
      clear k3 he3 hecl hecb hroot HE f3 hz2 HF k2 k1 fr AR
      go_wp2_with fail
      generalize w3.alloc (.cells (natCells .u8 (List.replicate ec 0)) 5) = w4 at hz3 k4 ⊢
      go_loopw [11] (fun i wr => ∃ m : Nat, m ≤ ec ∧ i = .int .i64 m ∧ Nats wr w3.heap.size .u8 5 (fillP ecs ec m) ∧ Kept w3 wr) (fun i _ => ec - (intOf i).toNat)
      case atStart => exact ⟨0, Nat.zero_le _, rfl, hz3, k4⟩
      case round =>
        obtain ⟨m, hm, rfl, br, fr⟩ := hrel
        clear hz3 k4
        by_cases hlt : m < ec
        · have hl2 : (data ++ ecs).length = k + ec := by simp [HDL.out, HEC.out]
          have cd := (HE3.out.frm fr (fun h => h)).cell (k + m) (by omega)
          have eg : (data ++ ecs).getD (k + m) 0 = ecs.getD m 0 := by
            rw [List.getD_eq_getElem?_getD, List.getElem?_append_right (by rw [HDL.out]; omega), HDL.out, List.getD_eq_getElem?_getD]
            congr 2; omega
          rw [eg] at cd
          have ca := br.cell m (by rw [fillP_len _ _ _ (by rw [HEC.out]; exact hm) (by omega)]; omega)
          have fa := br.free m
          have hv : ecs.getD m 0 < 256 := bytes_at HEB.out m
          have hw8 := wrapu8 _ hv
          have hset := br.set m (ecs.getD m 0)
          rw [fillP_step _ _ _ (by rw [HEC.out]; exact hlt) (by rw [HEC.out]; omega)] at hset
          generalize ecs.getD m 0 = v at cd hv hw8 hset
          have HS := Lib.hid hset
          clear hset br hl2 eg
          have hdm : decide ((m : Int) < ec) = true := by simp; omega
          go_wp2
          exact ⟨⟨m + 1, by omega, by go_num, HS.out, fr.setCell (.inr (Nat.le_refl _)) _⟩, by simp [intOf]; omega⟩
        · obtain rfl : m = ec := by omega
          have hdm : decide ((m : Int) < m) = false := by simp
          have hfull : fillP ecs m m = ecs := by
            unfold fillP
            rw [← HEC.out, List.take_length]
            simp
          rw [hfull] at br
          go_wp2
          go_ret2
          exact ⟨_, ecs, rfl, br, HEC.out, HEB.out, HRT.out, K3.out.trans fr, by omega⟩
end Go.Proofs.YtnpkihobbcglcaaGreatDoor
