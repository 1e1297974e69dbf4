/- GrayCrop. -/
import Derived.Test.YtnpkihobbcglcaaGreatDoorQ28
import Derived.Handy
set_option linter.unusedSimpArgs false
set_option linter.unusedVariables false

/- R9: GrayCrop. -/
namespace Go.Proofs.YtnpkihobbcglcaaGreatDoor
open Go Go.RowKit

theorem Nats.vals {w : World} {b : Nat} {k : IntKind} {T : TypeId} {xs : List Nat} (h : Nats w b k T xs) (j : Nat) (u : Value) (hu : (natVals k xs)[j]? = some u) : w.cell? ⟨b, j, none⟩ = some u := by
  have hj : j < xs.length := by have := (List.getElem?_eq_some_iff.1 hu).1; rwa [natVals_length] at this
  rw [h.cell j hj, ← hu, natVals_get _ _ _ hj]

set_option maxRecDepth 100000 in
set_option maxHeartbeats 4000000 in
theorem grayCrop (b N c W H left top pw ph : Nat) (page : List Nat) (w : World) (hr : Row w 5 b N c (natVals .u8 page)) (hpw : 1 ≤ pw) (hph : 1 ≤ ph) (hW : left + pw < W) (hH : top + ph < H) (hN : H * W = N) (hWb : W ≤ 400) (hHb : H ≤ 400) :
    Calls Tryz.prog 25 #[.int .i64 W, .int .i64 H, .slice (some ⟨b, 0, none⟩) N c, .int .i64 left, .int .i64 top, .int .i64 pw, .int .i64 ph] w fun e w' => ∃ g cap, e = .returned (.tuple #[.slice (some ⟨g, 0, none⟩) (ph * pw : Nat) cap, .bool true]) ∧
      Row w' 5 g (ph * pw) cap (natVals .u8 (cropL page W left top pw (ph * pw))) ∧ Kept w w' := by
  have hs := sourceAny b N c W H (natVals .u8 page) w hr (natVals_one _ _) hN (by omega) (by omega) hWb hHb
  have HS := Lib.hid hs
  have hA : ph * pw ≤ 160000 := Nat.le_trans (Nat.mul_le_mul (show ph ≤ 400 by omega) (show pw ≤ 400 by omega)) (by omega)
  have hA1 : 1 ≤ ph * pw := Nat.mul_le_mul hph hpw
  have e1 : decide ((left : Int) < 0) = false := by simp
  have e2 : decide ((top : Int) < 0) = false := by simp
  have e3 : decide ((pw : Int) < 1) = false := by simp; omega
  have e4 : decide ((ph : Int) < 1) = false := by simp; omega
  have e5 : decide ((W : Int) < left) = false := by simp; omega
  have e6 : decide ((H : Int) < top) = false := by simp; omega
  have e7 : decide ((W : Int) < pw) = false := by simp; omega
  have e8 : decide ((H : Int) < ph) = false := by simp; omega
  have HN := Lib.hid hN
  clear hs hr hN
  go_enter Tryz.func25, Tryz.ntmps25
  go_wp2_with fail
  with_reducible refine HS.out.mono ?_
  rintro _ w1 ⟨p, g, cap, rfl, hb, hr1, k1⟩
  have hcr := cropAny p g N cap W H 0 0 left top pw ph _ _ w1 hb (by omega) (by omega) ⟨by omega, by omega⟩
  have HCR := Lib.hid hcr
  have HR1 := Lib.hid hr1
  have HK1 := Lib.hid k1
  clear hb hr1 k1 hcr
  dsimp only
  go_wp2_with fail
  with_reducible refine HCR.out.mono ?_
  rintro _ w2 ⟨q, rfl, hb2, k2⟩
  have hcm := cropMatrix q g N cap W H (0 + left) (0 + top) pw ph page w2 hb2 (HR1.out.kept k2) hpw hph (by omega) (by omega) HN.out.symm hWb hHb HR1.out.small
  simp only [Nat.zero_add] at hcm
  have HCM := Lib.hid hcm
  have HK2 := Lib.hid (HK1.out.trans k2)
  clear hb2 k2 hcm HCR HR1 HK1 HS
  dsimp only
  go_wp2_with fail
  with_reducible refine HCM.out.mono ?_
  rintro _ w3 ⟨bm, rfl, hn3, k3⟩
  obtain ⟨g4, cap4, w4, hrun, hrow, k4, -⟩ := run_append_nil 32 32 5 (.int .u8 0) 1 (by kernel_rfl) info5 rfl (w := w3) ⟨bm, 0, none⟩ (ph * pw) (ph * pw : Nat) (natVals .u8 (cropL page W left top pw (ph * pw))) (by rw [natVals_length, cropL_len]) (by omega)
    (fun j u hj => by rw [addr_add]; exact hn3.vals j u hj) (natVals_one _ _) (by unfold maxLen; omega) (by omega)
  have HRUN := Lib.hid hrun
  have HROW := Lib.hid hrow
  have HK4 := Lib.hid ((HK2.out.trans k3).trans k4)
  clear hrun hrow k3 k4 hn3 HCM HK2
  generalize hA' : ph * pw = A at *
  have HA := Lib.hid hA'
  clear hA'
  dsimp only
  go_wp2_with (at_builtin; refine wpList_append_run rfl (.const (.slice none 0 0)) (.tmp 77) 32 32 rfl _ _ rfl rfl _ _ HRUN.out ?_)
  go_ret2
  rw [HA.out]
  exact ⟨g4, cap4, rfl, HROW.out, HK4.out⟩
end Go.Proofs.YtnpkihobbcglcaaGreatDoor
