/- The mask's bit; the data bits laid along the zigzag. The data bits laid along the zigzag: the walk. Bits as numbers. No program in sight. -/
import Derived.Test.YtnpkihobbcglcaaGreatDoorQ06
import Derived.Test.YtnpkihobbcglcaaGreatDoorQ10
set_option linter.unusedSimpArgs false
set_option linter.unusedVariables false

/- D1: The mask's bit; the data bits laid along the zigzag. -/
namespace Go.Proofs.YtnpkihobbcglcaaGreatDoor
open Go Go.RowKit

def maskVal (m x y : Nat) : Nat :=
  match m with
  | 0 => (y + x) % 2
  | 1 => y % 2
  | 2 => x % 3
  | 3 => (y + x) % 3
  | 4 => (y / 2 + x / 3) % 2
  | 5 => (y * x) % 2 + (y * x) % 3
  | 6 => ((y * x) % 2 + (y * x) % 3) % 2
  | _ => ((y * x) % 3 + (y + x) % 2) % 2
def maskBit (m x y : Nat) : Bool := maskVal m x y == 0

theorem and1_i64 (e : Nat) (he : e < 2 ^ 63) : bits .and .i64 (e : Int) 1 = ((e % 2 : Nat) : Int) := by
  have h := i64_and e 1 he (by omega)
  rw [Nat.and_one_is_mod] at h
  exact h

set_option maxHeartbeats 4000000 in
theorem maskBit_any (m x y : Nat) (w : World) (hm : m < 8) (hx : x < 1000) (hy : y < 1000) :
    Calls Tryz.prog 144 #[.int .i64 m, .int .i64 x, .int .i64 y] w fun e w' => e = .returned (.tuple #[.bool (maskBit m x y), .nilIface]) ∧ w = w' := by
  have hxy : y * x < 1000000 := by
    have := Nat.mul_le_mul (show y ≤ 999 by omega) (show x ≤ 999 by omega); omega
  generalize hN : y * x = N at hxy
  have hz : (y : Int) * (x : Int) = (N : Int) := by rw [← hN]; exact (Int.natCast_mul y x).symm
  have HN := Lib.hid hN
  clear hN
  have a1 := and1_i64 (y + x) (by omega)
  have a2 := and1_i64 y (by omega)
  have a3 := and1_i64 (y / 2 + x / 3) (by omega)
  have a4 := and1_i64 N (by omega)
  have a5 := and1_i64 (N % 2 + N % 3) (by omega)
  have a6 := and1_i64 (N % 3 + (y + x) % 2) (by omega)
  have hm' : m = 0 ∨ m = 1 ∨ m = 2 ∨ m = 3 ∨ m = 4 ∨ m = 5 ∨ m = 6 ∨ m = 7 := by omega
  simp only [Int.natCast_add, Int.natCast_ediv, Int.natCast_emod, Int.cast_ofNat_Int] at a1 a2 a3 a4 a5 a6
  rcases hm' with rfl | rfl | rfl | rfl | rfl | rfl | rfl | rfl
  all_goals go_enter Tryz.func144, Tryz.ntmps144
  all_goals go_wp2
  all_goals go_ret2
  all_goals refine ⟨?_, rfl⟩
  all_goals refine congrArg (fun b => Ending.returned (.tuple #[.bool b, .nilIface])) ?_
  all_goals have hN := HN.out
  all_goals unfold maskBit maskVal
  all_goals clear a1 a2 a3 a4 a5 a6 HN hxy hz
  all_goals try rw [hN]
  all_goals simp only []
  all_goals rw [Bool.eq_iff_iff, beq_iff_eq, beq_iff_eq]
  all_goals omega

def dataCell (bits : List Bool) (m x y : Nat) (s : Nat × Grid) : Nat × Grid :=
  if gget s.2 x y == -1 then (s.1 + 1, gset s.2 x y (bit01 (bits.getD s.1 false ^^ maskBit m x y))) else s
def dataRow (bits : List Bool) (m x y k : Nat) (s : Nat × Grid) : Nat × Grid := iterN (fun i s => dataCell bits m (x - i) y s) k s
def colX (n c : Nat) : Nat := if 8 ≤ n - 1 - 2 * c then n - 1 - 2 * c else n - 2 - 2 * c
def rowY (n c k : Nat) : Nat := if c % 2 = 0 then n - 1 - k else k
def dataCol (bits : List Bool) (m n c k : Nat) (s : Nat × Grid) : Nat × Grid := iterN (fun k s => dataRow bits m (colX n c) (rowY n c k) 2 s) k s
def dataAll (bits : List Bool) (m n k : Nat) (s : Nat × Grid) : Nat × Grid := iterN (fun c s => dataCol bits m n c n s) k s

theorem maskBit_int (m : Nat) (X Y : Int) (w : World) (hm : m < 8) (hx0 : 0 ≤ X) (hx : X < 1000) (hy0 : 0 ≤ Y) (hy : Y < 1000) :
    Calls Tryz.prog 144 #[.int .i64 m, .int .i64 X, .int .i64 Y] w fun e w' => e = .returned (.tuple #[.bool (maskBit m X.toNat Y.toNat), .nilIface]) ∧ w = w' := by
  obtain ⟨x, rfl⟩ := Int.eq_ofNat_of_zero_le hx0
  obtain ⟨y, rfl⟩ := Int.eq_ofNat_of_zero_le hy0
  exact maskBit_any m x y w hm (by omega) (by omega)
end Go.Proofs.YtnpkihobbcglcaaGreatDoor

/- D2: The data bits laid along the zigzag: the walk. -/
namespace Go.Proofs.YtnpkihobbcglcaaGreatDoor
open Go Go.RowKit

theorem dataCell_no {bits : List Bool} {m x y : Nat} {s : Nat × Grid} (h : (gget s.2 x y == -1) = false) : dataCell bits m x y s = s := by
  unfold dataCell; rw [h]; rfl
theorem dataCell_yes {bits : List Bool} {m x y : Nat} {s : Nat × Grid} (h : (gget s.2 x y == -1) = true) : dataCell bits m x y s = (s.1 + 1, gset s.2 x y (bit01 (bits.getD s.1 false ^^ maskBit m x y))) := by
  unfold dataCell; rw [h]; rfl

set_option maxRecDepth 100000 in
set_option maxHeartbeats 16000000 in
theorem embedData (q c p r n m : Nat) (bs : List Bool) (g : Grid) (w : World) (h : BM w p r n g) (hb : BitA w q c bs) (hq : ¬ InM r n q) (hc : ¬ InM r n c) (hn : 21 ≤ n) (hodd : n % 2 = 1) (hm : m < 8) (hL : bs.length ≤ 100000)
    (hfull : bs.length ≤ (dataAll bs m n ((n - 1) / 2) (0, g)).1) :
    Calls Tryz.prog 109 #[.pointer (some ⟨q, 0, none⟩), .int .i64 m, .pointer (some ⟨p, 0, none⟩)] w fun e w' => e = .returned .nilIface ∧ BM w' p r n (dataAll bs m n ((n - 1) / 2) (0, g)).2 ∧ Frm (InM r n) w w' := by
  have hs := h.small
  have hm1 : ((m : Int) == -1) = false := by rw [beq_eq_false_iff_ne]; omega
  have hm2 : ((m : Int) != -1) = true := by rw [bne_iff_ne]; omega
  have HFULL := Lib.hid hfull
  clear hfull
  have h7 : (0 : Int) < n := by omega
  go_enter Tryz.func109, Tryz.ntmps109
  go_wp2_with fail
  with_reducible refine (bmWidth p r n _ _ h).mono ?_
  rintro e _ ⟨rfl, rfl⟩
  go_wp2_with fail
  with_reducible refine (bmHeight p r n _ _ h).mono ?_
  rintro e _ ⟨rfl, rfl⟩
  go_wp2
  go_loopw [7, 8, 9, 10, 11, 12, 13, 14, 15] (fun bi di xi yi _ _ _ _ _ wr => ∃ (k b : Nat) (dv xv yv : Int), k ≤ (n - 1) / 2 ∧ bi = .int .i64 b ∧ ((dataAll bs m n k (0, g)).1 < bs.length ∧ b = (dataAll bs m n k (0, g)).1 ∨ bs.length ≤ (dataAll bs m n k (0, g)).1 ∧ b = bs.length) ∧ di = .int .i64 dv ∧ xi = .int .i64 xv ∧ yi = .int .i64 yv ∧
      (k % 2 = 0 ∧ dv = -1 ∧ yv = n - 1 ∨ k % 2 = 1 ∧ dv = 1 ∧ yv = 0) ∧ (6 ≤ n - 1 - 2 * k ∧ xv = n - 1 - 2 * k ∨ n - 1 - 2 * k < 6 ∧ xv = n - 2 - 2 * k) ∧ BM wr p r n (dataAll bs m n k (0, g)).2 ∧ BitA wr q c bs ∧ Frm (InM r n) w wr) (fun _ _ xi _ _ _ _ _ _ _ => (intOf xi + 1).toNat)
  case atStart => exact ⟨0, 0, -1, n - 1, n - 1, Nat.zero_le _, rfl, by show 0 < bs.length ∧ 0 = 0 ∨ bs.length ≤ 0 ∧ 0 = bs.length; omega, rfl, rfl, rfl, .inl ⟨rfl, rfl, rfl⟩, .inl ⟨by omega, by omega⟩, h, hb, Frm.refl _ _⟩
  case round =>
    obtain ⟨k, b, dv, xv, yv, hk, rfl, hbi, rfl, rfl, rfl, hdy, hxv, mb, bb, fb⟩ := hrel
    clear h hb
    by_cases hlt : k < (n - 1) / 2
    · have hx0 : 0 < xv := by omega
      have hS : dataAll bs m n (k + 1) (0, g) = dataCol bs m n k n (dataAll bs m n k (0, g)) := rfl
      have HS := Lib.hid hS
      clear hS
      generalize dataAll bs m n k (0, g) = s at mb HS hbi
      have hcx : 1 ≤ colX n k ∧ colX n k < n ∧ (xv ≠ 6 → xv = colX n k) ∧ (xv = 6 → colX n k = 5) := by
        unfold colX; split <;> omega
      obtain ⟨hcx1, hcx2, hcx3, hcx4⟩ := hcx
      have hnx : (n : Int) - 1 - 2 * (k + 1 : Nat) ≤ xv := by omega
      have hxn : (6 ≤ n - 1 - 2 * (k + 1) ∧ (colX n k : Int) - 2 = n - 1 - 2 * (k + 1 : Nat) ∨ n - 1 - 2 * (k + 1) < 6 ∧ (colX n k : Int) - 2 = n - 2 - 2 * (k + 1 : Nat)) ∧ (colX n k : Int) - 2 < xv := by
        unfold colX; split <;> omega
      generalize hX : colX n k = X at hcx1 hcx2 hcx3 hcx4 hxn
      have hxs : (xv = 6 ∧ X = 5) ∨ (¬ xv = 6 ∧ xv = X) := by omega
      clear hcx3 hcx4 hnx
      have HX := Lib.hid hX
      have HXN := Lib.hid hxn
      clear hX hxv hxn
      have hcol : ∀ i, dataCol bs m n k (i + 1) s = dataRow bs m X (rowY n k i) 2 (dataCol bs m n k i s) := by intro i; rw [← HX.out]; rfl
      have HCOL := Lib.hid hcol
      clear hcol
      have hd0 : decide (0 < xv) = true := by simpa using hx0
      have hdv : dv = -1 ∨ dv = 1 := by omega
      rcases hxs with ⟨rfl, h5⟩ | ⟨h6, rfl⟩
      all_goals
        have hX0 : decide (0 < X) = true := by simp; omega
        try (have hX6 : ((X : Int) == 6) = false := by rw [beq_eq_false_iff_ne]; exact h6)
        go_wp2_with fail
        first | (rw [show (Value.int .i64 5) = .int .i64 (X : Int) by rw [h5]; rfl]) | skip
        try (have H5 := Lib.hid h5; clear h5)
        go_loopw [7, 10, 11, 12, 13, 14, 15] (fun bi yi _ _ _ _ _ wx => ∃ (i b : Nat) (yv : Int), i ≤ n ∧ bi = .int .i64 b ∧ ((dataCol bs m n k i s).1 < bs.length ∧ b = (dataCol bs m n k i s).1 ∨ bs.length ≤ (dataCol bs m n k i s).1 ∧ b = bs.length) ∧ yi = .int .i64 yv ∧
          (k % 2 = 0 ∧ dv = -1 ∧ yv = n - 1 - i ∨ k % 2 = 1 ∧ dv = 1 ∧ yv = i) ∧ BM wx p r n (dataCol bs m n k i s).2 ∧ BitA wx q c bs ∧ Frm (InM r n) w wx) (fun _ yi _ _ _ _ _ _ => (n - dv * intOf yi).toNat)
        case atStart => exact ⟨0, b, yv, Nat.zero_le _, rfl, hbi, rfl, by omega, mb, bb, fb⟩
        case round =>
          obtain ⟨i, b, yv, hi, rfl, hbi, rfl, hyv, mb, bb, fb⟩ := hrel
          by_cases hli : i < n
          · have hy0 : 0 ≤ yv := by omega
            have hyn : yv < n := by omega
            have hyr : rowY n k i = yv.toNat := by unfold rowY; split <;> omega
            have hC := HCOL.out i
            rw [hyr] at hC
            generalize dataCol bs m n k i s = S at hbi mb hC
            have HC := Lib.hid hC
            clear hC hyr
            have hdy0 : decide (0 ≤ yv) = true := by simpa using hy0
            have hdyn : decide (yv < n) = true := by simpa using hyn
            go_wp2_with fail
            with_reducible refine (bmHeight p r n _ _ mb).mono ?_
            rintro e _ ⟨rfl, rfl⟩
            go_wp2_with fail
            go_loopw [7, 11, 12, 13, 14, 15] (fun bi ji _ _ _ _ wy => ∃ (j b : Nat), j ≤ 2 ∧ ji = .int .i64 j ∧ bi = .int .i64 b ∧ ((dataRow bs m X yv.toNat j S).1 < bs.length ∧ b = (dataRow bs m X yv.toNat j S).1 ∨ bs.length ≤ (dataRow bs m X yv.toNat j S).1 ∧ b = bs.length) ∧
              BM wy p r n (dataRow bs m X yv.toNat j S).2 ∧ BitA wy q c bs ∧ Frm (InM r n) w wy) (fun _ ji _ _ _ _ _ => 2 - (intOf ji).toNat)
            case atStart => exact ⟨0, b, Nat.zero_le _, rfl, rfl, hbi, mb, bb, fb⟩
            case round =>
              obtain ⟨j, b, hj, rfl, rfl, hbi, mb, bb, fb⟩ := hrel
              by_cases hlj : j < 2
              · have hR : dataRow bs m X yv.toNat (j + 1) S = dataCell bs m (X - j) yv.toNat (dataRow bs m X yv.toNat j S) := rfl
                have HR := Lib.hid hR
                clear hR
                generalize dataRow bs m X yv.toNat j S = T at mb HR hbi
                have hdj : decide ((j : Int) < 2) = true := by simp; omega
                have hXj : ((X : Int) - j).toNat = X - j := by omega
                have HXJ := Lib.hid hXj
                clear hXj
                go_wp2_with fail
                with_reducible refine (bmGet p r n _ _ _ _ mb (by omega) (by omega) (by omega) (by omega)).mono ?_
                rintro e _ ⟨rfl, rfl⟩
                rw [HXJ.out]
                go_wp2_with fail
                with_reducible refine (isEmpty_any _ _).mono ?_
                rintro e _ ⟨rfl, rfl⟩
                cases e2 : (gget T.2 (X - j) yv.toNat == -1)
                · go_wp2
                  refine ⟨⟨j + 1, b, by omega, by go_num, rfl, ?_, ?_, bb, fb⟩, by simp [intOf]; omega⟩
                  · rw [HR.out, dataCell_no e2]; exact hbi
                  · rw [HR.out, dataCell_no e2]; exact mb
                · have hY := dataCell_yes (bits := bs) (m := m) e2
                  rw [← HR.out] at hY
                  have HY := Lib.hid hY
                  clear hY HR e2
                  by_cases hbl : b < bs.length
                  · obtain rfl : b = T.1 := by omega
                    have hdb : decide ((T.1 : Int) < bs.length) = true := by simp; omega
                    go_wp2_with fail
                    with_reducible refine (bitSize q c _ _ bb).mono ?_
                    rintro e _ ⟨rfl, rfl⟩
                    go_wp2_with fail
                    with_reducible refine (getBit_any q c _ _ _ bb (by omega) (by omega)).mono ?_
                    rintro e _ ⟨rfl, rfl⟩
                    rw [Int.toNat_natCast]
                    generalize bs.getD T.1 false = dbit at HY ⊢
                    go_wp2_with fail
                    with_reducible refine (maskBit_int m _ _ _ hm (by omega) (by omega) (by omega) (by omega)).mono ?_
                    rintro e _ ⟨rfl, rfl⟩
                    rw [HXJ.out]
                    generalize maskBit m (X - j) yv.toNat = mbit at HY ⊢
                    cases mbit
                    · go_wp2_with fail
                      with_reducible refine (bmSetBool p r n _ _ _ dbit _ mb (by omega) (by omega) (by omega) (by omega)).mono ?_
                      rintro e w4 ⟨rfl, mb4, f4⟩
                      go_wp2
                      refine ⟨⟨j + 1, T.1 + 1, by omega, by go_num, by go_num, ?_, ?_, bb.frm f4 hq hc, fb.trans f4⟩, by simp [intOf]; omega⟩
                      · rw [HY.out]; show T.1 + 1 < bs.length ∧ T.1 + 1 = T.1 + 1 ∨ bs.length ≤ T.1 + 1 ∧ T.1 + 1 = bs.length; omega
                      · rw [HY.out]; rw [HXJ.out] at mb4; simpa [bit01] using mb4
                    · go_wp2_with fail
                      with_reducible refine (bmSetBool p r n _ _ _ (!dbit) _ mb (by omega) (by omega) (by omega) (by omega)).mono ?_
                      rintro e w4 ⟨rfl, mb4, f4⟩
                      go_wp2
                      refine ⟨⟨j + 1, T.1 + 1, by omega, by go_num, by go_num, ?_, ?_, bb.frm f4 hq hc, fb.trans f4⟩, by simp [intOf]; omega⟩
                      · rw [HY.out]; show T.1 + 1 < bs.length ∧ T.1 + 1 = T.1 + 1 ∨ bs.length ≤ T.1 + 1 ∧ T.1 + 1 = bs.length; omega
                      · rw [HY.out]; rw [HXJ.out] at mb4; simpa [bit01] using mb4
                  · obtain rfl : b = bs.length := by omega
                    have hdb : decide ((bs.length : Int) < bs.length) = false := by simp
                    have hgf : bs.getD T.1 false = false := by rw [List.getD_eq_getElem?_getD, List.getElem?_eq_none (by omega)]; rfl
                    rw [hgf] at HY
                    clear hgf
                    go_wp2_with fail
                    with_reducible refine (bitSize q c _ _ bb).mono ?_
                    rintro e _ ⟨rfl, rfl⟩
                    go_wp2_with fail
                    with_reducible refine (maskBit_int m _ _ _ hm (by omega) (by omega) (by omega) (by omega)).mono ?_
                    rintro e _ ⟨rfl, rfl⟩
                    rw [HXJ.out]
                    generalize maskBit m (X - j) yv.toNat = mbit at HY ⊢
                    cases mbit
                    · go_wp2_with fail
                      with_reducible refine (bmSetBool p r n _ _ _ false _ mb (by omega) (by omega) (by omega) (by omega)).mono ?_
                      rintro e w4 ⟨rfl, mb4, f4⟩
                      go_wp2
                      refine ⟨⟨j + 1, bs.length, by omega, by go_num, by go_num, ?_, ?_, bb.frm f4 hq hc, fb.trans f4⟩, by simp [intOf]; omega⟩
                      · rw [HY.out]; show T.1 + 1 < bs.length ∧ bs.length = T.1 + 1 ∨ bs.length ≤ T.1 + 1 ∧ bs.length = bs.length; omega
                      · rw [HY.out]; rw [HXJ.out] at mb4; simpa [bit01] using mb4
                    · go_wp2_with fail
                      with_reducible refine (bmSetBool p r n _ _ _ true _ mb (by omega) (by omega) (by omega) (by omega)).mono ?_
                      rintro e w4 ⟨rfl, mb4, f4⟩
                      go_wp2
                      refine ⟨⟨j + 1, bs.length, by omega, by go_num, by go_num, ?_, ?_, bb.frm f4 hq hc, fb.trans f4⟩, by simp [intOf]; omega⟩
                      · rw [HY.out]; show T.1 + 1 < bs.length ∧ bs.length = T.1 + 1 ∨ bs.length ≤ T.1 + 1 ∧ bs.length = bs.length; omega
                      · rw [HY.out]; rw [HXJ.out] at mb4; simpa [bit01] using mb4
              · obtain rfl : j = 2 := by omega
                have hdj : decide (((2 : Nat) : Int) < 2) = false := by decide
                go_wp2
                refine ⟨⟨i + 1, b, _, by omega, rfl, ?_, rfl, by omega, ?_, bb, fb⟩, ?_⟩
                · rw [HC.out]; exact hbi
                · rw [HC.out]; exact mb
                · simp only [intOf]
                  rcases hdv with rfl | rfl <;> omega
          · obtain rfl : i = n := by omega
            rcases hyv with ⟨hpar, rfl, rfl⟩ | ⟨hpar, rfl, rfl⟩
            · have hdy0 : decide (0 ≤ (i : Int) - 1 - i) = false := by simp; omega
              go_wp2_with fail
              have hx := HXN.out
              refine ⟨⟨k + 1, b, _, _, _, by omega, rfl, ?_, rfl, rfl, rfl, .inr ⟨by omega, rfl, by omega⟩, hx.1, ?_, bb, fb⟩, ?_⟩
              · rw [HS.out]; exact hbi
              · rw [HS.out]; exact mb
              · simp only [intOf]; omega
            · have hdy0 : decide (0 ≤ (i : Int)) = true := by simp
              have hdyn : decide ((i : Int) < i) = false := by simp
              go_wp2_with fail
              with_reducible refine (bmHeight p r i _ _ mb).mono ?_
              rintro e _ ⟨rfl, rfl⟩
              go_wp2
              have hx := HXN.out
              refine ⟨⟨k + 1, b, _, _, _, by omega, rfl, ?_, rfl, rfl, rfl, .inl ⟨by omega, rfl, by omega⟩, hx.1, ?_, bb, fb⟩, ?_⟩
              · rw [HS.out]; exact hbi
              · rw [HS.out]; exact mb
              · simp only [intOf]; omega
    · have hxv' : xv = -1 := by omega
      subst hxv'
      obtain rfl : k = (n - 1) / 2 := by omega
      have hd0 : decide ((0 : Int) < -1) = false := by decide
      obtain rfl : b = bs.length := by have := HFULL.out; omega
      go_wp2_with fail
      with_reducible refine (bitSize q c _ _ bb).mono ?_
      rintro e _ ⟨rfl, rfl⟩
      go_wp2
      go_ret
      exact ⟨rfl, mb, fb⟩
end Go.Proofs.YtnpkihobbcglcaaGreatDoor

/- L1: Bits as numbers. No program in sight. -/
namespace Go.Proofs.YtnpkihobbcglcaaGreatDoor
/-- The number that bits say, the first one highest. -/
def nval (l : List Bool) : Nat := l.foldl (fun a b => 2 * a + b.toNat) 0
theorem nval_nil : nval [] = 0 := rfl
theorem nval_from (l : List Bool) : ∀ a : Nat, l.foldl (fun a b => 2 * a + b.toNat) a = a * 2 ^ l.length + nval l := by
  induction l with
  | nil => intro a; simp [nval]
  | cons b l ih =>
    intro a
    unfold nval
    rw [List.foldl_cons, List.foldl_cons, ih, ih]
    simp only [List.length_cons, Nat.pow_succ, Nat.add_mul, Nat.mul_zero, Nat.zero_add]
    rw [Nat.mul_comm (2 ^ l.length) 2, ← Nat.mul_assoc, Nat.mul_comm a 2]
    omega
theorem nval_append (a b : List Bool) : nval (a ++ b) = nval a * 2 ^ b.length + nval b := by
  unfold nval
  rw [List.foldl_append, nval_from]
  rfl
theorem nval_one (b : Bool) : nval [b] = b.toNat := by cases b <;> rfl
theorem nval_push (a : List Bool) (b : Bool) : nval (a ++ [b]) = 2 * nval a + b.toNat := by
  rw [nval_append, nval_one]; simp only [List.length_singleton, Nat.pow_one]; omega
theorem nval_lt (l : List Bool) : nval l < 2 ^ l.length := by
  induction l with
  | nil => decide
  | cons b l ih =>
    have : nval (b :: l) = nval ([b] ++ l) := rfl
    rw [this, nval_append, nval_one, List.length_cons, Nat.pow_succ]
    cases b <;> simp <;> omega
theorem nval_topk (v n : Nat) : ∀ k, k ≤ n → nval (topBits v n k) = v / 2 ^ (n - k) % 2 ^ k := by
  intro k
  induction k with
  | zero => intro _; simp [topBits, nval, Nat.mod_one]
  | succ k ih =>
    intro hk
    rw [topBits_succ, nval_push, ih (by omega)]
    have h1 : n - k = (n - (k + 1)) + 1 := by omega
    have h2 : n - 1 - k = n - (k + 1) := by omega
    rw [h1, h2, Nat.pow_succ, ← Nat.div_div_eq_div_mul, Nat.pow_succ, Nat.mul_comm (2 ^ k) 2, Nat.mod_mul, Nat.testBit_eq_decide_div_mod_eq]
    generalize v / 2 ^ (n - (k + 1)) = q
    have h3 : (decide (q % 2 = 1)).toNat = q % 2 := by
      rcases Nat.mod_two_eq_zero_or_one q with h | h <;> simp [h]
    rw [h3]
    omega
theorem nval_top (v n : Nat) (h : v < 2 ^ n) : nval (topBits v n n) = v := by
  rw [nval_topk v n n (Nat.le_refl _), Nat.sub_self, Nat.pow_zero, Nat.div_one, Nat.mod_eq_of_lt h]

/-- So many bits from a place on, as a number. -/
def rd (bs : List Bool) (p n : Nat) : Nat := nval ((bs.drop p).take n)
theorem take_succ_get (bs : List Bool) (p j : Nat) (h : p + j < bs.length) : (bs.drop p).take (j + 1) = (bs.drop p).take j ++ [bs.getD (p + j) false] := by
  rw [List.take_add_one, List.getElem?_drop, List.getElem?_eq_getElem h, List.getD_eq_getElem?_getD, List.getElem?_eq_getElem h]
  rfl
theorem rd_succ (bs : List Bool) (p j : Nat) (h : p + j < bs.length) : rd bs p (j + 1) = 2 * rd bs p j + (bs.getD (p + j) false).toNat := by
  unfold rd
  rw [take_succ_get bs p j h, nval_push]
theorem rd_zero (bs : List Bool) (p : Nat) : rd bs p 0 = 0 := by simp [rd, nval]
theorem rd_add (bs : List Bool) (p a b : Nat) (h : p + a + b ≤ bs.length) : rd bs p (a + b) = rd bs p a * 2 ^ b + rd bs (p + a) b := by
  unfold rd
  rw [List.take_add, nval_append, List.drop_drop]
  have : (List.take b (List.drop (p + a) bs)).length = b := by simp; omega
  rw [this]
theorem rd_lt (bs : List Bool) (p n : Nat) : rd bs p n < 2 ^ n := by
  unfold rd
  refine Nat.lt_of_lt_of_le (nval_lt _) (Nat.pow_le_pow_right (by omega) ?_)
  simp; omega
theorem rd_part (bs : List Bool) (o : Nat) : ∀ j, j ≤ 8 → o + j ≤ bs.length → partByte bs o j = rd bs o j * 2 ^ (8 - j) := by
  intro j
  induction j with
  | zero => intro _ _; simp [partByte, rd_zero]
  | succ j ih =>
    intro hj hl
    have h1 := ih (by omega) (by omega)
    rw [rd_succ bs o j (by omega)]
    unfold partByte
    have e : 8 - j = (8 - (j + 1)) + 1 := by omega
    have e2 : 7 - j = 8 - (j + 1) := by omega
    rw [h1, e2, e, Nat.pow_succ]
    generalize rd bs o j = q
    have hp : 0 < 2 ^ (8 - (j + 1)) := Nat.pow_pos (by omega)
    cases bs.getD (o + j) false
    · simp only [Bool.toNat_false]
      generalize 2 ^ (8 - (j + 1)) = m
      rw [Nat.add_zero, Nat.mul_comm m 2, ← Nat.mul_assoc, Nat.mul_comm q 2]
      rfl
    · have := Nat.two_pow_add_eq_or_of_lt (b := 2 ^ (8 - (j + 1))) (i := 8 - (j + 1) + 1) (by rw [Nat.pow_succ]; omega) q
      rw [Nat.pow_succ] at this
      rw [if_pos rfl, Nat.mul_comm q, ← this]
      simp only [Bool.toNat_true]
      generalize 2 ^ (8 - (j + 1)) = m
      rw [Nat.add_mul, Nat.one_mul, Nat.mul_assoc 2 q m, Nat.mul_comm q m, Nat.mul_comm m 2, Nat.mul_assoc]
theorem rd_byte (bs : List Bool) (o : Nat) (h : o + 8 ≤ bs.length) : byteAt bs o = rd bs o 8 := by
  have := rd_part bs o 8 (Nat.le_refl _) h
  unfold byteAt
  rw [this]; simp
/-- A part of a byte. -/
theorem rd_mid (bs : List Bool) (o a b : Nat) (hab : a + b ≤ 8) (h : o + 8 ≤ bs.length) : rd bs (o + a) b = rd bs o 8 / 2 ^ (8 - a - b) % 2 ^ b := by
  have h1 := rd_add bs o (a + b) (8 - a - b) (by omega)
  rw [show a + b + (8 - a - b) = 8 by omega] at h1
  have h2 := rd_add bs o a b (by omega)
  have h3 := rd_lt bs (o + (a + b)) (8 - a - b)
  have h4 := rd_lt bs (o + a) b
  rw [h1, Nat.mul_comm, Nat.mul_add_div (Nat.pow_pos (by omega)), Nat.div_eq_of_lt h3, Nat.add_zero, h2, Nat.mul_comm, Nat.mul_add_mod, Nat.mod_eq_of_lt h4]
theorem rd_front (a c : List Bool) (p : Nat) (hp : p = a.length) (n : Nat) : rd (a ++ c) p n = nval (c.take n) := by
  subst hp; simp [rd]
theorem rd_top (a c : List Bool) (p v n : Nat) (hp : p = a.length) (hv : v < 2 ^ n) : rd (a ++ (topBits v n n ++ c)) p n = v := by
  rw [rd_front _ _ _ hp, List.take_append_of_le_length (by rw [topBits_length]; exact Nat.le_refl _), List.take_of_length_le (by rw [topBits_length]; exact Nat.le_refl _), nval_top v n hv]
end Go.Proofs.YtnpkihobbcglcaaGreatDoor
