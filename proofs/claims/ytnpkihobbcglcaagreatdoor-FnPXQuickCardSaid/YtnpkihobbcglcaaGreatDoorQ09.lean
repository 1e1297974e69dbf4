/- The fixed patterns laid into a matrix, 2: separators. The fixed patterns laid into a matrix, 3: finders with separators; timing. The fixed patterns laid into a matrix, 4: timing, alignment. The fixed patterns laid into a matrix, 5: alignment patterns; all of them. The versions: what stands in memory; the small methods. -/
import Derived.Test.YtnpkihobbcglcaaGreatDoorQ08
set_option linter.unusedSimpArgs false
set_option linter.unusedVariables false

/- M4: The fixed patterns laid into a matrix, 2: separators. -/
namespace Go.Proofs.YtnpkihobbcglcaaGreatDoor
open Go Go.RowKit

set_option maxHeartbeats 2000000 in
theorem embedHsep (p r n : Nat) (g : Grid) (X Y : Int) (w : World) (h : BM w p r n g) (hX0 : 0 ≤ X) (hY0 : 0 ≤ Y) (hX : X + 8 ≤ n) (hY : Y < n) (hok : hsepOk X.toNat Y.toNat g = true) :
    Calls Tryz.prog 175 #[.int .i64 X, .int .i64 Y, .pointer (some ⟨p, 0, none⟩)] w fun e w' => e = .returned .nilIface ∧ BM w' p r n (hsepG X.toNat Y.toNat 8 g) ∧ Frm (InM r n) w w' := by
  obtain ⟨X, rfl⟩ := Int.eq_ofNat_of_zero_le hX0
  obtain ⟨Y, rfl⟩ := Int.eq_ofNat_of_zero_le hY0
  simp only [Int.toNat_natCast] at hok ⊢
  have hs := h.small
  have H := Lib.hid h
  have HOK := Lib.hid hok
  clear h hX0 hY0 hok
  go_enter Tryz.func175, Tryz.ntmps175
  go_wp2
  go_loopw [7] (fun i wr => ∃ k : Nat, k ≤ 8 ∧ i = .int .i64 k ∧ BM wr p r n (hsepG X Y k g) ∧ Frm (InM r n) w wr) (fun i _ => 8 - (intOf i).toNat)
  case atStart => exact ⟨0, Nat.zero_le _, rfl, H.out, Frm.refl _ _⟩
  case round =>
    obtain ⟨k, hk, rfl, hb, hfr⟩ := hrel
    have HB := Lib.hid hb
    have HFR := Lib.hid hfr
    clear hb hfr
    by_cases hlt : k < 8
    · have he : gget (hsepG X Y k g) (X + k) Y = -1 := by
        have := List.all_eq_true.1 HOK.out k (List.mem_range.2 hlt)
        simpa using this
      go_wp2_with fail
      refine (bmGet p r n _ _ _ _ HB.out (by omega) (by omega) (by omega) (by omega)).mono ?_
      rintro e w1 ⟨rfl, rfl⟩
      rw [show ((X : Int) + k).toNat = X + k by omega, show ((Y : Int)).toNat = Y by omega, he]
      go_wp2_with (first | (go_at_call 177; refine (bmSet p r n _ _ _ _ _ HB.out (by omega) (by omega) (by omega) (by omega)).mono ?_; rintro e w2 ⟨rfl, h1, h2⟩) | go_in)
      refine ⟨⟨k + 1, by omega, by go_num, ?_, HFR.out.trans h2⟩, by simp [intOf]; omega⟩
      rw [show ((X : Int) + k).toNat = X + k by omega, show ((Y : Int)).toNat = Y by omega] at h1
      exact h1
    · obtain rfl : k = 8 := by omega
      go_wp2
      go_ret
      exact ⟨rfl, HB.out, HFR.out⟩
set_option maxHeartbeats 2000000 in
theorem embedVsep (p r n : Nat) (g : Grid) (X Y : Int) (w : World) (h : BM w p r n g) (hX0 : 0 ≤ X) (hY0 : 0 ≤ Y) (hX : X < n) (hY : Y + 7 ≤ n) (hok : vsepOk X.toNat Y.toNat g = true) :
    Calls Tryz.prog 176 #[.int .i64 X, .int .i64 Y, .pointer (some ⟨p, 0, none⟩)] w fun e w' => e = .returned .nilIface ∧ BM w' p r n (vsepG X.toNat Y.toNat 7 g) ∧ Frm (InM r n) w w' := by
  obtain ⟨X, rfl⟩ := Int.eq_ofNat_of_zero_le hX0
  obtain ⟨Y, rfl⟩ := Int.eq_ofNat_of_zero_le hY0
  simp only [Int.toNat_natCast] at hok ⊢
  have hs := h.small
  have H := Lib.hid h
  have HOK := Lib.hid hok
  clear h hX0 hY0 hok
  go_enter Tryz.func176, Tryz.ntmps176
  go_wp2
  go_loopw [7] (fun i wr => ∃ k : Nat, k ≤ 7 ∧ i = .int .i64 k ∧ BM wr p r n (vsepG X Y k g) ∧ Frm (InM r n) w wr) (fun i _ => 7 - (intOf i).toNat)
  case atStart => exact ⟨0, Nat.zero_le _, rfl, H.out, Frm.refl _ _⟩
  case round =>
    obtain ⟨k, hk, rfl, hb, hfr⟩ := hrel
    have HB := Lib.hid hb
    have HFR := Lib.hid hfr
    clear hb hfr
    by_cases hlt : k < 7
    · have he : gget (vsepG X Y k g) X (Y + k) = -1 := by
        have := List.all_eq_true.1 HOK.out k (List.mem_range.2 hlt)
        simpa using this
      go_wp2_with fail
      refine (bmGet p r n _ _ _ _ HB.out (by omega) (by omega) (by omega) (by omega)).mono ?_
      rintro e w1 ⟨rfl, rfl⟩
      rw [show ((X : Int)).toNat = X by omega, show ((Y : Int) + k).toNat = Y + k by omega, he]
      go_wp2_with (first | (go_at_call 177; refine (bmSet p r n _ _ _ _ _ HB.out (by omega) (by omega) (by omega) (by omega)).mono ?_; rintro e w2 ⟨rfl, h1, h2⟩) | go_in)
      refine ⟨⟨k + 1, by omega, by go_num, ?_, HFR.out.trans h2⟩, by simp [intOf]; omega⟩
      rw [show ((X : Int)).toNat = X by omega, show ((Y : Int) + k).toNat = Y + k by omega] at h1
      exact h1
    · obtain rfl : k = 7 := by omega
      go_wp2
      go_ret
      exact ⟨rfl, HB.out, HFR.out⟩

theorem embedDot (p r n : Nat) (g : Grid) (w : World) (h : BM w p r n g) (hn : 21 ≤ n) (hok : (gget g 8 (n - 8) == 0) = false) :
    Calls Tryz.prog 136 #[.pointer (some ⟨p, 0, none⟩)] w fun e w' => e = .returned .nilIface ∧ BM w' p r n (gset g 8 (n - 8) 1) ∧ Frm (InM r n) w w' := by
  have hs := h.small
  have c2 := h.obj.cell 2
  simp at c2
  have H := Lib.hid h
  clear h
  go_enter Tryz.func136, Tryz.ntmps136
  go_wp2_with (first | (go_at_call 177; refine (bmSet p r n _ _ _ _ _ H.out (by omega) (by omega) (by omega) (by omega)).mono ?_; rintro e w2 ⟨rfl, h1, h2⟩) | (go_at_call 21; refine (bmGet p r n _ _ _ _ H.out (by omega) (by omega) (by omega) (by omega)).mono ?_; rintro e w1 ⟨rfl, rfl⟩; rw [show ((8 : Int)).toNat = 8 by rfl, show ((n : Int) - 8).toNat = n - 8 by omega]) | go_in)
  go_ret
  rw [show ((8 : Int)).toNat = 8 by rfl, show ((n : Int) - 8).toNat = n - 8 by omega] at h1
  exact ⟨rfl, h1, h2⟩
end Go.Proofs.YtnpkihobbcglcaaGreatDoor

/- M5: The fixed patterns laid into a matrix, 3: finders with separators; timing. -/
namespace Go.Proofs.YtnpkihobbcglcaaGreatDoor
open Go Go.RowKit

theorem bmWidth (p r n : Nat) (g : Grid) (w : World) (h : BM w p r n g) : Calls Tryz.prog 20 #[.pointer (some ⟨p, 0, none⟩)] w fun e w' => e = .returned (.int .i64 n) ∧ w = w' := by
  have c1 := h.obj.cell 1
  simp at c1
  clear h
  go_enter Tryz.func20, Tryz.ntmps20
  go_wp2
  go_ret
  exact ⟨rfl, rfl⟩
theorem bmHeight (p r n : Nat) (g : Grid) (w : World) (h : BM w p r n g) : Calls Tryz.prog 19 #[.pointer (some ⟨p, 0, none⟩)] w fun e w' => e = .returned (.int .i64 n) ∧ w = w' := by
  have c1 := h.obj.cell 2
  simp at c1
  clear h
  go_enter Tryz.func19, Tryz.ntmps19
  go_wp2
  go_ret
  exact ⟨rfl, rfl⟩

set_option maxRecDepth 100000 in
set_option maxHeartbeats 400000 in
theorem embedFinders (p r n : Nat) (g : Grid) (w : World) (h : BM w p r n g) (hn : 21 ≤ n) (hok : findersOk n g = true) :
    Calls Tryz.prog 135 #[.pointer (some ⟨p, 0, none⟩)] w fun e w' => e = .returned .nilIface ∧ BM w' p r n (v3G n g) ∧ Frm (InM r n) w w' := by
  have hs := h.small
  simp only [findersOk, Bool.and_eq_true] at hok
  obtain ⟨⟨⟨⟨⟨o1, o2⟩, o3⟩, o4⟩, o5⟩, o6⟩ := hok
  have O1 := Lib.hid (show hsepOk (Int.toNat 0) (Int.toNat 7) (f3G n g) = true from o1)
  have O2 := Lib.hid (show hsepOk (n - 8) (Int.toNat 7) (h1G n g) = true from o2)
  have O3 := Lib.hid (show hsepOk (Int.toNat 0) (n - 8) (h2G n g) = true from o3)
  have O4 := Lib.hid (show vsepOk (Int.toNat 7) (Int.toNat 0) (h3G n g) = true from o4)
  have O5 := Lib.hid (show vsepOk (n - 8) (Int.toNat 0) (v1G n g) = true from o5)
  have O6 := Lib.hid (show vsepOk (Int.toNat 7) (n - 7) (v2G n g) = true from o6)
  clear o1 o2 o3 o4 o5 o6
  have n7 : ((n : Int) - 7).toNat = n - 7 := by omega
  have n8 : ((n : Int) - 8).toNat = n - 8 := by omega
  have N7 := Lib.hid n7
  have N8 := Lib.hid n8
  clear n7 n8
  go_enter Tryz.func135, Tryz.ntmps135
  go_wp2_with fail
  with_reducible refine (pdp_any w).mono ?_
  rintro e w1 ⟨⟨tb, rfl, htb1, htb2, htab⟩, hk⟩
  obtain ⟨b, _, hb2, _⟩ := htab 0 (by simp)
  have b1 := h.kept hk
  have F1 : Frm (InM r n) w w1 := hk.toFrm
  clear hk htab
  have hb2' : w1.cell? ⟨tb, 0, none⟩ = some (.slice (some ⟨b, 0, none⟩) 7 7) := hb2
  clear hb2
  go_wp2_with fail
  with_reducible refine (embedPdp p r n _ _ _ _ b1 (by omega) (by omega) (by omega) (by omega)).mono ?_
  rintro e w2 ⟨rfl, b2, F2⟩
  go_wp2_with fail
  with_reducible refine (bmWidth p r n _ _ b2).mono ?_
  rintro e _ ⟨rfl, rfl⟩
  go_wp2_with fail
  with_reducible refine (embedPdp p r n _ _ _ _ b2 (by omega) (by omega) (by omega) (by omega)).mono ?_
  rintro e w3 ⟨rfl, b3, F3⟩
  go_wp2_with fail
  with_reducible refine (bmWidth p r n _ _ b3).mono ?_
  rintro e _ ⟨rfl, rfl⟩
  go_wp2_with fail
  with_reducible refine (embedPdp p r n _ _ _ _ b3 (by omega) (by omega) (by omega) (by omega)).mono ?_
  rintro e w4 ⟨rfl, b4, F4⟩
  rw [N7.out] at b4
  have b4' : BM w4 p r n (f3G n g) := b4
  clear b4
  go_wp2_with fail
  with_reducible refine (embedHsep p r n _ _ _ _ b4' (by omega) (by omega) (by omega) (by omega) (by exact O1.out)).mono ?_
  rintro e w5 ⟨rfl, b5, F5⟩
  have b5' : BM w5 p r n (h1G n g) := b5
  clear b5
  go_wp2_with fail
  with_reducible refine (bmWidth p r n _ _ b5').mono ?_
  rintro e _ ⟨rfl, rfl⟩
  go_wp2_with fail
  with_reducible refine (embedHsep p r n _ _ _ _ b5' (by omega) (by omega) (by omega) (by omega) (by rw [N8.out]; exact O2.out)).mono ?_
  rintro e w6 ⟨rfl, b6, F6⟩
  rw [N8.out] at b6
  have b6' : BM w6 p r n (h2G n g) := b6
  clear b6
  go_wp2_with fail
  with_reducible refine (bmWidth p r n _ _ b6').mono ?_
  rintro e _ ⟨rfl, rfl⟩
  go_wp2_with fail
  with_reducible refine (embedHsep p r n _ _ _ _ b6' (by omega) (by omega) (by omega) (by omega) (by rw [N8.out]; exact O3.out)).mono ?_
  rintro e w7 ⟨rfl, b7, F7⟩
  rw [N8.out] at b7
  have b7' : BM w7 p r n (h3G n g) := b7
  clear b7
  go_wp2_with fail
  with_reducible refine (embedVsep p r n _ _ _ _ b7' (by omega) (by omega) (by omega) (by omega) (by exact O4.out)).mono ?_
  rintro e w8 ⟨rfl, b8, F8⟩
  have b8' : BM w8 p r n (v1G n g) := b8
  clear b8
  go_wp2_with fail
  with_reducible refine (bmHeight p r n _ _ b8').mono ?_
  rintro e _ ⟨rfl, rfl⟩
  go_wp2_with fail
  have e8 : ((n : Int) - 7 - 1).toNat = n - 8 := by omega
  have E8 := Lib.hid e8
  clear e8
  with_reducible refine (embedVsep p r n _ _ _ _ b8' (by omega) (by omega) (by omega) (by omega) (by rw [E8.out]; exact O5.out)).mono ?_
  rintro e w9 ⟨rfl, b9, F9⟩
  rw [E8.out] at b9
  have b9' : BM w9 p r n (v2G n g) := b9
  clear b9
  go_wp2_with fail
  with_reducible refine (bmHeight p r n _ _ b9').mono ?_
  rintro e _ ⟨rfl, rfl⟩
  go_wp2_with fail
  with_reducible refine (embedVsep p r n _ _ _ _ b9' (by omega) (by omega) (by omega) (by omega) (by rw [N7.out]; exact O6.out)).mono ?_
  rintro e w10 ⟨rfl, b10, F10⟩
  rw [N7.out] at b10
  have b10' : BM w10 p r n (v3G n g) := b10
  clear b10
  go_wp2
  go_ret
  exact ⟨rfl, b10', (((((((((F1.trans F2).trans F3).trans F4).trans F5).trans F6).trans F7).trans F8).trans F9).trans F10)⟩
end Go.Proofs.YtnpkihobbcglcaaGreatDoor

/- M6: The fixed patterns laid into a matrix, 4: timing, alignment. -/
namespace Go.Proofs.YtnpkihobbcglcaaGreatDoor
open Go Go.RowKit

theorem isEmpty_any (v : Int) (w : World) : Calls Tryz.prog 143 #[.int .i8 v] w fun e w' => e = .returned (.bool (v == -1)) ∧ w = w' := by
  go_enter Tryz.func143, Tryz.ntmps143
  go_wp2
  go_ret
  exact ⟨rfl, rfl⟩

set_option maxRecDepth 100000 in
set_option maxHeartbeats 2000000 in
theorem embedTiming (p r n : Nat) (g : Grid) (w : World) (h : BM w p r n g) (hn : 21 ≤ n) :
    Calls Tryz.prog 138 #[.pointer (some ⟨p, 0, none⟩)] w fun e w' => e = .returned (.tuple #[]) ∧ BM w' p r n (timG (n - 16) g) ∧ Frm (InM r n) w w' := by
  have hs := h.small
  go_enter Tryz.func138, Tryz.ntmps138
  go_wp2
  go_loopw [2, 3] (fun i _ wr => ∃ k : Nat, k ≤ n - 16 ∧ i = .int .i64 ((8 : Int) + k) ∧ BM wr p r n (timG k g) ∧ Frm (InM r n) w wr) (fun i _ _ => n - (intOf i).toNat)
  case atStart => exact ⟨0, Nat.zero_le _, by simp, h, Frm.refl _ _⟩
  case round =>
    obtain ⟨k, hk, rfl, hb, hfr⟩ := hrel
    clear h
    by_cases hlt : k < n - 16
    · have HT := Lib.hid (show timG (k + 1) g = timStep (8 + k) (timG k g) from rfl)
      generalize timG k g = G at hb HT
      have e8 : ((8 : Int) + k).toNat = 8 + k := by omega
      have E8 := Lib.hid e8
      clear e8
      go_wp2_with fail
      with_reducible refine (bmWidth p r n _ _ hb).mono ?_
      rintro e _ ⟨rfl, rfl⟩
      go_wp2_with fail
      with_reducible refine (bmGet p r n _ _ _ _ hb (by omega) (by omega) (by omega) (by omega)).mono ?_
      rintro e _ ⟨rfl, rfl⟩
      have ebit : ((8 : Int) + k + 1) % 2 = (((8 + k + 1) % 2 : Nat) : Int) := by omega
      have EB := Lib.hid ebit
      clear ebit
      cases e1 : (gget G (8 + k) 6 == -1)
      · have E1 := Lib.hid e1
        clear e1
        go_wp2_with fail
        with_reducible refine (isEmpty_any _ _).mono ?_
        rintro e _ ⟨rfl, rfl⟩
        rw [E1.out]
        go_wp2_with fail
        with_reducible refine (bmGet p r n _ _ _ _ hb (by omega) (by omega) (by omega) (by omega)).mono ?_
        rintro e _ ⟨rfl, rfl⟩
        cases e2 : (gget G 6 (8 + k) == -1)
        · have E2 := Lib.hid e2
          clear e2
          go_wp2_with fail
          with_reducible refine (isEmpty_any _ _).mono ?_
          rintro e _ ⟨rfl, rfl⟩
          rw [E2.out]
          go_wp2
          refine ⟨⟨k + 1, by omega, by go_num, ?_, hfr⟩, by simp [intOf]; omega⟩
          rw [HT.out, timStep, setIf_no E1.out, setIf_no E2.out]; exact hb
        · have E2 := Lib.hid e2
          clear e2
          go_wp2_with fail
          with_reducible refine (isEmpty_any _ _).mono ?_
          rintro e _ ⟨rfl, rfl⟩
          rw [E2.out]
          go_wp2_with fail
          with_reducible refine (bmSet p r n _ _ _ _ _ hb (by omega) (by omega) (by omega) (by omega)).mono ?_
          rintro e w2 ⟨rfl, h1, h2⟩
          go_wp2
          refine ⟨⟨k + 1, by omega, by go_num, ?_, hfr.trans h2⟩, by simp [intOf]; omega⟩
          rw [HT.out, timStep, setIf_no E1.out, setIf_yes E2.out]
          rw [E8.out, EB.out, show (6 : Int).toNat = 6 from rfl] at h1; exact h1
      · have E1 := Lib.hid e1
        clear e1
        go_wp2_with fail
        with_reducible refine (isEmpty_any _ _).mono ?_
        rintro e _ ⟨rfl, rfl⟩
        rw [E1.out]
        go_wp2_with fail
        with_reducible refine (bmSet p r n _ _ _ _ _ hb (by omega) (by omega) (by omega) (by omega)).mono ?_
        rintro e w2 ⟨rfl, h1, h2⟩
        rw [E8.out, EB.out] at h1
        have h1' : BM w2 p r n (gset G (8 + k) 6 ((8 + k + 1) % 2 : Nat)) := h1
        clear h1
        go_wp2_with fail
        with_reducible refine (bmGet p r n _ _ _ _ h1' (by omega) (by omega) (by omega) (by omega)).mono ?_
        rintro e _ ⟨rfl, rfl⟩
        generalize hG1 : gset G (8 + k) 6 ((8 + k + 1) % 2 : Nat) = G1 at h1'
        have HG1 := Lib.hid hG1
        clear hG1
        cases e2 : (gget G1 6 (8 + k) == -1)
        · have E2 := Lib.hid e2
          clear e2
          go_wp2_with fail
          with_reducible refine (isEmpty_any _ _).mono ?_
          rintro e _ ⟨rfl, rfl⟩
          rw [E2.out]
          go_wp2
          refine ⟨⟨k + 1, by omega, by go_num, ?_, hfr.trans h2⟩, by simp [intOf]; omega⟩
          rw [HT.out, timStep, setIf_yes E1.out, HG1.out, setIf_no E2.out]; exact h1'
        · have E2 := Lib.hid e2
          clear e2
          go_wp2_with fail
          with_reducible refine (isEmpty_any _ _).mono ?_
          rintro e _ ⟨rfl, rfl⟩
          rw [E2.out]
          go_wp2_with fail
          with_reducible refine (bmSet p r n _ _ _ _ _ h1' (by omega) (by omega) (by omega) (by omega)).mono ?_
          rintro e w3 ⟨rfl, h3, h4⟩
          go_wp2
          refine ⟨⟨k + 1, by omega, by go_num, ?_, (hfr.trans h2).trans h4⟩, by simp [intOf]; omega⟩
          rw [HT.out, timStep, setIf_yes E1.out, HG1.out, setIf_yes E2.out]
          rw [E8.out, EB.out, show (6 : Int).toNat = 6 from rfl] at h3; exact h3
    · have e8 : k = n - 16 := by omega
      have E8 := Lib.hid e8
      clear e8
      go_wp2_with fail
      with_reducible refine (bmWidth p r n _ _ hb).mono ?_
      rintro e _ ⟨rfl, rfl⟩
      go_wp2
      go_end0
      refine ⟨rfl, ?_, hfr⟩
      rw [← E8.out]; exact hb
end Go.Proofs.YtnpkihobbcglcaaGreatDoor

/- M7: The fixed patterns laid into a matrix, 5: alignment patterns; all of them. -/
namespace Go.Proofs.YtnpkihobbcglcaaGreatDoor
open Go Go.RowKit

theorem centers_ok : ∀ v, v < 8 → ∀ a, a < 7 → (centers v).getD a 0 = -1 ∨ v = 0 ∨ (6 ≤ (centers v).getD a 0 ∧ (centers v).getD a 0 + 7 ≤ dim v) := by decide
theorem centers_tab : ∀ v, v < 8 → 2 ≤ v → centers v = pacRows.getD (v - 1) [] ∧ (centers v).length = 7 ∧ v - 1 ∈ [1, 2, 3, 4, 5, 6] := by decide

theorem versionNumber (pv : Nat) (v : Int) (w : World) (h : w.cell? ⟨pv, 0, none⟩ = some (.int .i64 v)) : Calls Tryz.prog 13 #[.pointer (some ⟨pv, 0, none⟩)] w fun e w' => e = .returned (.int .i64 v) ∧ w = w' := by
  go_enter Tryz.func13, Tryz.ntmps13
  go_wp2
  go_ret
  exact ⟨rfl, rfl⟩

set_option maxRecDepth 100000 in
set_option maxHeartbeats 4000000 in
theorem embedAlign (pv p r v : Nat) (g : Grid) (w : World) (h : BM w p r (dim v) g) (h1 : 1 ≤ v) (h7 : v ≤ 7) (hv : w.cell? ⟨pv, 0, none⟩ = some (.int .i64 v)) :
    Calls Tryz.prog 137 #[.pointer (some ⟨pv, 0, none⟩), .pointer (some ⟨p, 0, none⟩)] w fun e w' => e = .returned (.tuple #[]) ∧ BM w' p r (dim v) (algG v 7 g) ∧ Frm (InM r (dim v)) w w' := by
  by_cases hv1 : v = 1
  · subst hv1
    have hb1 : decide (((1 : Nat) : Int) < 2) = true := by decide
    go_enter Tryz.func137, Tryz.ntmps137
    go_wp2_with (go_at_call 13; refine (versionNumber _ _ _ hv).mono ?_; rintro e _ ⟨rfl, rfl⟩)
    refine bodyPost_ret (results_none rfl _ _ _) rfl ?_
    exact ⟨rfl, h, Frm.refl _ _⟩
  · have h2 : 2 ≤ v := by omega
    have hs := h.small
    have hb1 : decide ((v : Int) < 2) = false := by simp; omega
    obtain ⟨ct, cl, ca⟩ := centers_tab v (by omega) h2
    have hok := centers_ok v (by omega)
    have CT := Lib.hid ct
    have CL := Lib.hid cl
    have OK := Lib.hid hok
    clear ct cl hok hv1
    go_enter Tryz.func137, Tryz.ntmps137
    go_wp2_with fail
    with_reducible refine (versionNumber _ _ _ hv).mono ?_
    rintro e _ ⟨rfl, rfl⟩
    go_wp2_with fail
    with_reducible refine (versionNumber _ _ _ hv).mono ?_
    rintro e _ ⟨rfl, rfl⟩
    go_wp2_with fail
    with_reducible refine (pac_any _).mono ?_
    rintro e w1 ⟨⟨tb, rfl, htb1, htb2, htab⟩, hk⟩
    obtain ⟨b, hb, hb2, hb3⟩ := htab (v - 1) ca
    rw [← CT.out, CL.out] at hb2
    rw [← CT.out] at hb3
    have m1 := h.kept hk
    have hin := h.notIn hb
    have F1 : Frm (InM r (dim v)) w w1 := hk.toFrm
    have hq1 : (v : Int) - 1 < 40 := by omega
    have hq0 : (0 : Int) ≤ (v : Int) - 1 := by omega
    clear htab hk
    have HIN := Lib.hid hin
    clear hin
    go_wp2
    go_loopw [22, 7, 30, 9] (fun i _ _ _ wr => ∃ k : Nat, k ≤ 7 ∧ i = .int .i64 k ∧ BM wr p r (dim v) (algG v k g) ∧ Frm (InM r (dim v)) w wr ∧ Ints wr b .i64 3 (centers v)) (fun i _ _ _ _ => 7 - (intOf i).toNat)
    case atStart => exact ⟨0, Nat.zero_le _, rfl, m1, F1, hb3⟩
    case round =>
      obtain ⟨k, hk, rfl, mb, hfr, hi⟩ := hrel
      clear m1 F1 hb3 hb2
      by_cases hlt : k < 7
      · have hc := hi.cell k (by rw [CL.out]; exact hlt)
        have HA := Lib.hid (show algG v (k + 1) g = if 0 ≤ (centers v).getD k 0 then algRow v ((centers v).getD k 0) 7 (algG v k g) else algG v k g from rfl)
        have hyk := OK.out k hlt
        generalize (centers v).getD k 0 = y at hc HA hyk
        generalize algG v k g = G at mb HA
        have hd7 : decide ((k : Int) < 7) = true := by simp; omega
        by_cases hy : 0 ≤ y
        · have hd0 : decide (y < 0) = false := by simp; omega
          have hy2 : 6 ≤ y ∧ y + 7 ≤ dim v := by omega
          have HY2 := Lib.hid hyk
          clear hyk
          go_wp2
          go_loopw [30, 9] (fun j _ wx => ∃ m : Nat, m ≤ 7 ∧ j = .int .i64 m ∧ BM wx p r (dim v) (algRow v y m G) ∧ Frm (InM r (dim v)) w wx ∧ Ints wx b .i64 3 (centers v)) (fun j _ _ => 7 - (intOf j).toNat)
          case atStart => exact ⟨0, Nat.zero_le _, rfl, mb, hfr, hi⟩
          case round =>
            obtain ⟨m, hm, rfl, mb, hfr, hi⟩ := hrel
            by_cases hlm : m < 7
            · have hc2 := hi.cell m (by rw [CL.out]; exact hlm)
              have HR := Lib.hid (show algRow v y (m + 1) G = algCell ((centers v).getD m 0) y (algRow v y m G) from rfl)
              have hxk := OK.out m hlm
              generalize (centers v).getD m 0 = x at hc2 HR hxk
              generalize algRow v y m G = G2 at mb HR
              by_cases hx : 0 ≤ x
              · have hx2 : 6 ≤ x ∧ x + 7 ≤ dim v := by omega
                have HX2 := Lib.hid hxk
                clear hxk
                go_wp2_with fail
                with_reducible refine (bmGet p r (dim v) _ _ _ _ mb (by omega) (by omega) (by omega) (by omega)).mono ?_
                rintro e _ ⟨rfl, rfl⟩
                cases e2 : (gget G2 x.toNat y.toNat == -1)
                · have E2 := Lib.hid e2
                  clear e2
                  go_wp2_with fail
                  with_reducible refine (isEmpty_any _ _).mono ?_
                  rintro e _ ⟨rfl, rfl⟩
                  rw [E2.out]
                  go_wp2
                  refine ⟨⟨m + 1, by omega, by go_num, ?_, hfr, hi⟩, by simp [intOf]; omega⟩
                  rw [HR.out, algCell, if_neg (fun h => by have := E2.out; simp [h.2] at this)]; exact mb
                · have E2 := Lib.hid e2
                  clear e2
                  go_wp2_with fail
                  with_reducible refine (isEmpty_any _ _).mono ?_
                  rintro e _ ⟨rfl, rfl⟩
                  rw [E2.out]
                  go_wp2_with fail
                  with_reducible refine (embedPap p r (dim v) _ _ _ _ mb (by omega) (by omega) (by omega) (by omega)).mono ?_
                  rintro e w3 ⟨rfl, m3, f3⟩
                  go_wp2
                  refine ⟨⟨m + 1, by omega, by go_num, ?_, hfr.trans f3, hi.frm f3 HIN.out⟩, by simp [intOf]; omega⟩
                  rw [HR.out, algCell, if_pos ⟨hx, by simpa using E2.out⟩]; exact m3
              · go_wp2
                refine ⟨⟨m + 1, by omega, by go_num, ?_, hfr, hi⟩, by simp [intOf]; omega⟩
                rw [HR.out, algCell, if_neg (fun h => hx h.1)]; exact mb
            · obtain rfl : m = 7 := by omega
              go_wp2
              refine ⟨⟨k + 1, by omega, by go_num, ?_, hfr, hi⟩, by simp [intOf]; omega⟩
              rw [HA.out, if_pos hy]; exact mb
        · go_wp2
          refine ⟨⟨k + 1, by omega, by go_num, ?_, hfr, hi⟩, by simp [intOf]; omega⟩
          rw [HA.out, if_neg hy]; exact mb
      · obtain rfl : k = 7 := by omega
        go_wp2
        go_end0
        exact ⟨rfl, mb, hfr⟩
/-- What the fixed patterns ask of the empty grid. -/
def basicOk (v : Nat) (g : Grid) : Bool := findersOk (dim v) g && !(gget (v3G (dim v) g) 8 (dim v - 8) == 0)

set_option maxHeartbeats 1000000 in
theorem embedBasic (pv p r v : Nat) (g : Grid) (w : World) (h : BM w p r (dim v) g) (h1 : 1 ≤ v) (h7 : v ≤ 7) (hv : w.cell? ⟨pv, 0, none⟩ = some (.int .i64 v)) (hpv : ¬ InM r (dim v) pv) (hok : basicOk v g = true) :
    Calls Tryz.prog 106 #[.pointer (some ⟨pv, 0, none⟩), .pointer (some ⟨p, 0, none⟩)] w fun e w' => e = .returned .nilIface ∧ BM w' p r (dim v) (basicG v g) ∧ Frm (InM r (dim v)) w w' := by
  have hn : 21 ≤ dim v := by unfold dim; omega
  simp only [basicOk, Bool.and_eq_true, Bool.not_eq_true'] at hok
  obtain ⟨o1, o2⟩ := hok
  have lpv := World.block_lt_of_cell? _ _ hv
  have O1 := Lib.hid o1
  have O2 := Lib.hid o2
  have HPV := Lib.hid hpv
  clear o1 o2 hpv
  go_enter Tryz.func106, Tryz.ntmps106
  go_wp2_with fail
  with_reducible refine (embedFinders p r (dim v) _ _ h hn (by exact O1.out)).mono ?_
  rintro e w1 ⟨rfl, b1, f1⟩
  go_wp2_with fail
  with_reducible refine (embedDot p r (dim v) _ _ b1 hn (by exact O2.out)).mono ?_
  rintro e w2 ⟨rfl, b2, f2⟩
  have f12 := f1.trans f2
  have hv2 : w2.cell? ⟨pv, 0, none⟩ = some (.int .i64 v) := by rw [f12.cell lpv HPV.out]; exact hv
  go_wp2_with fail
  with_reducible refine (embedAlign pv p r v _ _ b2 h1 h7 hv2).mono ?_
  rintro e w3 ⟨rfl, b3, f3⟩
  go_wp2_with fail
  with_reducible refine (embedTiming p r (dim v) _ _ b3 hn).mono ?_
  rintro e w4 ⟨rfl, b4, f4⟩
  go_wp2
  go_ret
  exact ⟨rfl, b4, (f12.trans f3).trans f4⟩
end Go.Proofs.YtnpkihobbcglcaaGreatDoor

/- J1: The versions: what stands in memory; the small methods. -/
namespace Go.Proofs.YtnpkihobbcglcaaGreatDoor
open Go Go.RowKit

/-- The blocks of a version at a level (0 M, 1 L, 2 H, 3 Q): error correction words a block; how many blocks, data words. -/
def ecRow (v : Nat) : List (Nat × List Nat) :=
  [[], [(7, [1, 19]), (10, [1, 16]), (13, [1, 13]), (17, [1, 9])], [(10, [1, 34]), (16, [1, 28]), (22, [1, 22]), (28, [1, 16])], [(15, [1, 55]), (26, [1, 44]), (18, [2, 17]), (22, [2, 13])],
   [(20, [1, 80]), (18, [2, 32]), (26, [2, 24]), (16, [4, 9])], [(26, [1, 108]), (24, [2, 43]), (18, [2, 15, 2, 16]), (22, [2, 11, 2, 12])], [(18, [2, 68]), (16, [4, 27]), (24, [4, 19]), (28, [4, 15])],
   [(20, [2, 78]), (18, [4, 31]), (18, [2, 14, 4, 15]), (26, [4, 13, 1, 14])]].getD v []
def lvIx (l : Nat) : Nat := [1, 0, 3, 2].getD l 0
def ecAt (v i : Nat) : Nat × List Nat := (ecRow v).getD i (0, [])
def totalCw (v : Nat) : Nat := [0, 26, 44, 70, 100, 134, 172, 196].getD v 0
def nbOf : List Nat → Nat
  | c :: _ :: r => c + nbOf r
  | _ => 0
def verCenters (v : Nat) : List Int := [[], [], [6, 18], [6, 22], [6, 26], [6, 30], [6, 34], [6, 22, 38]].getD v []

/-- The error correction's blocks at ⟨eb, 2 * i⟩. -/
structure ECat (w : World) (eb i : Nat) (x : Nat × List Nat) : Prop where
  ec : w.cell? ⟨eb, 2 * i, none⟩ = some (.int .i64 (x.1 : Nat))
  row : ∃ g, w.cell? ⟨eb, 2 * i + 1, none⟩ = some (.slice (some ⟨g, 0, none⟩) (x.2.length / 2) (x.2.length / 2)) ∧ Nats w g .i64 178 x.2
structure VerAt (w : World) (pv v : Nat) : Prop where
  num : w.cell? ⟨pv, 0, none⟩ = some (.int .i64 v)
  cen : ∃ cb, w.cell? ⟨pv, 1, none⟩ = some (.slice (some ⟨cb, 0, none⟩) (verCenters v).length (verCenters v).length) ∧ Ints w cb .i64 3 (verCenters v)
  blk : ∃ eb, w.cell? ⟨pv, 2, none⟩ = some (.slice (some ⟨eb, 0, none⟩) 4 4) ∧ ∀ i, i < 4 → ECat w eb i (ecAt v i)
  tot : w.cell? ⟨pv, 3, none⟩ = some (.int .i64 (totalCw v : Nat))

theorem cell_kept {w w' : World} {a : Addr} {u : Value} (h : w.cell? a = some u) (hf : Kept w w') : w'.cell? a = some u := by
  rw [hf.cell (World.block_lt_of_cell? _ _ h) (fun h => h)]; exact h
theorem ECat.kept {w w' : World} {eb i : Nat} {x : Nat × List Nat} (h : ECat w eb i x) (hf : Kept w w') : ECat w' eb i x :=
  let ⟨g, h1, h2⟩ := h.row; ⟨cell_kept h.ec hf, g, cell_kept h1 hf, h2.frm hf (fun h => h)⟩
theorem VerAt.kept {w w' : World} {pv v : Nat} (h : VerAt w pv v) (hf : Kept w w') : VerAt w' pv v :=
  let ⟨cb, c1, c2⟩ := h.cen; let ⟨eb, e1, e2⟩ := h.blk
  ⟨cell_kept h.num hf, ⟨cb, cell_kept c1 hf, c2.frm hf (fun h => h)⟩, ⟨eb, cell_kept e1 hf, fun i hi => (e2 i hi).kept hf⟩, cell_kept h.tot hf⟩

theorem totalWords (pv v : Nat) (w : World) (h : VerAt w pv v) : Calls Tryz.prog 48 #[.pointer (some ⟨pv, 0, none⟩)] w fun e w' => e = .returned (.int .i64 (totalCw v : Nat)) ∧ w = w' := by
  have c := h.tot
  clear h
  go_enter Tryz.func48, Tryz.ntmps48
  go_wp2
  go_ret
  exact ⟨rfl, rfl⟩
theorem verDim (pv v : Nat) (w : World) (h : VerAt w pv v) (h7 : v ≤ 7) : Calls Tryz.prog 57 #[.pointer (some ⟨pv, 0, none⟩)] w fun e w' => e = .returned (.int .i64 (dim v : Nat)) ∧ w = w' := by
  have c := h.num
  clear h
  have hd : (17 : Int) + 4 * v = (dim v : Nat) := by unfold dim; omega
  go_enter Tryz.func57, Tryz.ntmps57
  go_wp2
  go_ret
  exact ⟨rfl, rfl⟩
theorem ecPer (eb i : Nat) (x : Nat × List Nat) (w : World) (h : ECat w eb i x) : Calls Tryz.prog 162 #[.pointer (some ⟨eb, 2 * i, none⟩)] w fun e w' => e = .returned (.int .i64 (x.1 : Nat)) ∧ w = w' := by
  have c := h.ec
  clear h
  go_enter Tryz.func162, Tryz.ntmps162
  go_wp2
  go_ret
  exact ⟨rfl, rfl⟩
theorem forLevel (pv v l eb : Nat) (w : World) (hl : l < 4) (h : w.cell? ⟨pv, 2, none⟩ = some (.slice (some ⟨eb, 0, none⟩) 4 4)) :
    Calls Tryz.prog 47 #[.pointer (some ⟨pv, 0, none⟩), .int .i64 l] w fun e w' => e = .returned (.pointer (some ⟨eb, 2 * lvIx l, none⟩)) ∧ w = w' := by
  obtain rfl | rfl | rfl | rfl : l = 0 ∨ l = 1 ∨ l = 2 ∨ l = 3 := by omega
  all_goals go_enter Tryz.func47, Tryz.ntmps47
  all_goals go_wp2
  all_goals go_ret
  all_goals exact ⟨rfl, rfl⟩
end Go.Proofs.YtnpkihobbcglcaaGreatDoor
