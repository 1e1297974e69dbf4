/- The table of the alphanumeric mode; a character's code. The mode that a text is written in. The text's bits, in its mode. The text's bits: alphanumeric; bytes; whichever. The version chosen. The law's own small functions: a text of at most 60 bytes; a level. -/
import Derived.Test.YtnpkihobbcglcaaGreatDoorQ16
import Derived.Test.YtnpkihobbcglcaaGreatDoorQ21
import Derived.Test.YtnpkihobbcglcaaGreatDoorQ22
import Derived.Great.BuildSlice
set_option linter.unusedSimpArgs false
set_option linter.unusedVariables false

/- H6: The table of the alphanumeric mode; a character's code. -/
namespace Go.Proofs.YtnpkihobbcglcaaGreatDoor
open Go Go.RowKit

def alphaCode (c : Nat) : Int :=
  if 48 ≤ c ∧ c ≤ 57 then c - 48 else if 65 ≤ c ∧ c ≤ 90 then c - 55 else if c = 32 then 36 else if c = 36 then 37 else if c = 37 then 38 else if c = 42 then 39 else if c = 43 then 40
  else if c = 45 then 41 else if c = 46 then 42 else if c = 47 then 43 else if c = 58 then 44 else -1
def alphaTab : List Int := (List.range 96).map alphaCode
def alphaLit : List Int := [-1, -1, -1, -1, -1, -1, -1, -1, -1, -1, -1, -1, -1, -1, -1, -1, -1, -1, -1, -1, -1, -1, -1, -1, -1, -1, -1, -1, -1, -1, -1, -1, 36, -1, -1, -1, 37, 38, -1, -1, -1, -1, 39, 40, -1, 41, 42, 43, 0, 1, 2, 3, 4, 5, 6, 7, 8, 9, 44, -1, -1, -1, -1, -1, -1, 10, 11, 12, 13, 14, 15, 16, 17, 18, 19, 20, 21, 22, 23, 24, 25, 26, 27, 28, 29, 30, 31, 32, 33, 34, 35, -1, -1, -1, -1, -1]
theorem alphaTab_lit : alphaTab = alphaLit := by decide +kernel
theorem alphaCode_high (c : Nat) (h : 96 ≤ c) : alphaCode c = -1 := by
  unfold alphaCode
  repeat (rw [if_neg (by omega)])

set_option maxRecDepth 100000 in
theorem alphaTable (w : World) : Calls Tryz.prog 120 #[] w fun e w' => e = .returned (.slice (some ⟨w.heap.size, 0, none⟩) 96 96) ∧ Ints w' w.heap.size .i64 3 alphaTab ∧ Kept w w' := by
  go_enter Tryz.func120, Tryz.ntmps120
  go_upto_region 1 with fail
  apply wp_region_lit
  refine wpList_buildFlat rfl 117 3 96 _ rfl .i64 alphaLit (by kernel_rfl) (by kernel_rfl) (by kernel_rfl) rfl (by omega) (by omega) (by kernel_rfl) ?_
  have hi := Ints.new w .i64 3 alphaLit
  have hk : Kept w (w.alloc (.cells (alphaLit.map (Value.int .i64)).toArray 3)) := (Frm.refl _ _).alloc _
  rw [← alphaTab_lit] at hi hk ⊢
  generalize w.alloc (.cells (alphaTab.map (Value.int .i64)).toArray 3) = w1 at hi hk ⊢
  go_wp2
  go_ret
  exact ⟨rfl, hi, hk⟩

theorem alphaOf (c : Nat) (w : World) (hc : c < 256) : Calls Tryz.prog 79 #[.int .u8 c] w fun e w' => e = .returned (.int .i64 (alphaCode c)) ∧ Kept w w' := by
  go_enter Tryz.func79, Tryz.ntmps79
  go_wp2_with fail
  with_reducible refine (alphaTable w).mono ?_
  rintro _ w1 ⟨rfl, h1, k1⟩
  dsimp only
  by_cases h : c < 96
  · have hd : decide ((c : Int) < 96) = true := by simp; omega
    go_wp2_with fail
    with_reducible refine (alphaTable w1).mono ?_
    rintro _ w2 ⟨rfl, h2, k2⟩
    have hcl := h2.cell c (by simp [alphaTab]; exact h)
    have hv : alphaTab.getD c 0 = alphaCode c := by
      rw [List.getD_eq_getElem?_getD]
      simp [alphaTab, h]
    rw [hv] at hcl
    dsimp only
    go_wp2
    go_ret
    exact ⟨rfl, k1.trans k2⟩
  · have hd : decide ((c : Int) < 96) = false := by simp; omega
    go_wp2
    go_ret
    rw [alphaCode_high c (by omega)]
    exact ⟨rfl, k1⟩
end Go.Proofs.YtnpkihobbcglcaaGreatDoor

/- H7: The mode that a text is written in. -/
namespace Go.Proofs.YtnpkihobbcglcaaGreatDoor
open Go Go.RowKit

/-- The bytes of a text. -/
def sb (s : ByteArray) : List Nat := s.data.toList.map UInt8.toNat
theorem sb_len (s : ByteArray) : (sb s).length = s.size := by simp [sb]
theorem sb_get (s : ByteArray) (k : Nat) (h : k < s.size) : s[k].toNat = (sb s).getD k 0 := by
  rw [List.getD_eq_getElem?_getD]
  unfold sb
  rw [List.getElem?_map, List.getElem?_eq_getElem (by simpa using h)]
  rfl
theorem sb_lt (s : ByteArray) (k : Nat) : (sb s).getD k 0 < 256 := by
  rw [List.getD_eq_getElem?_getD]
  unfold sb
  rw [List.getElem?_map]
  cases s.data.toList[k]? with
  | none => simp
  | some x => simpa using x.toNat_lt

def IsDigit (c : Nat) : Prop := 48 ≤ c ∧ c ≤ 57
/-- The mode suits the text. -/
def Suits (m : Nat) (xs : List Nat) : Prop := (m = 1 ∧ ∀ k, k < xs.length → IsDigit (xs.getD k 0)) ∨ (m = 2 ∧ ∀ k, k < xs.length → alphaCode (xs.getD k 0) ≠ -1) ∨ m = 4
theorem digit_code (c : Nat) (h : IsDigit c) : alphaCode c ≠ -1 := by
  unfold alphaCode IsDigit at *
  rw [if_pos h]
  omega

set_option maxRecDepth 100000 in
set_option maxHeartbeats 1000000 in
theorem chooseMode (s : ByteArray) (w : World) (hn : s.size ≤ 60) (h1 : 1 ≤ s.size) : Calls Tryz.prog 33 #[.string s] w fun e w' => ∃ m : Nat, e = .returned (.int .i64 m) ∧ Suits m (sb s) ∧ Kept w w' := by
  go_enter Tryz.func33, Tryz.ntmps33
  go_wp2_with fail
  go_loopw [3, 4, 5, 6] (fun a b i _ wr => ∃ (k : Nat) (da db : Bool), k ≤ s.size ∧ i = .int .i64 k ∧ a = .bool da ∧ b = .bool db ∧ Kept w wr ∧ Hid (∀ j, j < k → alphaCode ((sb s).getD j 0) ≠ -1) ∧ Hid (db = false → ∀ j, j < k → IsDigit ((sb s).getD j 0)) ∧ (0 < k → db = true ∨ da = true)) (fun _ _ i _ _ => s.size - (intOf i).toNat)
  case atStart => exact ⟨0, false, false, by omega, rfl, rfl, rfl, Frm.refl _ _, Lib.hid (fun j h => by omega), Lib.hid (fun _ j h => by omega), fun h => by omega⟩
  case round =>
    obtain ⟨k, da, db, hk, rfl, rfl, rfl, kw, HA, HB, hc⟩ := hrel
    by_cases hlt : k < s.size
    · have hd : decide ((k : Int) < s.size) = true := by simp; omega
      have hsb := sb_get s k hlt
      have hcl := sb_lt s k
      generalize hcc : (sb s).getD k 0 = c at hsb hcl
      have HCC := Lib.hid hcc
      clear hcc
      have step1 : alphaCode c ≠ -1 → ∀ j, j < k + 1 → alphaCode ((sb s).getD j 0) ≠ -1 := by
        intro h j hj
        by_cases e : j = k
        · subst e; rw [HCC.out]; exact h
        · exact HA.out j (by omega)
      have step2 : IsDigit c → db = false → ∀ j, j < k + 1 → IsDigit ((sb s).getD j 0) := by
        intro h hdb j hj
        by_cases e : j = k
        · subst e; rw [HCC.out]; exact h
        · exact HB.out hdb j (by omega)
      have S1 := Lib.hid step1
      have S2 := Lib.hid step2
      have HC := Lib.hid hc
      clear step1 step2 hc
      by_cases hdg : IsDigit c
      · have HDG := Lib.hid hdg
        obtain ⟨h48, h57⟩ := hdg
        have d1 : decide ((48 : Int) ≤ c) = true := by simp; omega
        have d2 : decide ((c : Int) ≤ 57) = true := by simp; omega
        go_wp2
        exact ⟨⟨k + 1, true, db, by omega, by go_num, rfl, rfl, kw, Lib.hid (S1.out (digit_code c HDG.out)), Lib.hid (S2.out HDG.out), fun _ => .inr rfl⟩, by simp [intOf]; omega⟩
      · have hng : decide ((48 : Int) ≤ c) = false ∨ (decide ((48 : Int) ≤ c) = true ∧ decide ((c : Int) ≤ 57) = false) := by
          unfold IsDigit at hdg
          simp
          omega
        clear hdg
        have hA := alphaOf c wr hcl
        have HAL := Lib.hid hA
        clear hA
        rcases hng with d1 | ⟨d1, d2⟩
        all_goals go_wp2_with fail
        all_goals with_reducible refine HAL.out.mono ?_
        all_goals rintro _ w1 ⟨rfl, k1⟩
        all_goals dsimp only
        all_goals by_cases hac : alphaCode c = -1
        · go_wp2
          go_ret
          exact ⟨4, rfl, .inr (.inr rfl), kw.trans k1⟩
        · have HN := Lib.hid hac
          go_wp2
          exact ⟨⟨k + 1, da, true, by omega, by go_num, rfl, rfl, kw.trans k1, Lib.hid (S1.out HN.out), Lib.hid (fun h => by simp at h), fun _ => .inl rfl⟩, by simp [intOf]; omega⟩
        · go_wp2
          go_ret
          exact ⟨4, rfl, .inr (.inr rfl), kw.trans k1⟩
        · have HN := Lib.hid hac
          go_wp2
          exact ⟨⟨k + 1, da, true, by omega, by go_num, rfl, rfl, kw.trans k1, Lib.hid (S1.out HN.out), Lib.hid (fun h => by simp at h), fun _ => .inl rfl⟩, by simp [intOf]; omega⟩
    · obtain rfl : k = s.size := by omega
      have hd : decide ((s.size : Int) < s.size) = false := by simp
      have hl := sb_len s
      have HL := Lib.hid hl
      clear hl
      cases db
      · cases da
        · have := hc (by omega); simp at this
        · clear hc
          go_wp2
          go_ret
          exact ⟨1, rfl, .inl ⟨rfl, by rw [HL.out]; exact HB.out trivial⟩, kw⟩
      · clear hc
        go_wp2
        go_ret
        exact ⟨2, rfl, .inr (.inl ⟨rfl, by rw [HL.out]; exact HA.out⟩), kw⟩
end Go.Proofs.YtnpkihobbcglcaaGreatDoor

/- H8: The text's bits, in its mode. -/
namespace Go.Proofs.YtnpkihobbcglcaaGreatDoor
open Go Go.RowKit

def numBits : List Nat → List Bool
  | a :: b :: c :: r => topBits ((a - 48) * 100 + (b - 48) * 10 + (c - 48)) 10 10 ++ numBits r
  | [a, b] => topBits ((a - 48) * 10 + (b - 48)) 7 7
  | [a] => topBits (a - 48) 4 4
  | [] => []
def alpBits : List Nat → List Bool
  | a :: b :: r => topBits ((alphaCode a).toNat * 45 + (alphaCode b).toNat) 11 11 ++ alpBits r
  | [a] => topBits (alphaCode a).toNat 6 6
  | [] => []
def bytBits : List Nat → List Bool
  | a :: r => topBits a 8 8 ++ bytBits r
  | [] => []
def txtBits (m : Nat) (xs : List Nat) : List Bool := if m = 1 then numBits xs else if m = 2 then alpBits xs else bytBits xs

theorem drop_cons (xs : List Nat) (k : Nat) (h : k < xs.length) : xs.drop k = xs.getD k 0 :: xs.drop (k + 1) := by
  rw [List.drop_eq_getElem_cons h, List.getD_eq_getElem?_getD, List.getElem?_eq_getElem h]; rfl
theorem numBits_len : ∀ (xs : List Nat), (numBits xs).length ≤ 10 * xs.length
  | a :: b :: c :: r => by
    have := numBits_len r
    simp only [numBits, List.length_append, topBits_length, List.length_cons]; omega
  | [a, b] => by simp [numBits, topBits_length]
  | [a] => by simp [numBits, topBits_length]
  | [] => by simp [numBits]
theorem alpBits_len : ∀ (xs : List Nat), (alpBits xs).length ≤ 10 * xs.length
  | a :: b :: r => by
    have := alpBits_len r
    simp only [alpBits, List.length_append, topBits_length, List.length_cons]; omega
  | [a] => by simp [alpBits, topBits_length]
  | [] => by simp [alpBits]
theorem bytBits_len : ∀ (xs : List Nat), (bytBits xs).length = 8 * xs.length
  | a :: r => by
    have := bytBits_len r
    simp only [bytBits, List.length_append, topBits_length, List.length_cons]; omega
  | [] => by simp [bytBits]

set_option maxRecDepth 100000 in
set_option maxHeartbeats 2000000 in
theorem appendNum (s : ByteArray) (p b : Nat) (cs : List Bool) (w0 w : World) (h : Grew w0 w p b cs) (hs : cs.length ≤ 1000) (hn : s.size ≤ 60) (hd : ∀ k, k < (sb s).length → IsDigit ((sb s).getD k 0)) :
    Calls Tryz.prog 84 #[.string s, .pointer (some ⟨p, 0, none⟩)] w fun e w' => e = .returned (.tuple #[]) ∧ Grew w0 w' p b (cs ++ numBits (sb s)) := by
  have hl := sb_len s
  have hnl := numBits_len (sb s)
  have H := Lib.hid h
  have HD := Lib.hid hd
  have HL := Lib.hid hl
  have HNL := Lib.hid hnl
  clear h hd hl hnl
  go_enter Tryz.func84, Tryz.ntmps84
  go_wp2_with fail
  go_loopw [5, 6, 7, 8, 9] (fun iv _ _ _ _ wr => ∃ (k : Nat) (done : List Bool), k ≤ s.size ∧ iv = .int .i64 k ∧ Grew w0 wr p b (cs ++ done) ∧ Hid (numBits (sb s) = done ++ numBits ((sb s).drop k))) (fun iv _ _ _ _ _ => s.size - (intOf iv).toNat)
  case atStart => exact ⟨0, [], Nat.zero_le _, rfl, by rw [List.append_nil]; exact H.out, Lib.hid (by simp)⟩
  case round =>
    obtain ⟨k, done, hk, rfl, hg, HE⟩ := hrel
    by_cases hlt : k < s.size
    · have hdk : decide ((k : Int) < s.size) = true := by simp; omega
      have hdl : done.length ≤ 600 := by have := HE.out; have h2 := HNL.out; have h3 := HL.out; rw [this, List.length_append] at h2; omega
      have hcl : (cs ++ done).length ≤ 2000 := by rw [List.length_append]; omega
      have g1 := sb_get s k hlt
      obtain ⟨a1, b1⟩ := HD.out k (by rw [HL.out]; exact hlt)
      have e1 := drop_cons (sb s) k (by rw [HL.out]; exact hlt)
      generalize hc1 : (sb s).getD k 0 = c1 at g1 a1 b1 e1
      have s1 : (c1 : Int) - 48 = ((c1 - 48 : Nat) : Int) := by omega
      generalize hd1 : c1 - 48 = d1 at s1
      have r1 : d1 ≤ 9 := by omega
      by_cases h3 : k + 2 < s.size
      · have hd3 : decide ((k : Int) + 2 < s.size) = true := by simp; omega
        have g2 := sb_get s (k + 1) (by omega)
        obtain ⟨a2, b2⟩ := HD.out (k + 1) (by rw [HL.out]; omega)
        have e2 := drop_cons (sb s) (k + 1) (by rw [HL.out]; omega)
        generalize hc2 : (sb s).getD (k + 1) 0 = c2 at g2 a2 b2 e2
        have s2 : (c2 : Int) - 48 = ((c2 - 48 : Nat) : Int) := by omega
        generalize hd2 : c2 - 48 = d2 at s2
        have r2 : d2 ≤ 9 := by omega
        have g3 := sb_get s (k + 2) (by omega)
        obtain ⟨a3, b3⟩ := HD.out (k + 2) (by rw [HL.out]; omega)
        have e3 := drop_cons (sb s) (k + 2) (by rw [HL.out]; omega)
        generalize hc3 : (sb s).getD (k + 2) 0 = c3 at g3 a3 b3 e3
        have s3 : (c3 : Int) - 48 = ((c3 - 48 : Nat) : Int) := by omega
        generalize hd3' : c3 - 48 = d3 at s3
        have r3 : d3 ≤ 9 := by omega
        have hE : numBits (sb s) = (done ++ topBits (d1 * 100 + d2 * 10 + d3) 10 10) ++ numBits ((sb s).drop (k + 3)) := by
          rw [HE.out, e1, e2, e3, List.append_assoc]
          show _ ++ (topBits ((c1 - 48) * 100 + (c2 - 48) * 10 + (c3 - 48)) 10 10 ++ _) = _
          rw [hd1, hd2, hd3']
        have hA := hg.bits (d1 * 100 + d2 * 10 + d3) 10 (by omega) (by omega) (by omega)
        simp only [Int.natCast_add, Int.natCast_mul, Int.cast_ofNat_Int] at hA
        have HA := Lib.hid hA
        have HE2 := Lib.hid hE
        clear hA hE HE hg e1 e2 e3 hd1 hd2 hd3' hc1 hc2 hc3 hcl hdl a1 a2 a3 b1 b2 b3
        go_wp2_with fail
        with_reducible refine HA.out.mono ?_
        rintro _ w1 ⟨rfl, h1⟩
        have h1' := h1
        rw [List.append_assoc] at h1'
        have H1 := Lib.hid h1'
        clear h1 h1' HA
        dsimp only
        go_wp2
        exact ⟨⟨k + 3, _, by omega, by go_num, H1.out, HE2⟩, by simp [intOf]; omega⟩
      · have hd3 : decide ((k : Int) + 2 < s.size) = false := by simp; omega
        by_cases h2 : k + 1 < s.size
        · have hd2' : decide ((k : Int) + 1 < s.size) = true := by simp; omega
          have g2 := sb_get s (k + 1) (by omega)
          obtain ⟨a2, b2⟩ := HD.out (k + 1) (by rw [HL.out]; omega)
          have e2 := drop_cons (sb s) (k + 1) (by rw [HL.out]; omega)
          have e3 : (sb s).drop (k + 2) = [] := List.drop_eq_nil_of_le (by rw [HL.out]; omega)
          generalize hc2 : (sb s).getD (k + 1) 0 = c2 at g2 a2 b2 e2
          have s2 : (c2 : Int) - 48 = ((c2 - 48 : Nat) : Int) := by omega
          generalize hd2 : c2 - 48 = d2 at s2
          have r2 : d2 ≤ 9 := by omega
          have hE : numBits (sb s) = (done ++ topBits (d1 * 10 + d2) 7 7) ++ numBits ((sb s).drop (k + 2)) := by
            rw [HE.out, e1, e2, e3, List.append_assoc]
            show _ ++ topBits ((c1 - 48) * 10 + (c2 - 48)) 7 7 = _
            rw [hd1, hd2]
            simp [numBits]
          have hA := hg.bits (d1 * 10 + d2) 7 (by omega) (by omega) (by omega)
          simp only [Int.natCast_add, Int.natCast_mul, Int.cast_ofNat_Int] at hA
          have HA := Lib.hid hA
          have HE2 := Lib.hid hE
          clear hA hE HE hg e1 e2 e3 hd1 hd2 hc1 hc2 hcl hdl a1 a2 b1 b2
          go_wp2_with fail
          with_reducible refine HA.out.mono ?_
          rintro _ w1 ⟨rfl, h1⟩
          have h1' := h1
          rw [List.append_assoc] at h1'
          have H1 := Lib.hid h1'
          clear h1 h1' HA
          dsimp only
          go_wp2
          exact ⟨⟨k + 2, _, by omega, by go_num, H1.out, HE2⟩, by simp [intOf]; omega⟩
        · have hd2' : decide ((k : Int) + 1 < s.size) = false := by simp; omega
          have e2 : (sb s).drop (k + 1) = [] := List.drop_eq_nil_of_le (by rw [HL.out]; omega)
          have hE : numBits (sb s) = (done ++ topBits d1 4 4) ++ numBits ((sb s).drop (k + 1)) := by
            rw [HE.out, e1, e2, List.append_assoc]
            show _ ++ topBits (c1 - 48) 4 4 = _
            rw [hd1]
            simp [numBits]
          have hA := hg.bits d1 4 (by omega) (by omega) (by omega)
          simp only [Int.cast_ofNat_Int] at hA
          have HA := Lib.hid hA
          have HE2 := Lib.hid hE
          clear hA hE HE hg e1 e2 hd1 hc1 hcl hdl a1 b1
          go_wp2_with fail
          with_reducible refine HA.out.mono ?_
          rintro _ w1 ⟨rfl, h1⟩
          have h1' := h1
          rw [List.append_assoc] at h1'
          have H1 := Lib.hid h1'
          clear h1 h1' HA
          dsimp only
          go_wp2
          exact ⟨⟨k + 1, _, by omega, by go_num, H1.out, HE2⟩, by simp [intOf]; omega⟩
    · obtain rfl : k = s.size := by omega
      have hdk : decide ((s.size : Int) < s.size) = false := by simp
      have hE : numBits (sb s) = done := by
        have := HE.out
        rw [List.drop_eq_nil_of_le (by rw [HL.out]; omega)] at this
        simpa [numBits] using this
      have HE3 := Lib.hid hE
      clear hE HE
      go_wp2
      go_end0
      rw [HE3.out]
      exact ⟨rfl, hg⟩
end Go.Proofs.YtnpkihobbcglcaaGreatDoor

/- H9: The text's bits: alphanumeric; bytes; whichever. -/
namespace Go.Proofs.YtnpkihobbcglcaaGreatDoor
open Go Go.RowKit

theorem bytBits_app (xs : List Nat) (a : Nat) : bytBits (xs ++ [a]) = bytBits xs ++ topBits a 8 8 := by
  induction xs with
  | nil => simp [bytBits]
  | cons x xs ih => simp only [List.cons_append, bytBits, ih, List.append_assoc]

theorem alphaCode_range (c : Nat) (h : alphaCode c ≠ -1) : ∃ d : Nat, alphaCode c = d ∧ d ≤ 44 := by
  unfold alphaCode at h ⊢
  repeat' split at h
  all_goals first
    | exact absurd rfl h
    | skip
  all_goals simp only [*, and_self, if_true, if_false]
  all_goals first
    | exact ⟨c - 48, by omega, by omega⟩
    | exact ⟨c - 55, by omega, by omega⟩
    | exact ⟨36, rfl, by omega⟩
    | exact ⟨37, rfl, by omega⟩
    | exact ⟨38, rfl, by omega⟩
    | exact ⟨39, rfl, by omega⟩
    | exact ⟨40, rfl, by omega⟩
    | exact ⟨41, rfl, by omega⟩
    | exact ⟨42, rfl, by omega⟩
    | exact ⟨43, rfl, by omega⟩
    | exact ⟨44, rfl, by omega⟩
    | skip
set_option maxRecDepth 100000 in
set_option maxHeartbeats 2000000 in
theorem appendAlp (s : ByteArray) (p b : Nat) (cs : List Bool) (w0 w : World) (h : Grew w0 w p b cs) (hs : cs.length ≤ 1000) (hn : s.size ≤ 60) (hd : ∀ k, k < (sb s).length → alphaCode ((sb s).getD k 0) ≠ -1) :
    Calls Tryz.prog 85 #[.string s, .pointer (some ⟨p, 0, none⟩)] w fun e w' => e = .returned .nilIface ∧ Grew w0 w' p b (cs ++ alpBits (sb s)) := by
  have hl := sb_len s
  have hnl := alpBits_len (sb s)
  have H := Lib.hid h
  have HD := Lib.hid hd
  have HL := Lib.hid hl
  have HNL := Lib.hid hnl
  clear h hd hl hnl
  go_enter Tryz.func85, Tryz.ntmps85
  go_wp2_with fail
  go_loopw [6, 7, 8] (fun iv _ _ wr => ∃ (k : Nat) (done : List Bool), k ≤ s.size ∧ iv = .int .i64 k ∧ Grew w0 wr p b (cs ++ done) ∧ Hid (alpBits (sb s) = done ++ alpBits ((sb s).drop k))) (fun iv _ _ _ => s.size - (intOf iv).toNat)
  case atStart => exact ⟨0, [], Nat.zero_le _, rfl, by rw [List.append_nil]; exact H.out, Lib.hid (by simp)⟩
  case round =>
    obtain ⟨k, done, hk, rfl, hg, HE⟩ := hrel
    by_cases hlt : k < s.size
    · have hdk : decide ((k : Int) < s.size) = true := by simp; omega
      have hdl : done.length ≤ 600 := by have := HE.out; have h2 := HNL.out; have h3 := HL.out; rw [this, List.length_append] at h2; omega
      have hcl : (cs ++ done).length ≤ 2000 := by rw [List.length_append]; omega
      have g1 := sb_get s k hlt
      have l1 := sb_lt s k
      have n1 := HD.out k (by rw [HL.out]; exact hlt)
      have e1 := drop_cons (sb s) k (by rw [HL.out]; exact hlt)
      generalize hc1 : (sb s).getD k 0 = c1 at g1 l1 n1 e1
      obtain ⟨d1, q1, r1⟩ := alphaCode_range c1 n1
      have z1 : decide ((d1 : Int) = -1) = false := by simp
      have hA1 := alphaOf c1 wr l1
      rw [q1] at hA1
      have HA1 := Lib.hid hA1
      by_cases h2 : k + 1 < s.size
      · have hd2' : decide ((k : Int) + 1 < s.size) = true := by simp; omega
        have g2 := sb_get s (k + 1) (by omega)
        have l2 := sb_lt s (k + 1)
        have n2 := HD.out (k + 1) (by rw [HL.out]; omega)
        have e2 := drop_cons (sb s) (k + 1) (by rw [HL.out]; omega)
        generalize hc2 : (sb s).getD (k + 1) 0 = c2 at g2 l2 n2 e2
        obtain ⟨d2, q2, r2⟩ := alphaCode_range c2 n2
        have z2 : decide ((d2 : Int) = -1) = false := by simp
        have hA2 := fun w => alphaOf c2 w l2
        simp only [q2] at hA2
        have HA2 := Lib.hid hA2
        have hE : alpBits (sb s) = (done ++ topBits (d1 * 45 + d2) 11 11) ++ alpBits ((sb s).drop (k + 2)) := by
          rw [HE.out, e1, e2, List.append_assoc]
          show _ ++ (topBits ((alphaCode c1).toNat * 45 + (alphaCode c2).toNat) 11 11 ++ _) = _
          rw [q1, q2, Int.toNat_natCast, Int.toNat_natCast]
        have hA := fun w1 (k1 : Kept wr w1) => (hg.kept k1).bits (d1 * 45 + d2) 11 (by omega) (by omega) (by omega)
        simp only [Int.natCast_add, Int.natCast_mul, Int.cast_ofNat_Int] at hA
        have HA := Lib.hid hA
        have HE2 := Lib.hid hE
        clear hA hE HE hg e1 e2 hc1 hc2 hcl hdl q1 q2 n1 n2 hA1 hA2 l1 l2
        go_wp2_with fail
        with_reducible refine HA1.out.mono ?_
        rintro _ w1 ⟨rfl, k1⟩
        dsimp only
        go_wp2_with fail
        with_reducible refine (HA2.out w1).mono ?_
        rintro _ w2 ⟨rfl, k2⟩
        dsimp only
        go_wp2_with fail
        with_reducible refine (HA.out w2 (k1.trans k2)).mono ?_
        rintro _ w3 ⟨rfl, h1⟩
        have h1' := h1
        rw [List.append_assoc] at h1'
        have H1 := Lib.hid h1'
        clear h1 h1' HA
        dsimp only
        go_wp2
        exact ⟨⟨k + 2, _, by omega, by go_num, H1.out, HE2⟩, by simp [intOf]; omega⟩
      · have hd2' : decide ((k : Int) + 1 < s.size) = false := by simp; omega
        have e2 : (sb s).drop (k + 1) = [] := List.drop_eq_nil_of_le (by rw [HL.out]; omega)
        have hE : alpBits (sb s) = (done ++ topBits d1 6 6) ++ alpBits ((sb s).drop (k + 1)) := by
          rw [HE.out, e1, e2, List.append_assoc]
          show _ ++ topBits (alphaCode c1).toNat 6 6 = _
          rw [q1, Int.toNat_natCast]
          simp [alpBits]
        have hA := fun w1 (k1 : Kept wr w1) => (hg.kept k1).bits d1 6 (by omega) (by omega) (by omega)
        simp only [Int.cast_ofNat_Int] at hA
        have HA := Lib.hid hA
        have HE2 := Lib.hid hE
        clear hA hE HE hg e1 e2 hc1 hcl hdl q1 n1 hA1 l1
        go_wp2_with fail
        with_reducible refine HA1.out.mono ?_
        rintro _ w1 ⟨rfl, k1⟩
        dsimp only
        go_wp2_with fail
        with_reducible refine (HA.out w1 k1).mono ?_
        rintro _ w3 ⟨rfl, h1⟩
        have h1' := h1
        rw [List.append_assoc] at h1'
        have H1 := Lib.hid h1'
        clear h1 h1' HA
        dsimp only
        go_wp2
        exact ⟨⟨k + 1, _, by omega, by go_num, H1.out, HE2⟩, by simp [intOf]; omega⟩
    · obtain rfl : k = s.size := by omega
      have hdk : decide ((s.size : Int) < s.size) = false := by simp
      have hE : alpBits (sb s) = done := by
        have := HE.out
        rw [List.drop_eq_nil_of_le (by rw [HL.out]; omega)] at this
        simpa [alpBits] using this
      have HE3 := Lib.hid hE
      clear hE HE
      go_wp2
      go_ret
      rw [HE3.out]
      exact ⟨rfl, hg⟩

set_option maxRecDepth 100000 in
set_option maxHeartbeats 2000000 in
theorem appendByt (s : ByteArray) (p b : Nat) (cs : List Bool) (w0 w : World) (h : Grew w0 w p b cs) (hs : cs.length ≤ 1000) (hn : s.size ≤ 60) :
    Calls Tryz.prog 86 #[.string s, .pointer (some ⟨p, 0, none⟩)] w fun e w' => e = .returned .nilIface ∧ Grew w0 w' p b (cs ++ bytBits (sb s)) := by
  have hl := sb_len s
  have hnl := bytBits_len (sb s)
  have H := Lib.hid h
  have HL := Lib.hid hl
  have HNL := Lib.hid hnl
  clear h hl hnl
  obtain ⟨cap, w1, hcv, hk1, hcell⟩ : ∃ cap w1, (convert 9 32 (Value.string s)).run Tryz.prog w = .ok (.slice (some ⟨w.heap.size, 0, none⟩) s.size cap) w1 ∧ Kept w w1 ∧ ∀ k, k < s.size → w1.cell? ⟨w.heap.size, k, none⟩ = some (.int .u8 ((sb s).getD k 0 : Nat)) := by
    refine ⟨_, _, run_bytes_of_string (P := Tryz.prog) w 9 32 5 s (by kernel_rfl) (by kernel_rfl) (by kernel_rfl), ((Frm.refl _ _).drew).alloc _, ?_⟩
    intro k hk
    have hnew := heap_alloc_new w.drew (Obj.cells (bytesRow s (grownCap w s.size 0 5)) 5 ((bytesRow s (grownCap w s.size 0 5)).size, (bytesRow s (grownCap w s.size 0 5)).size + 1))
    unfold World.cell?
    rw [show w.drew.heap.size = w.heap.size from rfl] at hnew
    rw [hnew]
    have hb : (bytesRow s (grownCap w s.size 0 5))[k]? = some (.int .u8 ((sb s).getD k 0 : Nat)) := by
      unfold bytesRow
      have hk' : k < s.data.size := hk
      rw [Array.getElem?_append_left (by simpa using hk'), Array.getElem?_map, Array.getElem?_eq_getElem hk', ← sb_get s k hk]
      rfl
    simpa using hb
  obtain ⟨c0, hb, hcb⟩ := H.out.arr
  obtain ⟨lp, lc, _⟩ := hb.lt
  have hb1 : BitA w1 p c0 cs := hb.frm hk1 (fun h => h) (fun h => h)
  have G01 := Lib.hid (H.out.kept hk1)
  have HC := Lib.hid hcell
  have hfr : ∀ wr, Frm (fun k => k = p ∨ k = c0) w1 wr → ∀ k, k < s.size → wr.cell? ⟨w.heap.size, k, none⟩ = some (.int .u8 ((sb s).getD k 0 : Nat)) := by
    intro wr hkw k hk
    rw [hkw.cell (World.block_lt_of_cell? _ _ (HC.out k hk)) (by rintro (h | h) <;> simp only at h <;> omega)]
    exact HC.out k hk
  have HFR := Lib.hid hfr
  have HB1 := Lib.hid hb1
  clear hcell hk1 hfr hb hb1
  go_enter Tryz.func86, Tryz.ntmps86
  go_wp2_with fail
  go_loopw [7, 12] (fun _ iv wr => ∃ (k : Nat), k ≤ s.size ∧ iv = .int .i64 k ∧ Grew w1 wr p c0 (cs ++ bytBits ((sb s).take k))) (fun _ iv _ => s.size - (intOf iv).toNat)
  case atStart => exact ⟨0, Nat.zero_le _, rfl, by simpa [bytBits] using Grew.refl HB1.out⟩
  case round =>
    obtain ⟨k, hk, rfl, hg⟩ := hrel
    by_cases hlt : k < s.size
    · have hdk : decide ((k : Int) < s.size) = true := by simp; omega
      have hcl : (cs ++ bytBits ((sb s).take k)).length ≤ 2000 := by
        rw [List.length_append, bytBits_len, List.length_take]
        omega
      have cb := HFR.out wr hg.frm k hlt
      have hv := sb_lt s k
      have hE : bytBits ((sb s).take (k + 1)) = bytBits ((sb s).take k) ++ topBits ((sb s).getD k 0) 8 8 := by
        rw [List.take_add_one, List.getD_eq_getElem?_getD, List.getElem?_eq_getElem (by rw [HL.out]; exact hlt)]
        exact bytBits_app _ _
      have HE := Lib.hid hE
      clear hE
      generalize hvv : (sb s).getD k 0 = v at cb hv
      have HVV := Lib.hid hvv
      clear hvv
      have hA := hg.bits v 8 (by omega) (by omega) (by omega)
      simp only [Int.cast_ofNat_Int] at hA
      have HA := Lib.hid hA
      clear hA hg hcl
      go_wp2_with fail
      with_reducible refine HA.out.mono ?_
      rintro _ w2 ⟨rfl, h1⟩
      have H1 := Lib.hid h1
      clear h1 HA
      dsimp only
      go_wp2
      refine ⟨⟨k + 1, by omega, by go_num, ?_⟩, by simp [intOf]; omega⟩
      rw [HE.out, HVV.out, ← List.append_assoc]
      exact H1.out
    · obtain rfl : k = s.size := by omega
      have hdk : decide ((s.size : Int) < s.size) = false := by simp
      have hE : (sb s).take s.size = sb s := List.take_of_length_le (by rw [HL.out]; omega)
      have HG := Lib.hid (G01.out.trans hcb hg)
      have HE := Lib.hid hE
      clear hE hg
      go_wp2
      go_ret
      refine ⟨rfl, ?_⟩
      have := HG.out
      rw [HE.out] at this
      exact this

theorem appendText (s : ByteArray) (m p b : Nat) (cs : List Bool) (w0 w : World) (h : Grew w0 w p b cs) (hs : cs.length ≤ 1000) (hn : s.size ≤ 60) (hm : Suits m (sb s)) :
    Calls Tryz.prog 37 #[.string s, .int .i64 m, .pointer (some ⟨p, 0, none⟩)] w fun e w' => e = .returned .nilIface ∧ Grew w0 w' p b (cs ++ txtBits m (sb s)) := by
  have H := Lib.hid h
  clear h
  have HM := Lib.hid hm
  rcases hm with ⟨rfl, hd⟩ | ⟨rfl, hd⟩ | rfl
  · have HD := Lib.hid hd
    clear hd
    go_enter Tryz.func37, Tryz.ntmps37
    go_wp2_with fail
    with_reducible refine (appendNum s p b cs w0 w H.out hs hn HD.out).mono ?_
    rintro _ w1 ⟨rfl, h1⟩
    dsimp only
    go_wp2
    go_ret
    exact ⟨rfl, h1⟩
  · have HD := Lib.hid hd
    clear hd
    go_enter Tryz.func37, Tryz.ntmps37
    go_wp2_with fail
    with_reducible refine (appendAlp s p b cs w0 w H.out hs hn HD.out).mono ?_
    rintro _ w1 ⟨rfl, h1⟩
    dsimp only
    go_wp2
    go_ret
    exact ⟨rfl, h1⟩
  · go_enter Tryz.func37, Tryz.ntmps37
    go_wp2_with fail
    with_reducible refine (appendByt s p b cs w0 w H.out hs hn).mono ?_
    rintro _ w1 ⟨rfl, h1⟩
    dsimp only
    go_wp2
    go_ret
    exact ⟨rfl, h1⟩
end Go.Proofs.YtnpkihobbcglcaaGreatDoor

/- J7: The version chosen. -/
namespace Go.Proofs.YtnpkihobbcglcaaGreatDoor
open Go Go.RowKit

theorem versionAny (v : Nat) (w : World) (h1 : 1 ≤ v) (h7 : v ≤ 7) : Calls Tryz.prog 89 #[.int .i64 v] w fun e w' => ∃ pv, e = .returned (.pointer (some ⟨pv, 0, none⟩)) ∧ VerAt w' pv v ∧ Kept w w' := by
  obtain rfl | rfl | rfl | rfl | rfl | rfl | rfl : v = 1 ∨ v = 2 ∨ v = 3 ∨ v = 4 ∨ v = 5 ∨ v = 6 ∨ v = 7 := by omega
  · exact version1 w
  · exact version2 w
  · exact version3 w
  · exact version4 w
  · exact version5 w
  · exact version6 w
  · exact version7 w

theorem versionFor (v : Nat) (w : World) (h1 : 1 ≤ v) (h7 : v ≤ 7) : Calls Tryz.prog 39 #[.int .i64 v] w fun e w' => ∃ pv, e = .returned (.tuple #[.pointer (some ⟨pv, 0, none⟩), .nilIface]) ∧ VerAt w' pv v ∧ Kept w w' := by
  have d1 : decide ((v : Int) < 1) = false := by simp; omega
  have d2 : decide ((40 : Int) < v) = false := by simp; omega
  go_enter Tryz.func39, Tryz.ntmps39
  go_wp2_with fail
  with_reducible refine (versionAny v w h1 h7).mono ?_
  rintro _ w1 ⟨pv, rfl, hv, k1⟩
  dsimp only
  go_wp2
  go_ret2
  exact ⟨pv, rfl, hv, k1⟩

/-- Data words of a version at a level. -/
def dataCw (v l : Nat) : Nat := totalCw v - (ecAt v (lvIx l)).1 * nbOf (ecAt v (lvIx l)).2
theorem lvIx_lt : ∀ l, l < 4 → lvIx l < 4 := by decide
theorem dataCw_ok : ∀ v, v < 8 → 1 ≤ v → ∀ l, l < 4 → (ecAt v (lvIx l)).1 * nbOf (ecAt v (lvIx l)).2 + dataCw v l = totalCw v ∧ totalCw v ≤ 196 := by decide
theorem dataCw_7 : ∀ l, l < 4 → 66 ≤ dataCw 7 l := by decide
def fits (v l n : Nat) : Prop := (n + 7) / 8 ≤ dataCw v l

theorem willFit (pv v l n : Nat) (w : World) (h : VerAt w pv v) (h1 : 1 ≤ v) (h7 : v ≤ 7) (hl : l < 4) (hn : n ≤ 2000) :
    Calls Tryz.prog 42 #[.int .i64 n, .pointer (some ⟨pv, 0, none⟩), .int .i64 l] w fun e w' => e = .returned (.bool (decide ((n + 7) / 8 ≤ dataCw v l))) ∧ Kept w w' := by
  obtain ⟨hd, ht⟩ := dataCw_ok v (by omega) h1 l hl
  obtain ⟨eb, hbl, hat⟩ := h.blk
  have hec := hat (lvIx l) (lvIx_lt l hl)
  have hT := totalWords pv v w h
  have hL := forLevel pv v l eb w hl hbl
  have hE := totalEC eb (lvIx l) v w hec h1 h7 (lvIx_lt l hl)
  generalize dataCw v l = D at *
  generalize (ecAt v (lvIx l)).1 * nbOf (ecAt v (lvIx l)).2 = E at *
  generalize totalCw v = T at *
  have HT := Lib.hid hT
  have HL := Lib.hid hL
  have HE := Lib.hid hE
  clear hT hL hE h hbl hat hec
  have hTE : (T : Int) - E = D := by omega
  have hq : ((n : Int) + 7).tdiv 8 = (((n + 7) / 8 : Nat) : Int) := by
    rw [Int.tdiv_eq_ediv_of_nonneg (by omega)]; omega
  generalize hQ : (n + 7) / 8 = Q at *
  go_enter Tryz.func42, Tryz.ntmps42
  go_wp2_with fail
  with_reducible refine HT.out.mono ?_
  rintro _ _ ⟨rfl, rfl⟩
  dsimp only
  go_wp2_with fail
  with_reducible refine HL.out.mono ?_
  rintro _ _ ⟨rfl, rfl⟩
  dsimp only
  go_wp2_with fail
  with_reducible refine HE.out.mono ?_
  rintro _ w1 ⟨rfl, k1⟩
  dsimp only
  go_wp2
  go_ret
  refine ⟨?_, k1⟩
  rfl

set_option maxRecDepth 100000 in
set_option maxHeartbeats 2000000 in
theorem chooseVersion (l n : Nat) (w : World) (hl : l < 4) (hn : n ≤ 2000) (hf : fits 7 l n) :
    Calls Tryz.prog 93 #[.int .i64 n, .int .i64 l] w fun e w' => ∃ pv v, e = .returned (.tuple #[.pointer (some ⟨pv, 0, none⟩), .nilIface]) ∧ VerAt w' pv v ∧ 1 ≤ v ∧ v ≤ 7 ∧ fits v l n ∧ Kept w w' := by
  have HF := Lib.hid hf
  clear hf
  go_enter Tryz.func93, Tryz.ntmps93
  go_wp2_with fail
  go_loopw [6, 7, 8] (fun iv _ _ wr => ∃ k : Nat, 1 ≤ k ∧ k ≤ 7 ∧ iv = .int .i64 k ∧ Kept w wr) (fun iv _ _ _ => 8 - (intOf iv).toNat)
  case atStart => exact ⟨1, by omega, by omega, rfl, Frm.refl _ _⟩
  case round =>
    obtain ⟨k, hk1, hk7, rfl, kw⟩ := hrel
    have hd : decide ((k : Int) ≤ 40) = true := by simp; omega
    go_wp2_with fail
    with_reducible refine (versionFor k wr hk1 hk7).mono ?_
    rintro _ w1 ⟨pv, rfl, hv, k1⟩
    have HV := Lib.hid hv
    clear hv
    dsimp only
    go_wp2_with fail
    with_reducible refine (willFit pv k l n w1 HV.out hk1 hk7 hl hn).mono ?_
    rintro _ w2 ⟨rfl, k2⟩
    by_cases hfit : (n + 7) / 8 ≤ dataCw k l
    · rw [decide_eq_true hfit]
      have HFT := Lib.hid hfit
      clear hfit
      dsimp only
      go_wp2
      go_ret2
      exact ⟨pv, k, rfl, HV.out.kept k2, hk1, hk7, HFT.out, (kw.trans k1).trans k2⟩
    · have hne : k ≠ 7 := by rintro rfl; exact hfit HF.out
      rw [decide_eq_false hfit]
      clear hfit
      dsimp only
      go_wp2
      exact ⟨⟨k + 1, by omega, by omega, by go_num, (kw.trans k1).trans k2⟩, by simp [intOf]; omega⟩

theorem bitsNeeded (m pv v p b q c : Nat) (hs ds : List Bool) (w : World) (hm : IsMode m) (hp : BitA w p b hs) (hq : BitA w q c ds) (hv : VerAt w pv v) (h1 : 1 ≤ v) (h7 : v ≤ 7) (hl : hs.length ≤ 100) (hdl : ds.length ≤ 1000) :
    Calls Tryz.prog 41 #[.int .i64 m, .pointer (some ⟨p, 0, none⟩), .pointer (some ⟨q, 0, none⟩), .pointer (some ⟨pv, 0, none⟩)] w fun e w' => e = .returned (.int .i64 (hs.length + ccb m + ds.length : Nat)) ∧ Kept w w' := by
  have hcc : ccb m ≤ 10 := by unfold ccb; split <;> (try split) <;> omega
  have HP := Lib.hid hp
  have HQ := Lib.hid hq
  have hs1 := bitSize p b hs w hp
  generalize hs.length = A at *
  have H1 := Lib.hid hs1
  clear hp hq hs1
  go_enter Tryz.func41, Tryz.ntmps41
  go_wp2_with fail
  with_reducible refine H1.out.mono ?_
  rintro _ _ ⟨rfl, rfl⟩
  dsimp only
  go_wp2_with fail
  with_reducible refine (countBits m v pv w hm hv.num h1 h7).mono ?_
  rintro _ w1 ⟨rfl, k1⟩
  have hs2 := bitSize q c ds w1 (HQ.out.frm k1 (fun h => h) (fun h => h))
  generalize hDD : ds.length = D at *
  generalize hCC : ccb m = C at *
  have HDD := Lib.hid hDD
  have HCC := Lib.hid hCC
  clear hDD hCC
  have H2 := Lib.hid hs2
  clear hs2
  dsimp only
  go_wp2_with fail
  with_reducible refine H2.out.mono ?_
  rintro _ _ ⟨rfl, rfl⟩
  dsimp only
  go_wp2
  go_ret
  refine ⟨?_, k1⟩
  rw [HDD.out, HCC.out, Int.natCast_add, Int.natCast_add]
  rfl

set_option maxRecDepth 100000 in
set_option maxHeartbeats 2000000 in
theorem recommend (m l p b q c : Nat) (hs ds : List Bool) (w : World) (hm : IsMode m) (hp : BitA w p b hs) (hq : BitA w q c ds) (hl : l < 4) (hhl : hs.length ≤ 100) (hdl : ds.length ≤ 1000) (hf : fits 7 l (hs.length + ccb m + ds.length)) :
    Calls Tryz.prog 43 #[.int .i64 l, .int .i64 m, .pointer (some ⟨p, 0, none⟩), .pointer (some ⟨q, 0, none⟩)] w fun e w' => ∃ pv v, e = .returned (.tuple #[.pointer (some ⟨pv, 0, none⟩), .nilIface]) ∧ VerAt w' pv v ∧ 1 ≤ v ∧ v ≤ 7 ∧ fits v l (hs.length + ccb m + ds.length) ∧ Kept w w' := by
  have hcc : ccb m ≤ 10 := by unfold ccb; split <;> (try split) <;> omega
  have hB := fun pv v w' (k : Kept w w') hv h1 h7 => bitsNeeded m pv v p b q c hs ds w' hm (hp.frm k (fun h => h) (fun h => h)) (hq.frm k (fun h => h) (fun h => h)) hv h1 h7 hhl hdl
  generalize hN : hs.length + ccb m + ds.length = N at *
  have hNb : N ≤ 2000 := by omega
  have HB := Lib.hid hB
  have HF := Lib.hid hf
  clear hB hf hp hq hN
  have hv1 := versionFor 1 w (by omega) (by omega)
  simp only [Int.cast_ofNat_Int] at hv1
  have HV1 := Lib.hid hv1
  clear hv1
  go_enter Tryz.func43, Tryz.ntmps43
  go_wp2_with fail
  with_reducible refine HV1.out.mono ?_
  rintro _ w1 ⟨pv1, rfl, hv, k1⟩
  have V1 := Lib.hid hv
  clear hv
  dsimp only
  go_wp2_with fail
  with_reducible refine (HB.out pv1 1 w1 k1 V1.out (by omega) (by omega)).mono ?_
  rintro _ w2 ⟨rfl, k2⟩
  dsimp only
  go_wp2_with fail
  with_reducible refine (chooseVersion l N w2 hl hNb HF.out).mono ?_
  rintro _ w3 ⟨pv3, v3, rfl, hv3, a3, b3, _, k3⟩
  have V3 := Lib.hid hv3
  have K3 := Lib.hid ((k1.trans k2).trans k3)
  clear hv3 k1 k2 k3
  dsimp only
  go_wp2_with fail
  with_reducible refine (HB.out pv3 v3 w3 K3.out V3.out a3 b3).mono ?_
  rintro _ w4 ⟨rfl, k4⟩
  dsimp only
  go_wp2_with fail
  with_reducible refine (chooseVersion l N w4 hl hNb HF.out).mono ?_
  rintro _ w5 ⟨pv5, v5, rfl, hv5, a5, b5, f5, k5⟩
  have V5 := Lib.hid hv5
  have F5 := Lib.hid f5
  have K5 := Lib.hid ((K3.out.trans k4).trans k5)
  clear hv5 f5 k4 k5
  dsimp only
  go_wp2
  go_ret2
  exact ⟨pv5, v5, rfl, V5.out, a5, b5, F5.out, K5.out⟩
end Go.Proofs.YtnpkihobbcglcaaGreatDoor

/- N1: The law's own small functions: a text of at most 60 bytes; a level. -/
namespace Go.Proofs.YtnpkihobbcglcaaGreatDoor
open Go Go.RowKit

theorem qrLevel (c : Nat) (w : World) (hc : c < 256) : Calls Tryz.prog 6 #[.int .u8 c] w fun e w' => e = .returned (.int .i64 ((c % 4 : Nat) : Int)) ∧ w = w' := by
  have h : (c : Int).tmod 4 = ((c % 4 : Nat) : Int) := by rw [Int.tmod_eq_emod_of_nonneg (by omega)]; omega
  go_enter Tryz.func6, Tryz.ntmps6
  go_wp2
  go_ret
  exact ⟨rfl, rfl⟩

def alphaArr : Array Value := #[.int .u8 32, .int .u8 36, .int .u8 37, .int .u8 42, .int .u8 43, .int .u8 45, .int .u8 46, .int .u8 47, .int .u8 58]
def arrV : List Nat := [32, 36, 37, 42, 43, 45, 46, 47, 58]
theorem arr_at (k : Nat) (hk : k < 9) (w : World) : (Instr.index 144 (.agg #[.int .u8 32, .int .u8 36, .int .u8 37, .int .u8 42, .int .u8 43, .int .u8 45, .int .u8 46, .int .u8 47, .int .u8 58]) (.int .i64 k)).run Tryz.prog w = .ok (.int .u8 (arrV.getD k 0 : Nat)) w := by
  obtain rfl | rfl | rfl | rfl | rfl | rfl | rfl | rfl | rfl : k = 0 ∨ k = 1 ∨ k = 2 ∨ k = 3 ∨ k = 4 ∨ k = 5 ∨ k = 6 ∨ k = 7 ∨ k = 8 := by omega
  all_goals kernel_rfl

set_option maxRecDepth 100000 in
set_option maxHeartbeats 2000000 in
theorem qrAlpha (c : Nat) (w : World) (hc : c < 256) : Calls Tryz.prog 31 #[.int .u8 c] w fun e w' => (∃ x : Int, e = .returned (.int .i64 x)) ∧ w = w' := by
  have hcase : (48 ≤ c ∧ c ≤ 57) ∨ (c < 48 ∨ 57 < c) := by omega
  rcases hcase with ⟨h1, h2⟩ | h12
  · have d1 : decide ((48 : Int) ≤ c) = true := by simp; omega
    have d2 : decide ((c : Int) ≤ 57) = true := by simp; omega
    go_enter Tryz.func31, Tryz.ntmps31
    go_wp2
    go_ret
    exact ⟨⟨_, rfl⟩, rfl⟩
  · have d1 : decide ((48 : Int) ≤ c) = false ∨ (decide ((48 : Int) ≤ c) = true ∧ decide ((c : Int) ≤ 57) = false) := by simp; omega
    have d2 : (decide ((65 : Int) ≤ c) = true ∧ decide ((c : Int) ≤ 90) = true) ∨ decide ((65 : Int) ≤ c) = false ∨ (decide ((65 : Int) ≤ c) = true ∧ decide ((c : Int) ≤ 90) = false) := by simp; omega
    have HARR := Lib.hid arr_at
    clear h12
    rcases d1 with d1 | ⟨d1, d1'⟩ <;> rcases d2 with ⟨d2, d2'⟩ | d2 | ⟨d2, d2'⟩
    all_goals go_enter Tryz.func31, Tryz.ntmps31
    all_goals go_wp2_with fail
    all_goals first
      | (go_ret; exact ⟨⟨_, rfl⟩, rfl⟩)
      | (go_loopw [3, 4, 27] (fun _ _ i wr => ∃ k : Nat, k ≤ 9 ∧ i = .int .i64 k ∧ wr = w) (fun _ _ i _ => 9 - (intOf i).toNat)
         case atStart => exact ⟨0, by omega, rfl, rfl⟩
         case round =>
           obtain ⟨k, hk, rfl, rfl⟩ := hrel
           by_cases hk9 : k < 9
           · have hdd : decide ((k : Int) < 9) = true := by simp; omega
             have hr := HARR.out k hk9 wr
             generalize arrV.getD k 0 = x at hr
             by_cases hcx : c = x
             · subst hcx
               go_wp2_with fail
               go_ret
               exact ⟨⟨_, rfl⟩, rfl⟩
             · have hne : decide ((c : Int) = x) = false := by simp; omega
               go_wp2_with fail
               exact ⟨⟨k + 1, by omega, by go_num, trivial⟩, by simp [intOf]; omega⟩
           · have hdd : decide ((k : Int) < 9) = false := by simp; omega
             go_wp2_with fail
             go_ret
             exact ⟨⟨_, rfl⟩, rfl⟩)

set_option maxRecDepth 100000 in
set_option maxHeartbeats 2000000 in
theorem qrAlphaByte (n : Int) (w : World) : Calls Tryz.prog 9 #[.int .i64 n] w fun e w' => (∃ x : Nat, e = .returned (.int .u8 x) ∧ x < 256) ∧ w = w' := by
  go_enter Tryz.func9, Tryz.ntmps9
  go_wp2_with fail
  go_loop [3] (fun i => ∃ k : Nat, 32 ≤ k ∧ k ≤ 91 ∧ i = .int .u8 k) (fun i => 91 - (intOf i).toNat)
  case atStart => exact ⟨32, by omega, by omega, rfl⟩
  case round =>
    obtain ⟨k, hk1, hk2, rfl⟩ := hrel
    by_cases h : k ≤ 90
    · have hd : decide ((k : Int) ≤ 90) = true := by simp; omega
      have hw : ((k : Int) + 1) % 256 = (k : Int) + 1 := by omega
      go_wp2_with fail
      with_reducible refine (qrAlpha k w (by omega)).mono ?_
      rintro _ _ ⟨⟨x, rfl⟩, rfl⟩
      dsimp only
      by_cases hx : x = n
      · subst hx
        go_wp2
        go_ret
        exact ⟨⟨k, rfl, by omega⟩, rfl⟩
      · have hd2 : decide (x = n) = false := by simpa using hx
        go_wp2
        exact ⟨⟨k + 1, by omega, by omega, by go_num⟩, by simp [intOf]; omega⟩
    · have hd : decide ((k : Int) ≤ 90) = false := by simp; omega
      go_wp2
      go_ret
      exact ⟨⟨0, rfl, by omega⟩, rfl⟩
end Go.Proofs.YtnpkihobbcglcaaGreatDoor
