/- Bits appended where there is room; exclusive or; the type and version bits. The type and version information laid into a matrix. -/
import Derived.Test.YtnpkihobbcglcaaGreatDoorQ06
import Derived.Test.YtnpkihobbcglcaaGreatDoorQ09
set_option linter.unusedSimpArgs false
set_option linter.unusedVariables false

/- C2: Bits appended where there is room; exclusive or; the type and version bits. -/
namespace Go.Proofs.YtnpkihobbcglcaaGreatDoor
open Go Go.RowKit

set_option maxRecDepth 100000 in
theorem appendBits_room (p b : Nat) (ws : List Nat) (bs : List Bool) (v n : Nat) (w : World) (h : BA w p b ws bs) (hs : bs.length + n ≤ 32 * ws.length) (hn : n ≤ 32) (hv : v < 4294967296) :
    Calls Tryz.prog 83 #[.pointer (some ⟨p, 0, none⟩), .int .i64 (v : Int), .int .i64 (n : Int)] w fun e w' => e = .returned .nilIface ∧ (∃ ws', BA w' p b ws' (bs ++ topBits v n n) ∧ ws'.length = ws.length) ∧ Frm (fun k => k = p ∨ k = b) w w' := by
  have c1 := h.obj.cell 1
  have c0 := h.obj.cell 0
  simp at c0 c1
  have hs0 := h.small
  have H := Lib.hid h
  clear h
  have t1 : decide ((n : Int) < 0) = false := by simp
  have t2 : decide ((32 : Int) < (n : Int)) = false := by simp; omega
  go_enter Tryz.func83, Tryz.ntmps83
  go_wp2_with fail
  with_reducible refine (ensure_room p b ws.length _ _ c0 (by omega) (by omega)).mono ?_
  rintro e _ ⟨rfl, rfl⟩
  have H1 := H
  have H2 := Lib.hid hs
  have H4 := Lib.hid (Frm.refl (fun k => k = p) w)
  clear c0
  go_wp2
  go_loopw [7, 8] (fun nx nl wr => ∃ k : Nat, k ≤ n ∧ nl = .int .i64 ((n : Int) - 1 - k) ∧ nx = .int .i64 ((bs.length : Int) + k) ∧ (∃ ws', BW wr p b bs.length ws' (bs ++ topBits v n k) ∧ ws'.length = ws.length) ∧ Frm (fun k => k = p ∨ k = b) w wr) (fun nx _ _ => bs.length + n - (intOf nx).toNat)
  case atStart =>
    exact ⟨0, Nat.zero_le _, by simp, by simp, ⟨ws, ⟨H1.out.obj, H1.out.words, by simpa [topBits] using H1.out.rep, H1.out.ne, H1.out.small⟩, rfl⟩, H4.out.mono (fun _ _ h => .inl h)⟩
  case round =>
    obtain ⟨k, hk, rfl, rfl, ⟨ws', hb, hl⟩, hf⟩ := hrel
    have h2 := H2.out
    by_cases hlt : k < n
    · have ht := test_i64 v (n - 1 - k) (by omega) (by omega)
      have ha := and31_i64 (bs.length + k) (by omega)
      have hL : (bs ++ topBits v n k).length = bs.length + k := by simp [topBits_length]
      have hmod : (((bs.length + k) % 32 : Nat) : Int) = ((bs.length : Int) + k) % 32 := by omega
      have e0 : (bs.length + k) / 32 < ws'.length := by omega
      have c0 := hb.obj.cell 0
      simp at c0
      have d0 := hb.words.cell ((bs.length + k) / 32) e0
      have g0 := hb.words.free ((bs.length + k) / 32)
      have hq : (0 : Int) ≤ ((bs.length : Int) + k) / 32 := by omega
      have hq2 : ((bs.length : Int) + k) / 32 < (ws'.length : Int) := by omega
      have hs3 := hb.small
      rw [hmod] at ha
      simp only [Int.natCast_add] at ha
      have hT := topBits_succ v n k
      have HB := Lib.hid hb
      have HT := Lib.hid hT
      have HLn := Lib.hid hL
      have HF := Lib.hid hf
      have HE := Lib.hid hl
      clear hb hT hL hf hmod hl
      cases hbit : v.testBit (n - 1 - k)
      · rw [hbit] at ht
        have HBit := Lib.hid hbit
        clear hbit
        go_wp2
        refine ⟨⟨k + 1, by omega, by go_num, by go_num, ⟨ws', ?_, HE.out⟩, HF.out⟩, by simp [intOf]; omega⟩
        rw [HT.out, HBit.out, ← List.append_assoc]
        exact HB.out.push_false (by rw [HLn.out]; have := HE.out; omega)
      · rw [hbit] at ht
        have HBit := Lib.hid hbit
        clear hbit
        go_wp2
        refine wp_region_quiet_tail 13 (by kernel_rfl) (by kernel_rfl) ?_
        simp only [List.take_succ_cons, List.take_zero, List.drop_succ_cons, List.drop_zero]
        repeat (go_big_quiet_step (fail))
        refine wpQuiet_nil ?_
        intro _ hw'
        obtain ⟨nq, hw''⟩ := hw'
        subst hw''
        go_wp2
        have hB := (HB.out.drewN nq).push_true (by rw [HLn.out]; have := HE.out; omega)
        rw [HLn.out] at hB
        have e1 : ws'.getD ((bs.length + k) / 32) 0 = ws'[(bs.length + k) / 32] := by simp [e0]
        have e2 := or_word (ws'.getD ((bs.length + k) / 32) 0) ((bs.length + k) % 32) (HB.out.rep.at_lt _) (by omega)
        rw [e1] at e2
        rw [e2]
        rw [e1] at hB
        refine ⟨⟨k + 1, by omega, by go_num, by go_num, ⟨ws'.set ((bs.length + k) / 32) (ws'[(bs.length + k) / 32] ||| 2 ^ ((bs.length + k) % 32)), ?_, by simpa using HE.out⟩, (HF.out.drewN nq).setCell ?_ _⟩, by simp [intOf]; omega⟩
        · rw [HT.out, HBit.out, ← List.append_assoc]; exact hB
        · exact .inl (.inr rfl)
    · obtain rfl : n = k := by omega
      have c1' := hb.obj.cell 1
      have f1 := hb.obj.free 1
      simp at c1'
      have HB := Lib.hid hb
      have HF := Lib.hid hf
      have HL := Lib.hid hl
      clear hb hf hl
      go_wp2
      go_ret
      refine ⟨rfl, ⟨ws', ?_, HL.out⟩, HF.out.setCell (.inl (.inl rfl)) _⟩
      have := HB.out.done
      simpa [topBits_length] using this

theorem Rep.xor {a e : Nat} {bs cs : List Bool} (h : Rep [a] bs) (k : Rep [e] cs) (hl : bs.length = cs.length) : Rep [a ^^^ e] (List.zipWith (fun x y => x ^^ y) bs cs) where
  rng := by
    intro x hx
    simp only [List.mem_singleton] at hx
    subst hx
    have h1 := h.rng a (by simp)
    have h2 := k.rng e (by simp)
    exact Nat.xor_lt_two_pow (n := 32) h1 h2
  len := by have := h.len; simp at this ⊢; omega
  bit := by
    intro i hi
    have h1 := h.bit i hi
    have h2 := k.bit i hi
    simp only [wordBit, List.length_singleton] at h1 h2 hi ⊢
    have hi0 : i / 32 = 0 := by omega
    rw [hi0] at h1 h2 ⊢
    simp only [List.getD_cons_zero] at h1 h2 ⊢
    rw [Nat.testBit_xor, h1, h2]
    by_cases hb : i < bs.length
    · simp [List.getD_eq_getElem?_getD, List.getElem?_zipWith, hb, hl ▸ hb]
    · simp [List.getD_eq_getElem?_getD, List.getElem?_zipWith, hb, show ¬ i < cs.length from hl ▸ hb]

set_option maxRecDepth 100000 in
theorem xor_any (p b q c a d : Nat) (bs cs : List Bool) (w : World) (h : BA w p b [a] bs) (hq : BA w q c [d] cs) (hl : bs.length = cs.length) :
    Calls Tryz.prog 181 #[.pointer (some ⟨p, 0, none⟩), .pointer (some ⟨q, 0, none⟩)] w fun e w' => e = .returned .nilIface ∧ BA w' p b [a ^^^ d] (List.zipWith (fun x y => x ^^ y) bs cs) ∧ Frm (fun k => k = b) w w' := by
  have c0 := h.obj.cell 0
  have c1 := h.obj.cell 1
  have d0 := hq.obj.cell 0
  have d1 := hq.obj.cell 1
  simp at c0 c1 d0 d1
  have e0 := h.words.cell 0 (by simp)
  have f0 := hq.words.cell 0 (by simp)
  simp at e0 f0
  have g0 := h.words.free 0
  have hx := u32_xor_nat a d (h.rep.rng a (by simp)) (hq.rep.rng d (by simp))
  have hR := h.rep.xor hq.rep hl
  have hz : (List.zipWith (fun x y => x ^^ y) bs cs).length = bs.length := by simp; omega
  have HR := Lib.hid hR
  have HZ := Lib.hid hz
  have H := Lib.hid h
  clear h hq hR hz
  have hn : ((bs.length : Int) != (cs.length : Int)) = false := by simp; omega
  go_enter Tryz.func181, Tryz.ntmps181
  go_wp2
  go_quiet (fail)
  go_wp2
  go_loopw [5] (fun i wr => ∃ k : Nat, k ≤ 1 ∧ i = .int .i64 k ∧ ((k = 0 ∧ ∃ m, wr = w.drewN m) ∨ (k = 1 ∧ ∃ m, wr = (w.drewN m).setCell ⟨b, 0, none⟩ (.int .u32 (a ^^^ d : Nat))))) (fun i _ => 1 - (intOf i).toNat)
  case atStart => exact ⟨0, by omega, rfl, .inl ⟨rfl, _, rfl⟩⟩
  case round =>
    obtain ⟨k, hk, rfl, ⟨rfl, m, rfl⟩ | ⟨rfl, m, rfl⟩⟩ := hrel
    · go_wp2
      refine wp_region_quiet_tail 16 (by kernel_rfl) (by kernel_rfl) ?_
      simp only [List.take_succ_cons, List.take_zero, List.drop_succ_cons, List.drop_zero]
      repeat (go_big_quiet_step (fail))
      refine wpQuiet_nil ?_
      intro _ hw'
      obtain ⟨nq2, hw''⟩ := hw'
      subst hw''
      go_wp2
      refine ⟨⟨1, by omega, by go_num, .inr ⟨rfl, m + nq2, ?_⟩⟩, by simp [intOf]⟩
      rfl
    · have hB : BA ((w.drewN m).setCell ⟨b, 0, none⟩ (.int .u32 (a ^^^ d : Nat))) p b [a ^^^ d] (List.zipWith (fun x y => x ^^ y) bs cs) :=
        ⟨by have := (Blk.setOther (H.out.drewN m).obj (a := ⟨b, 0, none⟩) H.out.ne (.int .u32 (a ^^^ d : Nat))); rw [HZ.out]; exact this, (H.out.drewN m).words.set 0 (a ^^^ d), HR.out, H.out.ne, by simp⟩
      have hF : Frm (fun k => k = b) w ((w.drewN m).setCell ⟨b, 0, none⟩ (.int .u32 (a ^^^ d : Nat))) := ((Frm.refl (fun k => k = b) w).drewN m).setCell (p := ⟨b, 0, none⟩) (.inl rfl) _
      generalize (w.drewN m).setCell ⟨b, 0, none⟩ (.int .u32 (a ^^^ d : Nat)) = w2 at hB hF
      have c2 := hB.obj.cell 0
      simp at c2
      have HB := Lib.hid hB
      clear hB
      go_wp2
      go_ret
      exact ⟨rfl, HB.out, hF⟩

theorem emptyBits (w : World) : Calls Tryz.prog 34 #[] w fun e w' => ∃ p b, e = .returned (.pointer (some ⟨p, 0, none⟩)) ∧ BA w' p b [0] [] ∧ Kept w w' ∧ w.heap.size ≤ p ∧ w.heap.size ≤ b := by
  go_enter Tryz.func34, Tryz.ntmps34
  go_wp2_with fail
  refine (makeArray_any 1 _ (by omega)).mono ?_
  rintro e _ ⟨rfl, rfl⟩
  go_wp2
  go_ret
  refine ⟨w.heap.size + 1, w.heap.size, ?_, ⟨?_, ?_, ?_, by omega, by simp⟩, ?_, by omega, by omega⟩
  · rfl
  · have := Blk.new (w.alloc (.cells (natCells .u32 [0]) 204)) #[.slice (some ⟨w.heap.size, 0, none⟩) 1 1, .int .i64 0] 154
    simpa using this
  · exact (Nats.new w .u32 204 [0]).alloc _
  · exact Rep.zeros 1
  · exact ((Frm.refl _ _).alloc _).alloc _

theorem bitSize (p b : Nat) (bs : List Bool) (w : World) (h : BitA w p b bs) : Calls Tryz.prog 91 #[.pointer (some ⟨p, 0, none⟩)] w fun e w' => e = .returned (.int .i64 bs.length) ∧ w = w' := by
  have c := h.size
  clear h
  go_enter Tryz.func91, Tryz.ntmps91
  go_wp2
  go_ret
  exact ⟨rfl, rfl⟩
theorem maskValid (m : Nat) (w : World) (h : m < 8) : Calls Tryz.prog 59 #[.int .i64 m] w fun e w' => e = .returned (.bool true) ∧ w = w' := by
  go_enter Tryz.func59, Tryz.ntmps59
  go_wp2
  go_ret
  refine ⟨?_, rfl⟩
  exact congrArg (fun z => Ending.returned (Value.bool z)) (by simp; omega)
theorem levelBits (l : Int) (w : World) : Calls Tryz.prog 16 #[.int .i64 l] w fun e w' => e = .returned (.int .i64 l) ∧ w = w' := by
  go_enter Tryz.func16, Tryz.ntmps16
  go_wp2
  go_ret
  exact ⟨rfl, rfl⟩

def bchNum (q x : Nat) : Nat := ((List.range 8).find? (bchOk q x ·)).getD 0
def bchRes (q x : Nat) : Nat := bchSeq q (bchNum q x) x
theorem bch_type : ∀ t, t < 32 → bchOk 1335 (t <<< 10) (bchNum 1335 (t <<< 10)) = true ∧ bchNum 1335 (t <<< 10) ≤ 8 ∧ bchRes 1335 (t <<< 10) < 65536 := by decide +kernel
def bch7 : Nat := bchRes 7973 (7 <<< 12)
theorem bch_seven : bchOk 7973 (7 <<< 12) (bchNum 7973 (7 <<< 12)) = true ∧ bchNum 7973 (7 <<< 12) ≤ 8 ∧ bchRes 7973 (7 <<< 12) < 65536 := by decide +kernel
theorem msb1335 : msb 1335 = 11 ∧ msb 7973 = 13 := by decide +kernel
/-- The fifteen bits of the type: five of data, ten of check, under the fixed mask. -/
def typeBits (t : Nat) : List Bool := List.zipWith (fun x y => x ^^ y) (topBits t 5 5 ++ topBits (bchRes 1335 (t <<< 10)) 10 10) (topBits 21522 15 15)
def versionBits7 : List Bool := topBits 7 6 6 ++ topBits bch7 12 12

theorem one_word {w : World} {p b : Nat} {ws : List Nat} {bs : List Bool} (h : BA w p b ws bs) (hl : ws.length = 1) : ∃ a, BA w p b [a] bs := by
  match ws, hl with
  | [a], _ => exact ⟨a, h⟩

theorem bch1335 (t : Nat) (w : World) (ht : t < 32) : Calls Tryz.prog 180 #[.int .i64 (t : Int), .int .i64 1335] w fun e w' => e = .returned (.tuple #[.int .i64 (bchRes 1335 (t <<< 10) : Nat), .nilIface]) ∧ w = w' := by
  obtain ⟨o1, o2, o3⟩ := bch_type t ht
  have hbch := bch_any t 1335 (bchNum 1335 (t <<< 10)) w
  rw [msb1335.1] at hbch
  exact hbch (by omega) (by omega) (by omega) (by omega) o1
theorem bch7973 (w : World) : Calls Tryz.prog 180 #[.int .i64 7, .int .i64 7973] w fun e w' => e = .returned (.tuple #[.int .i64 (bch7 : Nat), .nilIface]) ∧ w = w' := by
  obtain ⟨o1, o2, o3⟩ := bch_seven
  have hbch := bch_any 7 7973 (bchNum 7973 (7 <<< 12)) w
  rw [msb1335.2] at hbch
  exact hbch (by omega) (by omega) (by omega) (by omega) o1

theorem typeInfoBits (p b l m : Nat) (w : World) (h : BA w p b [0] []) (hl : l < 4) (hm : m < 8) :
    Calls Tryz.prog 139 #[.int .i64 l, .int .i64 m, .pointer (some ⟨p, 0, none⟩)] w fun e w' => e = .returned .nilIface ∧ BitA w' p b (typeBits (l * 8 + m)) ∧ Frm (fun k => k = p ∨ k = b) w w' := by
  have lp := h.obj.lt
  have lb := h.words.lt
  have hor : bits .or .i64 (((l <<< 3 : Nat)) : Int) (m : Int) = ((l * 8 + m : Nat) : Int) := by
    rw [i64_or _ _ (by rw [Nat.shiftLeft_eq]; omega) (by omega)]
    have : ∀ l, l < 4 → ∀ m, m < 8 → l <<< 3 ||| m = l * 8 + m := by decide
    rw [this l hl m hm]
  rw [show l <<< 3 = l * 8 from Nat.shiftLeft_eq _ _] at hor
  have ht : l * 8 + m < 32 := by omega
  generalize hT : l * 8 + m = t at hor ht
  simp only [Int.natCast_mul, Int.cast_ofNat_Int] at hor
  have HT := Lib.hid hT
  clear hT
  obtain ⟨o1, o2, o3⟩ := bch_type t ht
  clear o1 o2
  have hr : bchRes 1335 (t <<< 10) < 4294967296 := by omega
  have HR := Lib.hid hr
  clear o3 hr
  go_enter Tryz.func139, Tryz.ntmps139
  go_wp2_with fail
  with_reducible refine (maskValid m _ hm).mono ?_
  rintro e _ ⟨rfl, rfl⟩
  go_wp2_with fail
  with_reducible refine (levelBits _ _).mono ?_
  rintro e _ ⟨rfl, rfl⟩
  go_wp2_with fail
  have hA := appendBits_room p b [0] [] t 5 w h (by simp) (by omega) (by omega)
  simp only [Int.cast_ofNat_Int] at hA
  with_reducible refine hA.mono ?_
  clear hA
  rintro e w1 ⟨rfl, ⟨ws1, b1, l1⟩, f1⟩
  obtain ⟨a1, b1⟩ := one_word b1 (by simpa using l1)
  go_wp2_with fail
  refine (bch1335 t _ ht).mono ?_
  rintro e _ ⟨rfl, rfl⟩
  go_wp2_with fail
  have hA := appendBits_room p b [a1] _ (bchRes 1335 (t <<< 10)) 10 w1 b1 (by simp [topBits_length]) (by omega) (by exact HR.out)
  simp only [Int.cast_ofNat_Int] at hA
  with_reducible refine hA.mono ?_
  clear hA
  rintro e w2 ⟨rfl, ⟨ws2, b2, l2⟩, f2⟩
  obtain ⟨a2, b2⟩ := one_word b2 (by simpa using l2)
  go_wp2_with fail
  with_reducible refine (emptyBits _).mono ?_
  rintro e w3 ⟨q, c, rfl, b3, f3, g1, g2⟩
  go_wp2_with fail
  have hA := appendBits_room q c [0] [] 21522 15 w3 b3 (by simp) (by omega) (by omega)
  simp only [Int.cast_ofNat_Int] at hA
  with_reducible refine hA.mono ?_
  clear hA
  rintro e w4 ⟨rfl, ⟨ws4, b4, l4⟩, f4⟩
  obtain ⟨a4, b4⟩ := one_word b4 (by simpa using l4)
  have b5 : BA w4 p b [a2] ([] ++ topBits t 5 5 ++ topBits (bchRes 1335 (t <<< 10)) 10 10) := by
    have s1 := f1.size
    have s2 := f2.size
    have s3 := f3.size
    exact (b2.frm f3 (fun h => h) (fun h => h)).frm f4 (by omega) (by omega)
  go_wp2_with fail
  refine (xor_any p b q c a2 a4 _ _ _ b5 b4 (by simp [topBits_length])).mono ?_
  rintro e w5 ⟨rfl, b6, f6⟩
  have b7 : BitA w5 p b (typeBits t) := ⟨_, b6⟩
  have hlen : (typeBits t).length = 15 := by simp [typeBits, topBits_length]
  have hc := b7.size
  rw [hlen] at hc
  go_wp2_with fail
  refine (bitSize p b _ _ b7).mono ?_
  rintro e _ ⟨rfl, rfl⟩
  rw [hlen]
  go_wp2
  go_ret
  refine ⟨rfl, ?_, ?_⟩
  · exact b7
  · have s1 := f1.size
    have s2 := f2.size
    have s3 := f3.size
    exact (((f1.trans f2).trans f3.toFrm).step f4 (by omega)).step f6 (fun _ _ h => .inr h)

end Go.Proofs.YtnpkihobbcglcaaGreatDoor

/- C3: The type and version information laid into a matrix. -/
namespace Go.Proofs.YtnpkihobbcglcaaGreatDoor
open Go Go.RowKit

set_option maxRecDepth 100000 in
theorem versionInfoBits (pv p b : Nat) (w : World) (h : BA w p b [0] []) (hv : w.cell? ⟨pv, 0, none⟩ = some (.int .i64 7)) (hp : pv ≠ p) (hb : pv ≠ b) :
    Calls Tryz.prog 142 #[.pointer (some ⟨pv, 0, none⟩), .pointer (some ⟨p, 0, none⟩)] w fun e w' => e = .returned .nilIface ∧ Grew w w' p b versionBits7 := by
  have lp := h.obj.lt
  have lb := h.words.lt
  have lv := World.block_lt_of_cell? _ _ hv
  obtain ⟨o1, o2, o3⟩ := bch_seven
  clear o1 o2
  have hr : bch7 < 4294967296 := by unfold bch7; omega
  have HR := Lib.hid hr
  clear o3 hr
  go_enter Tryz.func142, Tryz.ntmps142
  go_wp2_with fail
  with_reducible refine (versionNumber pv 7 _ hv).mono ?_
  rintro e _ ⟨rfl, rfl⟩
  go_wp2_with fail
  have hA := appendBits_any p b [] 7 6 w ⟨_, h⟩ (by simp) (by omega) (by omega)
  simp only [Int.cast_ofNat_Int] at hA
  with_reducible refine hA.mono ?_
  clear hA
  rintro e w1 ⟨rfl, ⟨⟨b1, a1, c1⟩, f1⟩⟩
  have hv1 : w1.cell? ⟨pv, 0, none⟩ = some (.int .i64 7) := by rw [f1.cell lv (by simp; omega)]; exact hv
  go_wp2_with fail
  with_reducible refine (versionNumber pv 7 _ hv1).mono ?_
  rintro e _ ⟨rfl, rfl⟩
  go_wp2_with fail
  with_reducible refine (bch7973 _).mono ?_
  rintro e _ ⟨rfl, rfl⟩
  go_wp2_with fail
  have hA := appendBits_any p b1 _ bch7 12 w1 a1 (by simp [topBits_length]) (by omega) (by exact HR.out)
  simp only [Int.cast_ofNat_Int] at hA
  with_reducible refine hA.mono ?_
  clear hA
  rintro e w2 ⟨rfl, ⟨⟨b2, a2, c2⟩, f2⟩⟩
  have b7 : BitA w2 p b2 versionBits7 := by simpa [versionBits7] using a2
  have hlen : versionBits7.length = 18 := by simp [versionBits7, topBits_length]
  go_wp2_with fail
  with_reducible refine (bitSize p b2 _ _ b7).mono ?_
  rintro e _ ⟨rfl, rfl⟩
  rw [hlen]
  go_wp2
  go_ret
  have s1 := f1.size
  refine ⟨rfl, ⟨b2, b7, ?_⟩, f1.step f2 (by intro k hk h; rcases c1 with c | c <;> omega)⟩
  rcases c1 with c | c <;> omega

theorem BM.lt {w : World} {p r n : Nat} {g : Grid} (h : BM w p r n g) : p < w.heap.size ∧ r < w.heap.size ∧ ∀ k, InM r n k → k < w.heap.size := by
  refine ⟨h.obj.lt, h.tab.lt, fun k hk => ?_⟩
  have := (h.row (k - r - 1) (by unfold InM at hk; omega)).lt
  unfold InM at hk
  omega

def bit01 (b : Bool) : Int := if b then 1 else 0
def ticAt (i c : Nat) : Int := (ticRows.getD i []).getD c 0
def typeStep (n : Nat) (bits : List Bool) (i : Nat) (g : Grid) : Grid :=
  let v := bit01 (bits.getD (14 - i) false)
  let g1 := gset g (ticAt i 0).toNat (ticAt i 1).toNat v
  if i < 8 then gset g1 (n - i - 1) 8 v else gset (gset g1 8 (n - 7 + (i - 8)) v) 8 (n - 7 + (i - 8)) v
def typeG (n : Nat) (bits : List Bool) (k : Nat) (g : Grid) : Grid := iterN (typeStep n bits) k g
theorem tic_ok : ∀ i, i < 15 → (ticRows.getD i []).length = 2 ∧ 0 ≤ ticAt i 0 ∧ ticAt i 0 ≤ 8 ∧ 0 ≤ ticAt i 1 ∧ ticAt i 1 ≤ 8 ∧ i ∈ [0, 1, 2, 3, 4, 5, 6, 7, 8, 9, 10, 11, 12, 13, 14] := by decide

set_option maxRecDepth 100000 in
set_option maxHeartbeats 4000000 in
theorem embedType (p r n l m : Nat) (g : Grid) (w : World) (h : BM w p r n g) (hn : 21 ≤ n) (hl : l < 4) (hm : m < 8) :
    Calls Tryz.prog 107 #[.int .i64 l, .int .i64 m, .pointer (some ⟨p, 0, none⟩)] w fun e w' => e = .returned .nilIface ∧ BM w' p r n (typeG n (typeBits (l * 8 + m)) 15 g) ∧ Frm (InM r n) w w' := by
  have hs := h.small
  have hlen : (typeBits (l * 8 + m)).length = 15 := by simp [typeBits, topBits_length]
  have htic := tic_ok
  have HTIC := Lib.hid htic
  have lM := h.lt
  clear htic
  go_enter Tryz.func107, Tryz.ntmps107
  go_wp2_with fail
  with_reducible refine (emptyBits _).mono ?_
  rintro e w1 ⟨q, c, rfl, b1, k1, q1, c1⟩
  have m1 := h.kept k1
  have lq := b1.obj.lt
  have lc := b1.words.lt
  have nq := h.notIn q1
  have nc := h.notIn c1
  go_wp2_with fail
  with_reducible refine (typeInfoBits q c l m _ b1 hl hm).mono ?_
  rintro e w2 ⟨rfl, b2, f2⟩
  have m2 := m1.frm f2 (by have := lM.1; omega) (by have := lM.2.1; omega) (by intro k hk h; have := lM.2.2 k hk; omega)
  have F2 : Frm (InM r n) w w2 := k1.toFrm.step f2 (by have := k1.size; intro k hk h; rcases h with h | h <;> omega)
  generalize hTB : typeBits (l * 8 + m) = tb at hlen b2
  have HTB := Lib.hid hTB
  clear hTB
  go_wp2
  go_loopw [9] (fun i wr => ∃ k : Nat, k ≤ 15 ∧ i = .int .i64 k ∧ BM wr p r n (typeG n tb k g) ∧ BitA wr q c tb ∧ Frm (InM r n) w wr) (fun i _ => 15 - (intOf i).toNat)
  case atStart => exact ⟨0, Nat.zero_le _, rfl, m2, b2, F2⟩
  case round =>
    obtain ⟨k, hk, rfl, mb, bb, fb⟩ := hrel
    clear m1 m2 b1 b2 k1 f2 F2 lM
    by_cases hlt : k < 15
    · obtain ⟨t1, t2, t3, t4, t5, t6⟩ := HTIC.out k hlt
      have T6 := Lib.hid t6
      clear t6
      have hS : typeG n tb (k + 1) g = typeStep n tb k (typeG n tb k g) := rfl
      have HS := Lib.hid hS
      clear hS
      generalize typeG n tb k g = G at mb HS
      go_wp2_with fail
      with_reducible refine (bitSize q c _ _ bb).mono ?_
      rintro e _ ⟨rfl, rfl⟩
      rw [hlen]
      go_wp2_with fail
      with_reducible refine (bitSize q c _ _ bb).mono ?_
      rintro e _ ⟨rfl, rfl⟩
      rw [hlen]
      go_wp2_with fail
      with_reducible refine (getBit_any q c _ _ _ bb (by omega) (by omega)).mono ?_
      rintro e _ ⟨rfl, rfl⟩
      go_wp2_with fail
      with_reducible refine (tic_any _).mono ?_
      rintro e w3 ⟨⟨tb3, rfl, htb1, htb2, htab⟩, hk3⟩
      obtain ⟨b, hb, hb2, hb3⟩ := htab k T6.out
      have mb3 := mb.kept hk3
      have bb3 := bb.frm hk3 (fun h => h) (fun h => h)
      rw [t1] at hb2
      have e0 := hb3.cell 0 (by omega)
      have e1 := hb3.cell 1 (by omega)
      have fb3 := fb.trans hk3.toFrm
      clear mb bb hk3 fb htab hb3
      change w3.cell? _ = some (.int .i64 (ticAt k 0)) at e0
      change w3.cell? _ = some (.int .i64 (ticAt k 1)) at e1
      have hv : tb.getD (14 - k) false = (tb[14 - k]?.getD false) := List.getD_eq_getElem?_getD
      unfold typeStep at HS
      rw [hv] at HS
      clear hv
      simp only [bit01] at HS
      generalize (tb[14 - k]?.getD false) = bv at HS ⊢
      generalize ticAt k 0 = x at *
      generalize ticAt k 1 = y at *
      go_wp2_with fail
      with_reducible refine (bmSetBool p r n G x y bv _ mb3 (by omega) (by omega) (by omega) (by omega)).mono ?_
      rintro e w4 ⟨rfl, mb4, f4⟩
      have bb4 := bb3.frm f4 nq nc
      have fb4 := fb3.trans f4
      clear mb3 bb3 f4 fb3
      by_cases h8 : k < 8
      · rw [if_pos h8] at HS
        go_wp2_with fail
        with_reducible refine (bmWidth p r n _ _ mb4).mono ?_
        rintro e _ ⟨rfl, rfl⟩
        go_wp2_with fail
        with_reducible refine (bmSetBool p r n _ _ _ bv _ mb4 (by omega) (by omega) (by omega) (by omega)).mono ?_
        rintro e w5 ⟨rfl, mb5, f5⟩
        have bb5 := bb4.frm f5 nq nc
        go_wp2
        refine ⟨⟨k + 1, by omega, by go_num, ?_, bb5, fb4.trans f5⟩, by simp [intOf]; omega⟩
        rw [HS.out]
        have e1 : ((n : Int) - k - 1).toNat = n - k - 1 := by omega
        rw [e1] at mb5
        exact mb5
      · rw [if_neg h8] at HS
        go_wp2_with fail
        with_reducible refine (bmHeight p r n _ _ mb4).mono ?_
        rintro e _ ⟨rfl, rfl⟩
        go_wp2_with fail
        with_reducible refine (bmSetBool p r n _ _ _ bv _ mb4 (by omega) (by omega) (by omega) (by omega)).mono ?_
        rintro e w5 ⟨rfl, mb5, f5⟩
        have bb5 := bb4.frm f5 nq nc
        go_wp2_with fail
        with_reducible refine (bmSetBool p r n _ _ _ bv _ mb5 (by omega) (by omega) (by omega) (by omega)).mono ?_
        rintro e w6 ⟨rfl, mb6, f6⟩
        have bb6 := bb5.frm f6 nq nc
        go_wp2
        refine ⟨⟨k + 1, by omega, by go_num, ?_, bb6, (fb4.trans f5).trans f6⟩, by simp [intOf]; omega⟩
        rw [HS.out]
        have e1 : ((n : Int) - 7 + ((k : Int) - 8)).toNat = n - 7 + (k - 8) := by omega
        rw [e1] at mb6
        exact mb6
    · obtain rfl : k = 15 := by omega
      go_wp2_with fail
      with_reducible refine (bitSize q c _ _ bb).mono ?_
      rintro e _ ⟨rfl, rfl⟩
      rw [hlen]
      go_wp2
      go_ret
      exact ⟨rfl, by rw [HTB.out]; exact mb, fb⟩

def verCell (n : Nat) (bits : List Bool) (i j : Nat) (g : Grid) : Grid :=
  let v := bit01 (bits.getD (17 - (3 * i + j)) false)
  gset (gset g i (n - 11 + j) v) (n - 11 + j) i v
def verRow (n : Nat) (bits : List Bool) (i k : Nat) (g : Grid) : Grid := iterN (fun j g => verCell n bits i j g) k g
def verG (n : Nat) (bits : List Bool) (k : Nat) (g : Grid) : Grid := iterN (fun i g => verRow n bits i 3 g) k g
def maybeVerG (v : Nat) (g : Grid) : Grid := if v < 7 then g else verG (dim v) versionBits7 6 g

set_option maxRecDepth 100000 in
set_option maxHeartbeats 4000000 in
theorem embedVersion (pv p r v : Nat) (g : Grid) (w : World) (h : BM w p r (dim v) g) (h1 : 1 ≤ v) (h7 : v ≤ 7) (hv : w.cell? ⟨pv, 0, none⟩ = some (.int .i64 v)) :
    Calls Tryz.prog 108 #[.pointer (some ⟨pv, 0, none⟩), .pointer (some ⟨p, 0, none⟩)] w fun e w' => e = .returned .nilIface ∧ BM w' p r (dim v) (maybeVerG v g) ∧ Frm (InM r (dim v)) w w' := by
  by_cases hv7 : v < 7
  · have hd : decide ((v : Int) < 7) = true := by simp; omega
    go_enter Tryz.func108, Tryz.ntmps108
    go_wp2_with fail
    with_reducible refine (versionNumber pv _ _ hv).mono ?_
    rintro e _ ⟨rfl, rfl⟩
    go_wp2
    go_ret
    exact ⟨rfl, by rw [maybeVerG, if_pos hv7]; exact h, Frm.refl _ _⟩
  · have hd : decide ((v : Int) < 7) = false := by simp; omega
    obtain rfl : v = 7 := by omega
    have hn : dim 7 = 45 := rfl
    have hG : maybeVerG 7 g = verG 45 versionBits7 6 g := rfl
    rw [hn] at h ⊢
    rw [hG]
    clear hG hn hv7
    have lM := h.lt
    have lv := World.block_lt_of_cell? _ _ hv
    have hlen : versionBits7.length = 18 := by simp [versionBits7, topBits_length]
    go_enter Tryz.func108, Tryz.ntmps108
    go_wp2_with fail
    with_reducible refine (versionNumber pv _ _ hv).mono ?_
    rintro e _ ⟨rfl, rfl⟩
    go_wp2_with fail
    with_reducible refine (emptyBits _).mono ?_
    rintro e w1 ⟨q, c, rfl, b1, k1, q1, c1⟩
    have m1 := h.kept k1
    have lq := b1.obj.lt
    have lc := b1.words.lt
    have nq := h.notIn q1
    have hv1 : w1.cell? ⟨pv, 0, none⟩ = some (.int .i64 7) := by rw [k1.cell lv (fun h => h)]; exact hv
    go_wp2_with fail
    with_reducible refine (versionInfoBits pv q c _ b1 hv1 (by omega) (by omega)).mono ?_
    rintro e w2 ⟨rfl, ⟨⟨c2, b2, hc2⟩, f2⟩⟩
    have s1 := k1.size
    have nc : ¬ InM r 45 c2 := by
      intro hx; have := lM.2.2 _ hx; rcases hc2 with hh | hh <;> omega
    have m2 := m1.frm f2 (by have := lM.1; omega) (by have := lM.2.1; omega) (by intro k hk h; have := lM.2.2 k hk; omega)
    have F2 : Frm (InM r 45) w w2 := k1.toFrm.step f2 (by intro k hk h; rcases h with h | h <;> omega)
    generalize hTB : versionBits7 = tb at hlen b2
    have HTB := Lib.hid hTB
    clear hTB m1 f2 k1 b1 hv1 hc2 c1 lc h
    go_wp2
    go_loopw [7, 8, 9, 10] (fun bi i _ _ wr => ∃ k : Nat, k ≤ 6 ∧ i = .int .i64 k ∧ bi = .int .i64 (17 - 3 * (k : Int)) ∧ BM wr p r 45 (verG 45 tb k g) ∧ BitA wr q c2 tb ∧ Frm (InM r 45) w wr) (fun _ i _ _ _ => 6 - (intOf i).toNat)
    case atStart => exact ⟨0, Nat.zero_le _, rfl, rfl, m2, b2, F2⟩
    case round =>
      obtain ⟨k, hk, rfl, rfl, mb, bb, fb⟩ := hrel
      clear m2 b2 F2
      by_cases hlt : k < 6
      · have hS : verG 45 tb (k + 1) g = verRow 45 tb k 3 (verG 45 tb k g) := rfl
        have HS := Lib.hid hS
        clear hS
        generalize verG 45 tb k g = G at mb HS
        have hd6 : decide ((k : Int) < 6) = true := by simp; omega
        go_wp2
        go_loopw [7, 9, 10] (fun bi j _ wx => ∃ m : Nat, m ≤ 3 ∧ j = .int .i64 m ∧ bi = .int .i64 (17 - 3 * (k : Int) - m) ∧ BM wx p r 45 (verRow 45 tb k m G) ∧ BitA wx q c2 tb ∧ Frm (InM r 45) w wx) (fun _ j _ _ => 3 - (intOf j).toNat)
        case atStart => exact ⟨0, Nat.zero_le _, rfl, by simp, mb, bb, fb⟩
        case round =>
          obtain ⟨m, hm, rfl, rfl, mb, bb, fb⟩ := hrel
          by_cases hlm : m < 3
          · have hS2 : verRow 45 tb k (m + 1) G = verCell 45 tb k m (verRow 45 tb k m G) := rfl
            have HS2 := Lib.hid hS2
            clear hS2
            generalize verRow 45 tb k m G = G2 at mb HS2
            go_wp2_with fail
            with_reducible refine (getBit_any q c2 _ _ _ bb (by omega) (by omega)).mono ?_
            rintro e _ ⟨rfl, rfl⟩
            have e1 : (17 - 3 * (k : Int) - m).toNat = 17 - (3 * k + m) := by omega
            rw [e1]
            unfold verCell at HS2
            generalize tb.getD (17 - (3 * k + m)) false = bv at HS2 ⊢
            have HE := Lib.hid e1
            clear e1
            simp only [bit01] at HS2
            go_wp2_with fail
            with_reducible refine (bmHeight p r 45 _ _ mb).mono ?_
            rintro e _ ⟨rfl, rfl⟩
            go_wp2_with fail
            with_reducible refine (bmSetBool p r 45 _ _ _ bv _ mb (by omega) (by omega) (by omega) (by omega)).mono ?_
            rintro e w4 ⟨rfl, mb4, f4⟩
            have bb4 := bb.frm f4 nq nc
            go_wp2_with fail
            with_reducible refine (bmHeight p r 45 _ _ mb4).mono ?_
            rintro e _ ⟨rfl, rfl⟩
            go_wp2_with fail
            with_reducible refine (bmSetBool p r 45 _ _ _ bv _ mb4 (by omega) (by omega) (by omega) (by omega)).mono ?_
            rintro e w5 ⟨rfl, mb5, f5⟩
            have bb5 := bb4.frm f5 nq nc
            go_wp2
            refine ⟨⟨m + 1, by omega, by go_num, by go_num, ?_, bb5, (fb.trans f4).trans f5⟩, by simp [intOf]; omega⟩
            rw [HS2.out]
            have e2 : (34 + (m : Int)).toNat = 45 - 11 + m := by omega
            have e3 : (k : Int).toNat = k := by omega
            rw [e2, e3] at mb5
            exact mb5
          · obtain rfl : m = 3 := by omega
            go_wp2
            refine ⟨⟨k + 1, by omega, by go_num, by go_num, by rw [HS.out]; exact mb, bb, fb⟩, by simp [intOf]; omega⟩
      · obtain rfl : k = 6 := by omega
        go_wp2
        go_ret
        exact ⟨rfl, by rw [HTB.out]; exact mb, fb⟩
end Go.Proofs.YtnpkihobbcglcaaGreatDoor
