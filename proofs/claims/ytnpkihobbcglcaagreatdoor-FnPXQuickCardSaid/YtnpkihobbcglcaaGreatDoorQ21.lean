/- terminateBits: what comes behind the data begins with four zeros, or there is no room. The modes: their bits, the widths of their counts; the header. -/
import Derived.Test.YtnpkihobbcglcaaGreatDoorQ09
import Derived.Test.YtnpkihobbcglcaaGreatDoorQ20
import Derived.Deep.CutRange
import Derived.Deep.Light
set_option linter.unusedSimpArgs false
set_option linter.unusedVariables false

/- H4: terminateBits: what comes behind the data begins with four zeros, or there is no room. -/
namespace Go.Proofs.YtnpkihobbcglcaaGreatDoor
open Go Go.RowKit

theorem Grew.trans {w wr w' : World} {p b c : Nat} {cs cs' : List Bool} (h : Grew w wr p b cs) (hc : c = b ∨ w.heap.size ≤ c) (k : Grew wr w' p c cs') : Grew w w' p b cs' := by
  obtain ⟨c', h1, h2⟩ := k.arr
  refine ⟨⟨c', h1, ?_⟩, h.frm.step k.frm ?_⟩
  · have := h.frm.size
    omega
  · rintro x hx (rfl | rfl)
    · exact .inl rfl
    · rcases hc with rfl | h
      · exact .inr rfl
      · omega
theorem Grew.step {w wr : World} {p b : Nat} {cs cs' : List Bool} {K : FuncId} {args : Array Value} {v : Ending} (h : Grew w wr p b cs)
    (hk : ∀ c, BitA wr p c cs → Calls Tryz.prog K args wr fun e w' => e = v ∧ Grew wr w' p c cs') : Calls Tryz.prog K args wr fun e w' => e = v ∧ Grew w w' p b cs' := by
  obtain ⟨c, h1, h2⟩ := h.arr
  refine (hk c h1).mono ?_
  rintro e w' ⟨h3, h4⟩
  exact ⟨h3, h.trans h2 h4⟩
theorem Grew.refl {w : World} {p b : Nat} {cs : List Bool} (h : BitA w p b cs) : Grew w w p b cs := ⟨⟨b, h, .inl rfl⟩, Frm.refl _ _⟩
theorem Grew.bit {w wr : World} {p b : Nat} {cs : List Bool} (h : Grew w wr p b cs) (bit : Bool) (hs : cs.length < 100000) :
    Calls Tryz.prog 95 #[.pointer (some ⟨p, 0, none⟩), .bool bit] wr fun e w' => e = .returned (.tuple #[]) ∧ Grew w w' p b (cs ++ [bit]) := h.step fun c hc => appendBit_any p c cs bit wr hc hs
theorem Grew.bits {w wr : World} {p b : Nat} {cs : List Bool} (h : Grew w wr p b cs) (v n : Nat) (hs : cs.length + n ≤ 100000) (hn : n ≤ 32) (hv : v < 4294967296) :
    Calls Tryz.prog 83 #[.pointer (some ⟨p, 0, none⟩), .int .i64 (v : Int), .int .i64 (n : Int)] wr fun e w' => e = .returned .nilIface ∧ Grew w w' p b (cs ++ topBits v n n) := h.step fun c hc => appendBits_any p c cs v n wr hc hs hn hv
theorem Grew.len {w wr : World} {p b : Nat} {cs : List Bool} (h : Grew w wr p b cs) : Calls Tryz.prog 91 #[.pointer (some ⟨p, 0, none⟩)] wr fun e w' => e = .returned (.int .i64 (cs.length : Nat)) ∧ wr = w' := by
  obtain ⟨c, h1, _⟩ := h.arr
  exact bitSize p c cs wr h1
theorem Grew.inBytes {w wr : World} {p b : Nat} {cs : List Bool} (h : Grew w wr p b cs) (n : Nat) (hb : cs.length = 8 * n) (hn : n ≤ 10000) : Calls Tryz.prog 45 #[.pointer (some ⟨p, 0, none⟩)] wr fun e w' => e = .returned (.int .i64 n) ∧ wr = w' := by
  obtain ⟨c, h1, _⟩ := h.arr
  exact sizeInBytes p c cs n wr h1 hb hn

/-- The first four bits, so far as there are any, are zeros. -/
def Zero4 (tl : List Bool) : Prop := ∀ j, j < 4 → tl.getD j false = false
theorem Zero4.nil : Zero4 [] := fun _ _ => rfl
theorem Zero4.zero {tl : List Bool} (h : Zero4 tl) : Zero4 (tl ++ [false]) := by
  intro j hj
  rw [List.getD_eq_getElem?_getD]
  by_cases hl : j < tl.length
  · rw [List.getElem?_append_left hl, ← List.getD_eq_getElem?_getD]; exact h j hj
  · rw [List.getElem?_append_right (by omega)]
    cases hz : j - tl.length with
    | zero => rfl
    | succ m => rfl
theorem Zero4.app {tl : List Bool} (h : Zero4 tl) (hl : 4 ≤ tl.length) (xs : List Bool) : Zero4 (tl ++ xs) := by
  intro j hj
  rw [List.getD_eq_getElem?_getD, List.getElem?_append_left (by omega), ← List.getD_eq_getElem?_getD]; exact h j hj

/-- The state while the end is laid: what was there, and a tail. -/
structure Tail (w wr : World) (p b : Nat) (bs : List Bool) (D : Nat) (tl : List Bool) : Prop where
  arr : Grew w wr p b (bs ++ tl)
  zero : Zero4 tl
  room : bs.length + tl.length ≤ 8 * D
  done : 4 ≤ tl.length ∨ bs.length + tl.length = 8 * D

theorem and7 (n : Nat) (hn : n < 2 ^ 63) : bits .and .i64 (n : Int) 7 = ((n % 8 : Nat) : Int) := by
  have h := i64_and n 7 hn (by omega)
  rw [show n &&& 7 = n % 8 from by
    have := Nat.and_two_pow_sub_one_eq_mod n 3
    simpa using this] at h
  exact h

set_option maxRecDepth 100000 in
set_option maxHeartbeats 4000000 in
theorem terminate (p b D : Nat) (bs : List Bool) (w : World) (h : BitA w p b bs) (hl : bs.length ≤ 8 * D) (hD : D ≤ 2000) :
    Calls Tryz.prog 50 #[.int .i64 D, .pointer (some ⟨p, 0, none⟩)] w fun e w' => e = .returned .nilIface ∧ ∃ tl, Grew w w' p b (bs ++ tl) ∧ Zero4 tl ∧ (bs ++ tl).length = 8 * D := by
  have G0 := Lib.hid (Grew.refl h)
  clear h
  have hcm : (D : Int) * 8 = ((8 * D : Nat) : Int) := by omega
  have hd1 : decide (((8 * D : Nat) : Int) < (bs.length : Nat)) = false := by simp; omega
  have hd1' : decide (8 * D < bs.length) = false := by simp; omega
  generalize hE : 8 * D = E at hcm hd1 hd1' hl ⊢
  have HE := Lib.hid hE
  clear hE
  have hE2 : E ≤ 16000 := by have := HE.out; omega
  generalize hB : bs.length = B at hd1 hd1' hl
  have HB := Lib.hid hB
  clear hB
  have hsz := G0.out.len
  rw [HB.out] at hsz
  go_enter Tryz.func50, Tryz.ntmps50
  go_wp2_with fail
  with_reducible refine hsz.mono ?_
  rintro _ _ ⟨rfl, rfl⟩
  dsimp only
  go_wp2_with fail
  go_loopw [6] (fun iv wr => ∃ i : Nat, i ≤ 4 ∧ iv = .int .i64 i ∧ Grew w wr p b (bs ++ List.replicate i false) ∧ B + i ≤ E) (fun iv _ => 4 - (intOf iv).toNat)
  case atStart => exact ⟨0, by omega, rfl, by simpa using G0.out, by omega⟩
  case round =>
    obtain ⟨i, hi, rfl, hg, hr⟩ := hrel
    have hgl := hg.len
    rw [show (bs ++ List.replicate i false).length = B + i by rw [List.length_append, HB.out, List.length_replicate]] at hgl
    have HG := Lib.hid hg
    have HGL := Lib.hid hgl
    clear hg hgl hsz
    by_cases hlt : i < 4 ∧ B + i < E
    · obtain ⟨h4, hBE⟩ := hlt
      have hd3 : decide ((i : Int) < 4) = true := by simp; omega
      have hd4 : decide (((B + i : Nat) : Int) < E) = true := by simp; omega
      go_wp2_with fail
      with_reducible refine HGL.out.mono ?_
      rintro _ _ ⟨rfl, rfl⟩
      dsimp only
      go_wp2_with fail
      with_reducible refine (HG.out.bit false (by rw [List.length_append, HB.out, List.length_replicate]; omega)).mono ?_
      rintro _ w2 ⟨rfl, hg2⟩
      have hgs : Grew w w2 p b (bs ++ List.replicate (i + 1) false) := by
        rw [List.replicate_succ', ← List.append_assoc]; exact hg2
      have HGS := Lib.hid hgs
      clear hg2 hgs HG HGL
      dsimp only
      go_wp2
      exact ⟨⟨i + 1, by omega, by go_num, HGS.out, by omega⟩, by simp [intOf]; omega⟩
    · have htail : Tail w wr p b bs D (List.replicate i false) := by
        refine ⟨HG.out, ?_, by rw [HB.out, List.length_replicate, HE.out]; exact hr, ?_⟩
        · intro j _
          rw [List.getD_eq_getElem?_getD, List.getElem?_replicate]
          split <;> rfl
        · rw [HB.out, List.length_replicate, HE.out]; omega
      have hTT : B + i = B + (List.replicate i false).length := by rw [List.length_replicate]
      generalize List.replicate i false = tl at htail hTT
      obtain ⟨T, hT⟩ : ∃ T, B + tl.length = T := ⟨_, rfl⟩
      have hgt := htail.arr.len
      rw [show (bs ++ tl).length = T by rw [List.length_append, HB.out, hT]] at hgt
      have hTE : T ≤ E := by have := htail.room; have := HE.out; have := HB.out; omega
      have hdn : 4 ≤ tl.length ∨ T = E := by have := htail.done; have := HE.out; have := HB.out; omega
      have ha7 := and7 T (by omega)
      have HT := Lib.hid htail
      have HTT := Lib.hid hT
      have HDN := Lib.hid hdn
      have HGT := Lib.hid hgt
      clear htail hT hdn hgt hTT
      by_cases h4 : i < 4
      · have hd3 : decide ((i : Int) < 4) = true := by simp; omega
        have hd4 : decide (((B + i : Nat) : Int) < E) = false := by simp; omega
        go_wp2_with fail
        with_reducible refine HGL.out.mono ?_
        rintro _ _ ⟨rfl, rfl⟩
        dsimp only
        go_wp2_with fail
        with_reducible refine HGT.out.mono ?_
        rintro _ _ ⟨rfl, rfl⟩
        dsimp only
        go_upto_if 42 with fail
        go_cut [7, 8] from 43 to 49 (fun _ _ wx => ∃ tl, Tail w wx p b bs D tl ∧ (B + tl.length) % 8 = 0)
        case first =>
          by_cases hz : T % 8 = 0
          · have hd5 : decide ((0 : Int) < ((T % 8 : Nat) : Int)) = false := by simp; omega
            go_wp2_with fail
            go_meet
            exact ⟨tl, HT.out, by rw [HTT.out]; exact hz⟩
          · have hd5 : decide ((0 : Int) < ((T % 8 : Nat) : Int)) = true := by simp; omega
            go_wp2_with fail
            have h4t : 4 ≤ tl.length := by have := HDN.out; have := HE.out; omega
            go_loopw [8] (fun jv wx => ∃ (j : Nat) (tl : List Bool), j ≤ 8 ∧ jv = .int .i64 j ∧ Tail w wx p b bs D tl ∧ (B + tl.length + (8 - j)) % 8 = 0 ∧ B + tl.length + (8 - j) ≤ E ∧ 4 ≤ tl.length) (fun jv _ => 8 - (intOf jv).toNat)
            case atStart => exact ⟨T % 8, tl, by omega, congrArg (Value.int .i64) (by omega), HT.out, by have := HTT.out; omega, by have := HTT.out; have := HE.out; omega, h4t⟩
            case round =>
              obtain ⟨j, tl, hj, rfl, ht, hm, hr2, h42⟩ := hrel
              by_cases hj8 : j < 8
              · have hdj : decide ((j : Int) < 8) = true := by simp; omega
                have hA := ht.arr.bit false (by rw [List.length_append, HB.out]; omega)
                have hlen : (tl ++ [false]).length = tl.length + 1 := by simp
                have hz2 := ht.zero.zero
                have HZ2 := Lib.hid hz2
                have HA := Lib.hid hA
                have HLEN := Lib.hid hlen
                clear hA hlen hz2 ht
                go_wp2_with fail
                with_reducible refine HA.out.mono ?_
                rintro _ w2 ⟨rfl, hg2⟩
                have htn : Tail w w2 p b bs D (tl ++ [false]) := ⟨by rw [← List.append_assoc]; exact hg2, HZ2.out, by have := HLEN.out; have := HB.out; have := HE.out; omega, by have := HLEN.out; left; omega⟩
                have HTN := Lib.hid htn
                clear htn hg2 HA
                dsimp only
                go_wp2
                exact ⟨⟨j + 1, tl ++ [false], by omega, by go_num, HTN.out, by have := HLEN.out; omega, by have := HLEN.out; omega, by have := HLEN.out; omega⟩, by simp [intOf]; omega⟩
              · have hdj : decide ((j : Int) < 8) = false := by simp; omega
                go_wp2_with fail
                go_meet
                exact ⟨tl, ht, by omega⟩
        case rest =>
          obtain ⟨tl, ht, hm8⟩ := hcut
          have hrm : B + tl.length ≤ E := by have := ht.room; have := HE.out; have := HB.out; omega
          have hdn2 : 4 ≤ tl.length ∨ B + tl.length = E := by have := ht.done; have := HE.out; have := HB.out; omega
          obtain ⟨n8, hn8⟩ : ∃ n8, B + tl.length = 8 * n8 := ⟨(B + tl.length) / 8, by omega⟩
          obtain ⟨m, hm⟩ : ∃ m, D = n8 + m := ⟨D - n8, by have := HE.out; omega⟩
          have hmi : (D : Int) - n8 = m := by omega
          have hib := ht.arr.inBytes n8 (by rw [List.length_append, HB.out]; exact hn8) (by omega)
          have HT3 := Lib.hid ht
          have HM3 := Lib.hid hm
          have HN8 := Lib.hid hn8
          have HIB := Lib.hid hib
          clear ht hm hn8 hib hm8
          go_wp2_with fail
          with_reducible refine HIB.out.mono ?_
          rintro _ _ ⟨rfl, rfl⟩
          dsimp only
          go_wp2_with fail
          go_loopw [10, 11] (fun kv _ wx => ∃ (k : Nat) (tl : List Bool), k ≤ m ∧ kv = .int .i64 k ∧ Tail w wx p b bs D tl ∧ B + tl.length = 8 * (n8 + k) ∧ (k < m → 4 ≤ tl.length)) (fun kv _ _ => m - (intOf kv).toNat)
          case atStart => exact ⟨0, tl, Nat.zero_le _, rfl, HT3.out, HN8.out, fun h => by have := HN8.out; have := HM3.out; have := HE.out; omega⟩
          case round =>
            obtain ⟨k, tl, hk, rfl, ht, hbl, h43⟩ := hrel
            by_cases hkm : k < m
            · have hdk : decide ((k : Int) < m) = true := by simp; omega
              have h44 := h43 hkm
              have hnE : 8 * (n8 + m) = E := by have := HM3.out; have := HE.out; omega
              have hk1 : bits .and .i64 (k : Int) 1 = ((k % 2 : Nat) : Int) := by
                have h := i64_and k 1 (by omega) (by omega)
                rw [Nat.and_one_is_mod] at h
                exact h
              have hcl : (bs ++ tl).length ≤ 90000 := by rw [List.length_append, HB.out]; omega
              have hA := fun v hv => ht.arr.bits v 8 (by omega) (by omega) hv
              simp only [Int.cast_ofNat_Int] at hA
              have HA := Lib.hid hA
              have HZ3 := Lib.hid ht.zero
              have hbl2 := hbl
              have HBL := Lib.hid hbl
              clear hA ht h43 hbl hcl
              have fin : ∀ v w2, Grew w w2 p b (bs ++ tl ++ topBits v 8 8) → Tail w w2 p b bs D (tl ++ topBits v 8 8) ∧ B + (tl ++ topBits v 8 8).length = 8 * (n8 + (k + 1)) ∧ 4 ≤ (tl ++ topBits v 8 8).length := by
                intro v w2 hg
                have hl3 : (tl ++ topBits v 8 8).length = tl.length + 8 := by rw [List.length_append, topBits_length]
                refine ⟨⟨by rw [← List.append_assoc]; exact hg, HZ3.out.app h44 _, by rw [hl3]; have := HB.out; have := HE.out; omega, by left; omega⟩, by rw [hl3]; omega, by omega⟩
              have FIN := Lib.hid fin
              clear fin hbl2
              by_cases hpar : k % 2 = 0
              · have hdp : decide ((k : Int) % 2 = 0) = true := by simp; omega
                go_wp2_with fail
                have hA := HA.out 236 (by omega)
                simp only [Int.cast_ofNat_Int] at hA
                with_reducible refine hA.mono ?_
                clear hA
                rintro _ w2 ⟨rfl, hg2⟩
                obtain ⟨f1, f2, f3⟩ := FIN.out 236 w2 hg2
                have F1 := Lib.hid f1
                have F2 := Lib.hid f2
                have F3 := Lib.hid f3
                clear f1 f2 f3 hg2 HA
                dsimp only
                go_wp2
                exact ⟨⟨k + 1, _, by omega, by go_num, F1.out, F2.out, fun _ => F3.out⟩, by simp [intOf]; omega⟩
              · have hdp : decide ((k : Int) % 2 = 0) = false := by simp; omega
                go_wp2_with fail
                have hA := HA.out 17 (by omega)
                simp only [Int.cast_ofNat_Int] at hA
                with_reducible refine hA.mono ?_
                clear hA
                rintro _ w2 ⟨rfl, hg2⟩
                obtain ⟨f1, f2, f3⟩ := FIN.out 17 w2 hg2
                have F1 := Lib.hid f1
                have F2 := Lib.hid f2
                have F3 := Lib.hid f3
                clear f1 f2 f3 hg2 HA
                dsimp only
                go_wp2
                exact ⟨⟨k + 1, _, by omega, by go_num, F1.out, F2.out, fun _ => F3.out⟩, by simp [intOf]; omega⟩
            · obtain rfl : k = m := by omega
              have hdk : decide ((k : Int) < k) = false := by simp
              have hnE : B + tl.length = E := by have := HM3.out; have := HE.out; omega
              have hgf := ht.arr.len
              rw [show (bs ++ tl).length = E by rw [List.length_append, HB.out, hnE]] at hgf
              have HGF := Lib.hid hgf
              have HTF := Lib.hid ht
              have HNE := Lib.hid hnE
              clear hgf ht hbl h43 hnE
              go_wp2_with fail
              with_reducible refine HGF.out.mono ?_
              rintro _ _ ⟨rfl, rfl⟩
              dsimp only
              go_wp2
              go_ret
              exact ⟨rfl, tl, HTF.out.arr, HTF.out.zero, by rw [List.length_append, HB.out]; exact HNE.out⟩
      · have hd3 : decide ((i : Int) < 4) = false := by simp; omega
        go_wp2_with fail
        with_reducible refine HGT.out.mono ?_
        rintro _ _ ⟨rfl, rfl⟩
        dsimp only
        go_upto_if 42 with fail
        go_cut [7, 8] from 43 to 49 (fun _ _ wx => ∃ tl, Tail w wx p b bs D tl ∧ (B + tl.length) % 8 = 0)
        case first =>
          by_cases hz : T % 8 = 0
          · have hd5 : decide ((0 : Int) < ((T % 8 : Nat) : Int)) = false := by simp; omega
            go_wp2_with fail
            go_meet
            exact ⟨tl, HT.out, by rw [HTT.out]; exact hz⟩
          · have hd5 : decide ((0 : Int) < ((T % 8 : Nat) : Int)) = true := by simp; omega
            go_wp2_with fail
            have h4t : 4 ≤ tl.length := by have := HDN.out; have := HE.out; omega
            go_loopw [8] (fun jv wx => ∃ (j : Nat) (tl : List Bool), j ≤ 8 ∧ jv = .int .i64 j ∧ Tail w wx p b bs D tl ∧ (B + tl.length + (8 - j)) % 8 = 0 ∧ B + tl.length + (8 - j) ≤ E ∧ 4 ≤ tl.length) (fun jv _ => 8 - (intOf jv).toNat)
            case atStart => exact ⟨T % 8, tl, by omega, congrArg (Value.int .i64) (by omega), HT.out, by have := HTT.out; omega, by have := HTT.out; have := HE.out; omega, h4t⟩
            case round =>
              obtain ⟨j, tl, hj, rfl, ht, hm, hr2, h42⟩ := hrel
              by_cases hj8 : j < 8
              · have hdj : decide ((j : Int) < 8) = true := by simp; omega
                have hA := ht.arr.bit false (by rw [List.length_append, HB.out]; omega)
                have hlen : (tl ++ [false]).length = tl.length + 1 := by simp
                have hz2 := ht.zero.zero
                have HZ2 := Lib.hid hz2
                have HA := Lib.hid hA
                have HLEN := Lib.hid hlen
                clear hA hlen hz2 ht
                go_wp2_with fail
                with_reducible refine HA.out.mono ?_
                rintro _ w2 ⟨rfl, hg2⟩
                have htn : Tail w w2 p b bs D (tl ++ [false]) := ⟨by rw [← List.append_assoc]; exact hg2, HZ2.out, by have := HLEN.out; have := HB.out; have := HE.out; omega, by have := HLEN.out; left; omega⟩
                have HTN := Lib.hid htn
                clear htn hg2 HA
                dsimp only
                go_wp2
                exact ⟨⟨j + 1, tl ++ [false], by omega, by go_num, HTN.out, by have := HLEN.out; omega, by have := HLEN.out; omega, by have := HLEN.out; omega⟩, by simp [intOf]; omega⟩
              · have hdj : decide ((j : Int) < 8) = false := by simp; omega
                go_wp2_with fail
                go_meet
                exact ⟨tl, ht, by omega⟩
        case rest =>
          obtain ⟨tl, ht, hm8⟩ := hcut
          have hrm : B + tl.length ≤ E := by have := ht.room; have := HE.out; have := HB.out; omega
          have hdn2 : 4 ≤ tl.length ∨ B + tl.length = E := by have := ht.done; have := HE.out; have := HB.out; omega
          obtain ⟨n8, hn8⟩ : ∃ n8, B + tl.length = 8 * n8 := ⟨(B + tl.length) / 8, by omega⟩
          obtain ⟨m, hm⟩ : ∃ m, D = n8 + m := ⟨D - n8, by have := HE.out; omega⟩
          have hmi : (D : Int) - n8 = m := by omega
          have hib := ht.arr.inBytes n8 (by rw [List.length_append, HB.out]; exact hn8) (by omega)
          have HT3 := Lib.hid ht
          have HM3 := Lib.hid hm
          have HN8 := Lib.hid hn8
          have HIB := Lib.hid hib
          clear ht hm hn8 hib hm8
          go_wp2_with fail
          with_reducible refine HIB.out.mono ?_
          rintro _ _ ⟨rfl, rfl⟩
          dsimp only
          go_wp2_with fail
          go_loopw [10, 11] (fun kv _ wx => ∃ (k : Nat) (tl : List Bool), k ≤ m ∧ kv = .int .i64 k ∧ Tail w wx p b bs D tl ∧ B + tl.length = 8 * (n8 + k) ∧ (k < m → 4 ≤ tl.length)) (fun kv _ _ => m - (intOf kv).toNat)
          case atStart => exact ⟨0, tl, Nat.zero_le _, rfl, HT3.out, HN8.out, fun h => by have := HN8.out; have := HM3.out; have := HE.out; omega⟩
          case round =>
            obtain ⟨k, tl, hk, rfl, ht, hbl, h43⟩ := hrel
            by_cases hkm : k < m
            · have hdk : decide ((k : Int) < m) = true := by simp; omega
              have h44 := h43 hkm
              have hnE : 8 * (n8 + m) = E := by have := HM3.out; have := HE.out; omega
              have hk1 : bits .and .i64 (k : Int) 1 = ((k % 2 : Nat) : Int) := by
                have h := i64_and k 1 (by omega) (by omega)
                rw [Nat.and_one_is_mod] at h
                exact h
              have hcl : (bs ++ tl).length ≤ 90000 := by rw [List.length_append, HB.out]; omega
              have hA := fun v hv => ht.arr.bits v 8 (by omega) (by omega) hv
              simp only [Int.cast_ofNat_Int] at hA
              have HA := Lib.hid hA
              have HZ3 := Lib.hid ht.zero
              have hbl2 := hbl
              have HBL := Lib.hid hbl
              clear hA ht h43 hbl hcl
              have fin : ∀ v w2, Grew w w2 p b (bs ++ tl ++ topBits v 8 8) → Tail w w2 p b bs D (tl ++ topBits v 8 8) ∧ B + (tl ++ topBits v 8 8).length = 8 * (n8 + (k + 1)) ∧ 4 ≤ (tl ++ topBits v 8 8).length := by
                intro v w2 hg
                have hl3 : (tl ++ topBits v 8 8).length = tl.length + 8 := by rw [List.length_append, topBits_length]
                refine ⟨⟨by rw [← List.append_assoc]; exact hg, HZ3.out.app h44 _, by rw [hl3]; have := HB.out; have := HE.out; omega, by left; omega⟩, by rw [hl3]; omega, by omega⟩
              have FIN := Lib.hid fin
              clear fin hbl2
              by_cases hpar : k % 2 = 0
              · have hdp : decide ((k : Int) % 2 = 0) = true := by simp; omega
                go_wp2_with fail
                have hA := HA.out 236 (by omega)
                simp only [Int.cast_ofNat_Int] at hA
                with_reducible refine hA.mono ?_
                clear hA
                rintro _ w2 ⟨rfl, hg2⟩
                obtain ⟨f1, f2, f3⟩ := FIN.out 236 w2 hg2
                have F1 := Lib.hid f1
                have F2 := Lib.hid f2
                have F3 := Lib.hid f3
                clear f1 f2 f3 hg2 HA
                dsimp only
                go_wp2
                exact ⟨⟨k + 1, _, by omega, by go_num, F1.out, F2.out, fun _ => F3.out⟩, by simp [intOf]; omega⟩
              · have hdp : decide ((k : Int) % 2 = 0) = false := by simp; omega
                go_wp2_with fail
                have hA := HA.out 17 (by omega)
                simp only [Int.cast_ofNat_Int] at hA
                with_reducible refine hA.mono ?_
                clear hA
                rintro _ w2 ⟨rfl, hg2⟩
                obtain ⟨f1, f2, f3⟩ := FIN.out 17 w2 hg2
                have F1 := Lib.hid f1
                have F2 := Lib.hid f2
                have F3 := Lib.hid f3
                clear f1 f2 f3 hg2 HA
                dsimp only
                go_wp2
                exact ⟨⟨k + 1, _, by omega, by go_num, F1.out, F2.out, fun _ => F3.out⟩, by simp [intOf]; omega⟩
            · obtain rfl : k = m := by omega
              have hdk : decide ((k : Int) < k) = false := by simp
              have hnE : B + tl.length = E := by have := HM3.out; have := HE.out; omega
              have hgf := ht.arr.len
              rw [show (bs ++ tl).length = E by rw [List.length_append, HB.out, hnE]] at hgf
              have HGF := Lib.hid hgf
              have HTF := Lib.hid ht
              have HNE := Lib.hid hnE
              clear hgf ht hbl h43 hnE
              go_wp2_with fail
              with_reducible refine HGF.out.mono ?_
              rintro _ _ ⟨rfl, rfl⟩
              dsimp only
              go_wp2
              go_ret
              exact ⟨rfl, tl, HTF.out.arr, HTF.out.zero, by rw [List.length_append, HB.out]; exact HNE.out⟩
end Go.Proofs.YtnpkihobbcglcaaGreatDoor

/- H5: The modes: their bits, the widths of their counts; the header. -/
namespace Go.Proofs.YtnpkihobbcglcaaGreatDoor
open Go Go.RowKit

theorem Grew.kept {w wr w' : World} {p b : Nat} {cs : List Bool} (h : Grew w wr p b cs) (k : Kept wr w') : Grew w w' p b cs := by
  obtain ⟨c, h1, h2⟩ := h.arr
  exact ⟨⟨c, h1.frm k (fun h => h) (fun h => h), h2⟩, h.frm.trans k.toFrm⟩

/-- The width of a count in the versions 1 to 9. -/
def ccb (m : Nat) : Nat := if m = 1 then 10 else if m = 2 then 9 else 8
def IsMode (m : Nat) : Prop := m = 1 ∨ m = 2 ∨ m = 4

theorem countTab (m : Nat) (w : World) (hm : IsMode m) : Calls Tryz.prog 127 #[.int .i64 m] w fun e w' => e = .returned (.slice (some ⟨w.heap.size, 0, none⟩) 3 3) ∧ w'.cell? ⟨w.heap.size, 0, none⟩ = some (.int .i64 (ccb m : Nat)) ∧ Kept w w' := by
  rcases hm with rfl | rfl | rfl
  all_goals go_enter Tryz.func127, Tryz.ntmps127
  all_goals go_wp2
  all_goals go_ret
  all_goals refine ⟨rfl, ?_, (Frm.refl _ _).alloc _⟩
  all_goals rw [Blk.cell (Blk.new w _ _)]
  all_goals rfl

theorem countBits (m v pv : Nat) (w : World) (hm : IsMode m) (hv : w.cell? ⟨pv, 0, none⟩ = some (.int .i64 v)) (h1 : 1 ≤ v) (h7 : v ≤ 7) :
    Calls Tryz.prog 92 #[.int .i64 m, .pointer (some ⟨pv, 0, none⟩)] w fun e w' => e = .returned (.int .i64 (ccb m : Nat)) ∧ Kept w w' := by
  have hd : decide ((v : Int) ≤ 9) = true := by simp; omega
  go_enter Tryz.func92, Tryz.ntmps92
  go_wp2_with fail
  with_reducible refine (versionNumber pv v w hv).mono ?_
  rintro _ _ ⟨rfl, rfl⟩
  dsimp only
  go_wp2_with fail
  with_reducible refine (countTab m w hm).mono ?_
  rintro _ w1 ⟨rfl, hc, k1⟩
  dsimp only
  go_wp2
  go_ret
  exact ⟨rfl, k1⟩

theorem modeBits (m : Nat) (w : World) : Calls Tryz.prog 18 #[.int .i64 m] w fun e w' => e = .returned (.int .i64 m) ∧ w = w' := by
  go_enter Tryz.func18, Tryz.ntmps18
  go_wp2
  go_ret
  exact ⟨rfl, rfl⟩

theorem appendMode (p b m : Nat) (cs : List Bool) (w0 w : World) (h : Grew w0 w p b cs) (hm : IsMode m) (hs : cs.length ≤ 1000) :
    Calls Tryz.prog 36 #[.int .i64 m, .pointer (some ⟨p, 0, none⟩)] w fun e w' => e = .returned (.tuple #[]) ∧ Grew w0 w' p b (cs ++ topBits m 4 4) := by
  have hA := h.bits m 4 (by omega) (by omega) (by unfold IsMode at hm; omega)
  simp only [Int.cast_ofNat_Int] at hA
  have HA := Lib.hid hA
  clear hA
  go_enter Tryz.func36, Tryz.ntmps36
  go_wp2_with fail
  with_reducible refine (modeBits m w).mono ?_
  rintro _ _ ⟨rfl, rfl⟩
  dsimp only
  go_wp2_with fail
  with_reducible refine HA.out.mono ?_
  rintro _ w1 ⟨rfl, h1⟩
  dsimp only
  go_wp2
  go_end0
  exact ⟨rfl, h1⟩

theorem appendLength (p b m v pv n : Nat) (cs : List Bool) (w0 w : World) (h : Grew w0 w p b cs) (hm : IsMode m) (hs : cs.length ≤ 1000) (hv : w.cell? ⟨pv, 0, none⟩ = some (.int .i64 v)) (h1 : 1 ≤ v) (h7 : v ≤ 7) (hn : n ≤ 60)
    (lp : p < w.heap.size) :
    Calls Tryz.prog 46 #[.int .i64 n, .pointer (some ⟨pv, 0, none⟩), .int .i64 m, .pointer (some ⟨p, 0, none⟩)] w fun e w' => e = .returned .nilIface ∧ Grew w0 w' p b (cs ++ topBits n (ccb m) (ccb m)) := by
  have hcc : ccb m = 10 ∨ ccb m = 9 ∨ ccb m = 8 := by unfold ccb; split <;> (try split) <;> simp
  have hdn : decide (wrap64 (2 ^ ccb m) ≤ (n : Int)) = false := by
    have e1 : wrap64 (2 ^ 10) = 1024 := by decide +kernel
    have e2 : wrap64 (2 ^ 9) = 512 := by decide +kernel
    have e3 : wrap64 (2 ^ 8) = 256 := by decide +kernel
    rcases hcc with e | e | e <;> rw [e] <;> simp only [e1, e2, e3] <;> simp <;> omega
  have HM := Lib.hid hm
  have H := Lib.hid h
  clear h hm
  go_enter Tryz.func46, Tryz.ntmps46
  go_wp2_with fail
  with_reducible refine (countBits m v pv w HM.out hv h1 h7).mono ?_
  rintro _ w1 ⟨rfl, k1⟩
  have hA := (H.out.kept k1).bits n (ccb m) (by omega) (by omega) (by omega)
  have HA := Lib.hid hA
  clear hA
  dsimp only
  go_wp2_with fail
  with_reducible refine HA.out.mono ?_
  rintro _ w2 ⟨rfl, h2⟩
  dsimp only
  go_wp2
  go_ret
  exact ⟨rfl, h2⟩
end Go.Proofs.YtnpkihobbcglcaaGreatDoor
