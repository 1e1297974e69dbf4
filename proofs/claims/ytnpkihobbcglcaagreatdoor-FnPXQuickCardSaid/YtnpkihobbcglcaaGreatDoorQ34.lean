/- Decoding 7: the version read. Decoding 8: the version read: the walk. Decoding 9: a region set; a square matrix made. Decoding 10: the function pattern. -/
import Derived.Test.YtnpkihobbcglcaaGreatDoorQ23
import Derived.Test.YtnpkihobbcglcaaGreatDoorQ33
import Derived.Great.BuildSlice
import Derived.Deep.Cut
import Derived.Deep.CutRange
set_option linter.unusedSimpArgs false
set_option linter.unusedVariables false

/- U7: Decoding 7: the version read. -/
namespace Go.Proofs.YtnpkihobbcglcaaGreatDoor
open Go Go.RowKit

theorem VerAt.parser {w w' : World} {pv v q : Nat} {a : Option Addr} {b c d : Value} (h : VerAt w pv v) (hq : Blk w q #[.pointer a, b, c, d] 292) (hf : Frm (fun k => k = q) w w') : VerAt w' pv v := by
  have q0 := hq.cell 0
  simp only [List.getElem?_toArray, List.getElem?_cons_zero] at q0
  obtain ⟨cb, c1, c2⟩ := h.cen
  obtain ⟨eb, e1, e2⟩ := h.blk
  have hpv : ¬ pv = q := by
    rintro rfl
    have := h.num
    rw [q0] at this
    cases this
  have heb : ¬ eb = q := by
    rintro rfl
    have := (e2 0 (by omega)).ec
    rw [q0] at this
    cases this
  have hc : ∀ {b i : Nat} {u : Value}, w.cell? ⟨b, i, none⟩ = some u → ¬ b = q → w'.cell? ⟨b, i, none⟩ = some u := fun h hn => by
    rw [hf.cell (World.block_lt_of_cell? _ _ h) hn]; exact h
  refine ⟨hc h.num hpv, ⟨cb, hc c1 hpv, c2.frm hf (Blk.ne c2 hq (by decide))⟩, ⟨eb, hc e1 hpv, fun i hi => ?_⟩, hc h.tot hpv⟩
  obtain ⟨g, g1, g2⟩ := (e2 i hi).row
  exact ⟨hc (e2 i hi).ec heb, g, hc g1 heb, g2.frm hf (Blk.ne g2 hq (by decide))⟩

def verTab : List Int := [31892, 34236, 39577, 42195, 48118, 51042, 55367, 58893, 63784, 68472, 70749, 76311, 79154, 84390, 87683, 92361, 96236, 102084, 102881, 110507, 110734, 117786, 119615, 126325, 127568, 133589, 136944, 141498, 145311, 150283, 152622, 158308, 161089, 167017]
set_option maxRecDepth 100000 in
theorem verTable (w : World) : Calls Tryz.prog 238 #[] w fun e w' => e = .returned (.slice (some ⟨w.heap.size, 0, none⟩) 34 34) ∧ w'.cell? ⟨w.heap.size, 0, none⟩ = some (.int .i64 31892) ∧ Kept w w' := by
  go_enter Tryz.func238, Tryz.ntmps238
  go_upto_region 1 with fail
  apply wp_region_lit
  refine wpList_buildFlat rfl 117 3 34 _ rfl .i64 verTab (by kernel_rfl) (by kernel_rfl) (by kernel_rfl) rfl (by omega) (by omega) (by kernel_rfl) ?_
  have hi := Ints.new w .i64 3 verTab
  have hk : Kept w (w.alloc (.cells (verTab.map (Value.int .i64)).toArray 3)) := (Frm.refl _ _).alloc _
  have hc := hi.cell 0 (by decide)
  generalize w.alloc (.cells (verTab.map (Value.int .i64)).toArray 3) = w1 at hi hk hc ⊢
  go_wp2
  go_ret
  exact ⟨rfl, hc, hk⟩

set_option maxRecDepth 100000 in
theorem decodeVersion7 (w : World) : Calls Tryz.prog 194 #[.int .i64 31892] w fun e w' => ∃ pv, e = .returned (.tuple #[.pointer (some ⟨pv, 0, none⟩), .nilIface]) ∧ VerAt w' pv 7 ∧ Kept w w' := by
  have hvt := verTable w
  have HVT := Lib.hid hvt
  clear hvt
  go_enter Tryz.func194, Tryz.ntmps194
  go_wp2_with fail
  with_reducible refine HVT.out.mono ?_
  rintro _ w1 ⟨rfl, hc, k1⟩
  generalize w.heap.size = g at *
  have hvf := versionFor 7 w1 (by omega) (by omega)
  simp only [Int.cast_ofNat_Int] at hvf
  have HVF := Lib.hid hvf
  have K1 := Lib.hid k1
  clear hvf k1 HVT
  dsimp only
  go_wp2_with fail
  go_loopw [4, 5, 6, 7, 8, 11] (fun _ _ _ _ _ kv wr => w1 = wr ∧ kv = .int .i64 0) (fun _ _ _ _ _ _ _ => 0)
  case atStart => exact ⟨rfl, rfl⟩
  case round =>
    obtain ⟨rfl, rfl⟩ := hrel
    go_wp2_with fail
    with_reducible refine HVF.out.mono ?_
    rintro _ w2 ⟨pv, rfl, hv, k2⟩
    have HV := Lib.hid hv
    have K2 := Lib.hid (K1.out.trans k2)
    clear hv k2 HVF
    dsimp only
    go_wp2
    go_ret2
    exact ⟨pv, rfl, HV.out, K2.out⟩
end Go.Proofs.YtnpkihobbcglcaaGreatDoor

/- U8: Decoding 8: the version read: the walk. -/
namespace Go.Proofs.YtnpkihobbcglcaaGreatDoor
open Go Go.RowKit

def verN (f : Nat → Nat → Bool) : Nat → Nat
  | 0 => 0
  | k + 1 => cpN (fun i => f (36 - i) (5 - k)) 3 (verN f k)
theorem verN_lt (f : Nat → Nat → Bool) : ∀ k, verN f k < 8 ^ k := by
  intro k
  induction k with
  | zero => show 0 < 1; omega
  | succ k ih =>
    have := cpN_lt (fun i => f (36 - i) (5 - k)) (verN f k) (8 ^ k) ih 3
    rw [Nat.pow_succ]
    unfold verN
    omega

/-- What the parser knows of the version. -/
def PV (w : World) (v1 : Value) (v : Nat) : Prop := v1 = .pointer none ∨ ∃ pv, v1 = .pointer (some ⟨pv, 0, none⟩) ∧ VerAt w pv v

set_option maxRecDepth 100000 in
set_option maxHeartbeats 8000000 in
theorem readVersion7 (q p b : Nat) (v2 : Value) (f : Nat → Nat → Bool) (w : World) (hq : Blk w q #[.pointer (some ⟨p, 0, none⟩), .pointer none, v2, .bool false] 292) (h : BX w p b 45 45 f) (hf7 : verN f 6 = 31892) :
    Calls Tryz.prog 154 #[.pointer (some ⟨q, 0, none⟩)] w fun e w' => ∃ pv, e = .returned (.tuple #[.pointer (some ⟨pv, 0, none⟩), .nilIface]) ∧ VerAt w' pv 7 ∧ Blk w' q #[.pointer (some ⟨p, 0, none⟩), .pointer (some ⟨pv, 0, none⟩), v2, .bool false] 292 ∧ Frm (fun k => k = q) w w' := by
  have c0 := hq.cell 0
  have c1 := hq.cell 1
  have c3 := hq.cell 3
  simp only [List.getElem?_toArray, List.getElem?_cons_zero, List.getElem?_cons_succ] at c0 c1 c3
  have hcb := fun x y v hx hy hv => copyBit q p b 45 x y v f w c0 c3 h hx hy (by omega) hv
  have hh := bxHeight p b 45 45 f w h
  simp only [Int.cast_ofNat_Int] at hh
  have hdv := decodeVersion7 w
  have HCB := Lib.hid hcb
  have HH := Lib.hid hh
  have HQ := Lib.hid hq
  have HF7 := Lib.hid hf7
  have HDV := Lib.hid hdv
  clear hcb hh hq hf7 hdv h
  have hqo : (28 : Int).tdiv 4 = 7 := by decide
  go_enter Tryz.func154, Tryz.ntmps154
  go_wp2_with fail
  with_reducible refine HH.out.mono ?_
  rintro _ _ ⟨rfl, rfl⟩
  dsimp only
  go_wp2_with fail
  go_loopw [6, 8, 9] (fun vv jv _ wr => w = wr ∧ ∃ j : Nat, j ≤ 6 ∧ jv = .int .i64 ((5 : Int) - j) ∧ vv = .int .i64 (verN f j : Nat)) (fun _ jv _ _ => (intOf jv + 1).toNat)
  case atStart => exact ⟨rfl, 0, by omega, rfl, rfl⟩
  case round =>
    obtain ⟨rfl, j, hj, rfl, rfl⟩ := hrel
    have hlt := verN_lt f j
    have hpw : 8 ^ j ≤ 8 ^ 6 := Nat.pow_le_pow_right (by omega) hj
    by_cases hj6 : j < 6
    · have hd : decide ((0 : Int) ≤ 5 - j) = true := by simp; omega
      have hpw5 : 8 ^ j ≤ 8 ^ 5 := Nat.pow_le_pow_right (by omega) (by omega)
      have hsucc : verN f (j + 1) = cpN (fun i => f (36 - i) (5 - j)) 3 (verN f j) := rfl
      generalize verN f j = V at *
      have HSU := Lib.hid hsucc
      have hV : V < 32768 := by omega
      clear hsucc hlt hpw hpw5
      go_wp2_with fail
      go_loopw [6, 9] (fun vv iv wr => w = wr ∧ ∃ i : Nat, i ≤ 3 ∧ iv = .int .i64 ((36 : Int) - i) ∧ vv = .int .i64 (cpN (fun i => f (36 - i) (5 - j)) i V : Nat)) (fun _ iv _ => (intOf iv - 33).toNat)
      case atStart => exact ⟨rfl, 0, by omega, rfl, rfl⟩
      case round =>
        obtain ⟨rfl, i, hi, rfl, rfl⟩ := hrel
        have hl2 := cpN_lt (fun i => f (36 - i) (5 - j)) V 32768 hV i
        have hp2 : 2 ^ i * 32768 ≤ 2 ^ 3 * 32768 := Nat.mul_le_mul_right _ (Nat.pow_le_pow_right (by omega) hi)
        by_cases hi3 : i < 3
        · have hd2 : decide ((34 : Int) ≤ 36 - i) = true := by simp; omega
          have hc := HCB.out (36 - i) (5 - j) (cpN (fun i => f (36 - i) (5 - j)) i V) (by omega) (by omega) (by omega)
          rw [show 2 * cpN (fun i => f (36 - i) (5 - j)) i V + (f (36 - i) (5 - j)).toNat = cpN (fun i => f (36 - i) (5 - j)) (i + 1) V from rfl, show ((36 - i : Nat) : Int) = 36 - (i : Int) by omega, show ((5 - j : Nat) : Int) = 5 - (j : Int) by omega] at hc
          generalize cpN (fun i => f (36 - i) (5 - j)) i V = v at *
          generalize hv2 : cpN (fun i => f (36 - i) (5 - j)) (i + 1) V = v2' at hc
          have HC := Lib.hid hc
          have HV := Lib.hid hv2
          clear hc hv2 hl2 hp2
          go_wp2_with fail
          with_reducible refine HC.out.mono ?_
          rintro _ _ ⟨rfl, rfl⟩
          dsimp only
          go_wp2
          exact ⟨⟨trivial, i + 1, by omega, by go_num, by rw [HV.out]⟩, by simp [intOf]; omega⟩
        · obtain rfl : i = 3 := by omega
          have hd2 : decide ((34 : Int) ≤ 36 - ((3 : Nat) : Int)) = false := by decide
          rw [← HSU.out] at hl2 ⊢
          generalize hV2 : verN f (j + 1) = V2 at *
          have HV2 := Lib.hid hV2
          clear hV2
          go_wp2
          exact ⟨⟨trivial, j + 1, by omega, by go_num, by rw [HV2.out]⟩, by simp [intOf]; omega⟩
    · obtain rfl : j = 6 := by omega
      have hd : decide ((0 : Int) ≤ 5 - ((6 : Nat) : Int)) = false := by decide
      rw [HF7.out]
      clear hlt hpw HCB HF7
      have e31 : ((31892 : Nat) : Int) = 31892 := rfl
      rw [e31]
      clear e31
      go_wp2_with fail
      with_reducible refine HDV.out.mono ?_
      rintro _ w2 ⟨pv, rfl, hv, k2⟩
      have hvd := verDim pv 7 w2 hv (by omega)
      rw [show ((dim 7 : Nat) : Int) = 45 by rfl] at hvd
      have HVD := Lib.hid hvd
      have hq2 := HQ.out.frm k2 (fun h => h)
      have e1 := hq2.cell 1
      have f1 := hq2.free 1
      simp only [List.getElem?_toArray, List.getElem?_cons_zero, List.getElem?_cons_succ] at e1
      have hset := hq2.set 1 (.pointer (some ⟨pv, 0, none⟩))
      have hfr : Frm (fun k => k = q) w2 (w2.setCell ⟨q, 1, none⟩ (.pointer (some ⟨pv, 0, none⟩))) := (Frm.refl (fun k => k = q) w2).setCell (p := ⟨q, 1, none⟩) (.inl rfl) _
      have hv2 := hv.parser hq2 hfr
      have HSET := Lib.hid hset
      have HV2 := Lib.hid hv2
      have HFR := Lib.hid ((k2.toFrm (S := fun k => k = q)).trans hfr)
      clear hq2 hset hfr hv2 hv k2 hvd HDV
      dsimp only
      go_wp2_with fail
      with_reducible refine HVD.out.mono ?_
      rintro _ _ ⟨rfl, rfl⟩
      dsimp only
      go_wp2
      go_ret2
      exact ⟨pv, rfl, HV2.out, HSET.out, HFR.out⟩

set_option maxRecDepth 100000 in
theorem readVersionNew (q p b v : Nat) (v2 : Value) (f : Nat → Nat → Bool) (w : World) (hq : Blk w q #[.pointer (some ⟨p, 0, none⟩), .pointer none, v2, .bool false] 292) (h : BX w p b (dim v) (dim v) f) (h1 : 1 ≤ v) (h6 : v ≤ 6) :
    Calls Tryz.prog 154 #[.pointer (some ⟨q, 0, none⟩)] w fun e w' => ∃ pv, e = .returned (.tuple #[.pointer (some ⟨pv, 0, none⟩), .nilIface]) ∧ VerAt w' pv v ∧ Kept w w' := by
  have c0 := hq.cell 0
  have c1 := hq.cell 1
  simp only [List.getElem?_toArray, List.getElem?_cons_zero, List.getElem?_cons_succ] at c0 c1
  have hh := bxHeight p b (dim v) (dim v) f w h
  have hvf := versionFor v w h1 (by omega)
  have HH := Lib.hid hh
  have HVF := Lib.hid hvf
  have hq4 : ((dim v : Nat) : Int) - 17 = 4 * v := by unfold dim; omega
  have hqo : ((4 : Int) * v).tdiv 4 = v := by
    rw [Int.tdiv_eq_ediv_of_nonneg (by omega)]; omega
  have hdb : dim v ≤ 45 := by unfold dim; omega
  have hd6 : decide ((v : Int) ≤ 6) = true := by simp; omega
  generalize dim v = n at *
  clear hh hvf hq h
  go_enter Tryz.func154, Tryz.ntmps154
  go_wp2_with fail
  with_reducible refine HH.out.mono ?_
  rintro _ _ ⟨rfl, rfl⟩
  dsimp only
  go_wp2_with fail
  with_reducible refine HVF.out.mono ?_
  rintro _ w2 ⟨pv, rfl, hv, k2⟩
  have HV := Lib.hid hv
  have K2 := Lib.hid k2
  clear hv k2
  dsimp only
  go_wp2
  go_ret2
  exact ⟨pv, rfl, HV.out, K2.out⟩

theorem readVersionOld (q p v pv : Nat) (v2 : Value) (w : World) (hq : Blk w q #[.pointer (some ⟨p, 0, none⟩), .pointer (some ⟨pv, 0, none⟩), v2, .bool false] 292) :
    Calls Tryz.prog 154 #[.pointer (some ⟨q, 0, none⟩)] w fun e w' => e = .returned (.tuple #[.pointer (some ⟨pv, 0, none⟩), .nilIface]) ∧ w = w' := by
  have c1 := hq.cell 1
  simp only [List.getElem?_toArray, List.getElem?_cons_zero, List.getElem?_cons_succ] at c1
  clear hq
  go_enter Tryz.func154, Tryz.ntmps154
  go_wp2
  go_ret2
  exact ⟨rfl, rfl⟩

theorem readFormatOld (q fp : Nat) (v0 v1 : Value) (w : World) (hq : Blk w q #[v0, v1, .pointer (some ⟨fp, 0, none⟩), .bool false] 292) :
    Calls Tryz.prog 155 #[.pointer (some ⟨q, 0, none⟩)] w fun e w' => e = .returned (.tuple #[.pointer (some ⟨fp, 0, none⟩), .nilIface]) ∧ w = w' := by
  have c1 := hq.cell 2
  simp only [List.getElem?_toArray, List.getElem?_cons_zero, List.getElem?_cons_succ] at c1
  clear hq
  go_enter Tryz.func155, Tryz.ntmps155
  go_wp2
  go_ret2
  exact ⟨rfl, rfl⟩

/-- The version, be it known to the parser or not. -/
theorem readVersion (q p b v : Nat) (v1 v2 : Value) (f : Nat → Nat → Bool) (w : World) (hq : Blk w q #[.pointer (some ⟨p, 0, none⟩), v1, v2, .bool false] 292) (hp : PV w v1 v) (h : BX w p b (dim v) (dim v) f) (h1 : 1 ≤ v) (h7 : v ≤ 7) (hf7 : v = 7 → verN f 6 = 31892) :
    Calls Tryz.prog 154 #[.pointer (some ⟨q, 0, none⟩)] w fun e w' => ∃ pv v1', e = .returned (.tuple #[.pointer (some ⟨pv, 0, none⟩), .nilIface]) ∧ VerAt w' pv v ∧ PV w' v1' v ∧ Blk w' q #[.pointer (some ⟨p, 0, none⟩), v1', v2, .bool false] 292 ∧ Frm (fun k => k = q) w w' := by
  rcases hp with rfl | ⟨pv, rfl, hv⟩
  · by_cases h6 : v ≤ 6
    · refine (readVersionNew q p b v v2 f w hq h h1 h6).mono ?_
      rintro _ w' ⟨pv, rfl, hv, k⟩
      exact ⟨pv, _, rfl, hv, .inl rfl, hq.frm k (fun h => h), k.toFrm⟩
    · obtain rfl : v = 7 := by omega
      refine (readVersion7 q p b v2 f w hq h (hf7 rfl)).mono ?_
      rintro _ w' ⟨pv, rfl, hv, hb, k⟩
      exact ⟨pv, _, rfl, hv, .inr ⟨pv, rfl, hv⟩, hb, k⟩
  · refine (readVersionOld q p v pv v2 w hq).mono ?_
    rintro _ _ ⟨rfl, rfl⟩
    exact ⟨pv, _, rfl, hv, .inr ⟨pv, rfl, hv⟩, hq, Frm.refl _ _⟩
end Go.Proofs.YtnpkihobbcglcaaGreatDoor

/- U9: Decoding 9: a region set; a square matrix made. -/
namespace Go.Proofs.YtnpkihobbcglcaaGreatDoor
open Go Go.RowKit

def reg (l t wd hg : Nat) : Nat → Nat → Bool := fun x y => decide (l ≤ x ∧ x < l + wd ∧ t ≤ y ∧ y < t + hg)
def orF (f g : Nat → Nat → Bool) : Nat → Nat → Bool := fun x y => f x y || g x y
/-- A region, so far as it is set: whole rows, and a part of one. -/
def regP (f : Nat → Nat → Bool) (l wd t i j : Nat) : Nat → Nat → Bool := fun x y => f x y || decide (l ≤ x ∧ t ≤ y ∧ (y < t + i ∧ x < l + wd ∨ y = t + i ∧ x < l + j))
theorem regP_zero (f : Nat → Nat → Bool) (l wd t : Nat) : regP f l wd t 0 0 = f := by
  funext x y
  unfold regP
  rw [decide_eq_false (by omega)]; simp
theorem regP_step (f : Nat → Nat → Bool) (l wd t i j : Nat) (hj : j < wd) : (fun a c => if a = l + j ∧ c = t + i then true else regP f l wd t i j a c) = regP f l wd t i (j + 1) := by
  funext a c
  unfold regP
  split
  · rename_i e
    obtain ⟨rfl, rfl⟩ := e
    rw [decide_eq_true (by omega)]; simp
  · congr 1
    rw [decide_eq_decide]
    omega
theorem regP_row (f : Nat → Nat → Bool) (l wd t i : Nat) : regP f l wd t i wd = regP f l wd t (i + 1) 0 := by
  funext a c
  unfold regP
  congr 1
  rw [decide_eq_decide]
  omega
theorem regP_all (f : Nat → Nat → Bool) (l wd t hg : Nat) : regP f l wd t hg 0 = orF f (reg l t wd hg) := by
  funext a c
  unfold regP orF reg
  congr 1
  rw [decide_eq_decide]
  omega

set_option maxRecDepth 100000 in
set_option maxHeartbeats 4000000 in
theorem setRegion (p b n l t wd hg : Nat) (f : Nat → Nat → Bool) (w : World) (h : BX w p b n n f) (hn : n ≤ 45) (hwd : 1 ≤ wd) (hhg : 1 ≤ hg) (hl : l + wd ≤ n) (ht : t + hg ≤ n) :
    Calls Tryz.prog 245 #[.pointer (some ⟨p, 0, none⟩), .int .i64 l, .int .i64 t, .int .i64 wd, .int .i64 hg] w fun e w' => e = .returned .nilIface ∧ BX w' p b n n (orF f (reg l t wd hg)) ∧ Frm (fun k => k = b) w w' := by
  have hB := h
  rw [← regP_zero f l wd t] at hB
  obtain ⟨ws, h1, h2, h3⟩ := h.ex
  have c0 := h1.cell 0
  have c1 := h1.cell 1
  simp only [List.getElem?_toArray, List.getElem?_cons_zero, List.getElem?_cons_succ] at c0 c1
  have e1 : decide ((t : Int) < 0) = false := by simp
  have e2 : decide ((l : Int) < 0) = false := by simp
  have e3 : decide ((hg : Int) < 1) = false := by simp; omega
  have e4 : decide ((wd : Int) < 1) = false := by simp; omega
  have e5 : decide ((n : Int) < (t : Int) + hg) = false := by simp; omega
  have e6 : decide ((n : Int) < (l : Int) + wd) = false := by simp; omega
  have hpb := h.ne
  clear h h1 h2 h3
  go_enter Tryz.func245, Tryz.ntmps245
  go_wp2_with fail
  go_loopw [13, 14, 15] (fun yv _ _ wr => ∃ i : Nat, i ≤ hg ∧ yv = .int .i64 ((t : Int) + i) ∧ BX wr p b n n (regP f l wd t i 0) ∧ Frm (fun k => k = b) w wr) (fun yv _ _ _ => (t + hg - intOf yv).toNat)
  case atStart => exact ⟨0, Nat.zero_le _, by go_num, hB, Frm.refl _ _⟩
  case round =>
    obtain ⟨i, hi, rfl, hb, hf⟩ := hrel
    clear hB
    by_cases hih : i < hg
    · have hd : decide ((t : Int) + i < (t : Int) + hg) = true := by simp; omega
      obtain ⟨ws, h1, h2, h3⟩ := hb.ex
      have c2 := h1.cell 2
      simp only [List.getElem?_toArray, List.getElem?_cons_zero, List.getElem?_cons_succ] at c2
      have hrs : rsz n ≤ 2 := by unfold rsz; omega
      obtain ⟨O, hO⟩ : ∃ O, (t + i) * rsz n = O := ⟨_, rfl⟩
      have hOi : ((t : Int) + i) * (rsz n : Nat) = O := by rw [← hO, Int.natCast_mul, Int.natCast_add]
      have hOb : O ≤ 90 := by rw [← hO]; exact Nat.le_trans (Nat.mul_le_mul (show t + i ≤ 45 by omega) hrs) (by omega)
      generalize hr : rsz n = r at *
      have HR := Lib.hid hr
      have HO := Lib.hid hO
      have HB := Lib.hid hb
      have HF := Lib.hid hf
      clear h1 h2 h3 hb hf hO hr
      go_wp2_with fail
      go_loopw [15] (fun xv wx => ∃ j : Nat, j ≤ wd ∧ xv = .int .i64 ((l : Int) + j) ∧ BX wx p b n n (regP f l wd t i j) ∧ Frm (fun k => k = b) w wx) (fun xv _ => (l + wd - intOf xv).toNat)
      case atStart => exact ⟨0, Nat.zero_le _, by go_num, HB.out, HF.out⟩
      case round =>
        clear HB HF c2
        obtain ⟨j, hj, rfl, hb, hf⟩ := hrel
        by_cases hjw : j < wd
        · have hdj : decide ((l : Int) + j < (l : Int) + wd) = true := by simp; omega
          obtain ⟨ws, h1, h2, h3⟩ := hb.ex
          have c3 := h1.cell 3
          simp only [List.getElem?_toArray, List.getElem?_cons_zero, List.getElem?_cons_succ] at c3
          have hxn : l + j < n := by omega
          have hyn : t + i < n := by omega
          obtain ⟨i1, i2⟩ := WB.ix hxn hyn
          rw [← h3.len] at i2
          have cw := h2.cell _ i2
          have fw := h2.free ((t + i) * rsz n + (l + j) / 32)
          have hor := or_word (ws.getD ((t + i) * rsz n + (l + j) / 32) 0) ((l + j) % 32) (h3.lt _) (by omega)
          have hset := h3.or (l + j) (t + i) hxn hyn
          rw [regP_step f l wd t i j hjw] at hset
          have hwd2 := h2.set ((t + i) * rsz n + (l + j) / 32) (ws.getD ((t + i) * rsz n + (l + j) / 32) 0 ||| 2 ^ ((l + j) % 32))
          have hob := h1.setOther (a := ⟨b, (t + i) * rsz n + (l + j) / 32, none⟩) hpb (.int .u32 ((ws.getD ((t + i) * rsz n + (l + j) / 32) 0 ||| 2 ^ ((l + j) % 32) : Nat) : Int))
          have hfr : Frm (fun k => k = b) w (wr.setCell ⟨b, (t + i) * rsz n + (l + j) / 32, none⟩ (.int .u32 ((ws.getD ((t + i) * rsz n + (l + j) / 32) 0 ||| 2 ^ ((l + j) % 32) : Nat) : Int))) := hf.setCell (p := ⟨b, (t + i) * rsz n + (l + j) / 32, none⟩) (.inl rfl) _
          rw [← hor] at hob hwd2 hfr
          have HRES : RowKit.Hid (BX (wr.setCell ⟨b, (t + i) * rsz n + (l + j) / 32, none⟩ (.int .u32 (bits .or .u32 ((ws.getD ((t + i) * rsz n + (l + j) / 32) 0 : Nat) : Int) (2 ^ ((l + j) % 32) % 4294967296)))) p b n n (regP f l wd t i (j + 1))) := Lib.hid ⟨_, by rw [List.length_set]; exact hob, hwd2, hset⟩
          have HFR := Lib.hid hfr
          have hlen : ws.length ≤ 90 := by rw [h3.len, HR.out]; exact Nat.le_trans (Nat.mul_le_mul hrs hn) (by omega)
          clear hob hwd2 hset hfr hor
          generalize ws.getD ((t + i) * rsz n + (l + j) / 32) 0 = v at cw HRES HFR
          rw [HR.out, HO.out] at i2 cw fw HRES HFR
          generalize ws.length = M at *
          have q1 : ((l : Int) + j).tdiv 32 = (((l + j) / 32 : Nat) : Int) := (Int.ofNat_tdiv (l + j) 32).symm
          have q2 : ((l : Int) + j).tmod 32 = (((l + j) % 32 : Nat) : Int) := (Int.ofNat_tmod (l + j) 32).symm
          generalize hQ : (l + j) / 32 = qd at *
          have hm : (l + j) % 32 < 32 := Nat.mod_lt _ (by omega)
          generalize hM : (l + j) % 32 = rm at *
          clear h1 h2 h3 hb hf hQ hM i1
          go_wp2
          exact ⟨⟨j + 1, by omega, by go_num, HRES.out, HFR.out⟩, by simp [intOf]; omega⟩
        · obtain rfl : j = wd := by omega
          have hdj : decide ((l : Int) + j < (l : Int) + j) = false := by simp
          rw [regP_row] at hb
          have HB := Lib.hid hb
          have HF := Lib.hid hf
          clear hb hf
          go_wp2
          exact ⟨⟨i + 1, by omega, by go_num, HB.out, HF.out⟩, by simp [intOf]; omega⟩
    · obtain rfl : i = hg := by omega
      have hd : decide ((t : Int) + i < (t : Int) + i) = false := by simp
      rw [regP_all] at hb
      have HB := Lib.hid hb
      have HF := Lib.hid hf
      clear hb hf
      go_wp2
      go_ret
      exact ⟨rfl, HB.out, HF.out⟩

theorem newSquare (n : Nat) (w : World) (h1 : 1 ≤ n) (hn : n ≤ 45) :
    Calls Tryz.prog 244 #[.int .i64 n] w fun e w' => ∃ p b, e = .returned (.tuple #[.pointer (some ⟨p, 0, none⟩), .nilIface]) ∧ BX w' p b n n (fun _ _ => false) ∧ Kept w w' ∧ w.heap.size ≤ p ∧ w.heap.size ≤ b := by
  have hnew := bxNew n n w h1 h1 (by omega) (by omega)
  have HN := Lib.hid hnew
  clear hnew
  go_enter Tryz.func244, Tryz.ntmps244
  go_wp2_with fail
  with_reducible refine HN.out.mono ?_
  rintro _ w1 ⟨p, b, rfl, hb, k, h2, h3⟩
  dsimp only
  go_wp2
  go_ret2
  exact ⟨p, b, rfl, hb, k, h2, h3⟩
end Go.Proofs.YtnpkihobbcglcaaGreatDoor

/- U10: Decoding 10: the function pattern. -/
namespace Go.Proofs.YtnpkihobbcglcaaGreatDoor
open Go Go.RowKit

def cenN (v : Nat) : List Nat := (verCenters v).map Int.toNat
theorem cen_ok : ∀ v, v < 8 → 1 ≤ v → ∀ x, x < (verCenters v).length → (verCenters v).getD x 0 = ((cenN v).getD x 0 : Nat) ∧ 2 ≤ (cenN v).getD x 0 ∧ (cenN v).getD x 0 + 3 ≤ dim v := by decide +kernel
theorem cen_len : ∀ v, v < 8 → (verCenters v).length ≤ 3 := by decide +kernel
def skipC (K x y : Nat) : Bool := (decide (x = 0) && (decide (y = 0) || decide (y = K - 1))) || (decide (x = K - 1) && decide (y = 0))
def alCell (v x y : Nat) (f : Nat → Nat → Bool) : Nat → Nat → Bool := if skipC (verCenters v).length x y then f else orF f (reg ((cenN v).getD y 0 - 2) ((cenN v).getD x 0 - 2) 5 5)
def alRow (v x k : Nat) (f : Nat → Nat → Bool) : Nat → Nat → Bool := iterN (fun y f => alCell v x y f) k f
def alAll (v k : Nat) (f : Nat → Nat → Bool) : Nat → Nat → Bool := iterN (fun x f => alRow v x (verCenters v).length f) k f
def fpat0 (n : Nat) : Nat → Nat → Bool := orF (orF (orF (fun _ _ => false) (reg 0 0 9 9)) (reg (n - 8) 0 8 9)) (reg 0 (n - 8) 9 8)
def fpat1 (n : Nat) (f : Nat → Nat → Bool) : Nat → Nat → Bool := orF (orF f (reg 6 9 1 (n - 17))) (reg 9 6 (n - 17) 1)
def fpat2 (v n : Nat) (f : Nat → Nat → Bool) : Nat → Nat → Bool := if 6 < v then orF (orF f (reg (n - 11) 0 3 6)) (reg 0 (n - 11) 6 3) else f
/-- Where the function patterns are. -/
def fpat (v : Nat) : Nat → Nat → Bool := fpat2 v (dim v) (fpat1 (dim v) (alAll v (verCenters v).length (fpat0 (dim v))))

def gridOk (G : Grid) (n : Nat) (F : Nat → Nat → Bool) : Bool := decide (G.map (fun r => r.map (fun c => !(c == -1))) = (List.range n).map fun y => (List.range n).map fun x => F x y)
theorem grid_bool (G : Grid) (n : Nat) (F : Nat → Nat → Bool) (hs : Sq n G) (h : gridOk G n F = true) (x y : Nat) (hx : x < n) (hy : y < n) : F x y = !(gget G x y == -1) := by
  have h := of_decide_eq_true h
  have hl : y < G.length := by rw [hs.len]; exact hy
  have hw := hs.wid y hy
  have e := congrArg (fun G : List (List Bool) => (G.getD y []).getD x false) h
  simp only [List.getD_eq_getElem?_getD, List.getElem?_map, List.getElem?_range hy, Option.map_some, Option.getD_some, List.getElem?_range hx, List.getElem?_eq_getElem hl] at e
  rw [List.getD_eq_getElem?_getD, List.getElem?_eq_getElem hl] at hw
  simp only [Option.getD_some] at hw
  rw [List.getElem?_eq_getElem (by rw [hw]; exact hx)] at e
  simp only [Option.map_some, Option.getD_some] at e
  rw [← e]
  unfold gget
  rw [List.getD_eq_getElem?_getD (l := G), List.getElem?_eq_getElem hl, Option.getD_some, List.getD_eq_getElem?_getD, List.getElem?_eq_getElem (by rw [hw]; exact hx)]
  rfl
theorem fp_all : ∀ v, v < 8 → 1 ≤ v → gridOk (baseG v 0) (dim v) (fpat v) = true := by decide +kernel
theorem fp_get (v t x y : Nat) (h1 : 1 ≤ v) (h7 : v ≤ 7) (hx : x < dim v) (hy : y < dim v) : fpat v x y = !(gget (baseG v t) x y == -1) := by
  have hs := baseG_same v t h1 h7
  have e := grid_bool (baseG v 0) (dim v) (fpat v) hs.sq' (fp_all v (by omega) h1) x y hx hy
  have h2 := hs.same x y
  generalize baseG v 0 = G0 at *
  generalize baseG v t = G at *
  rw [e]
  congr 1
  rw [Bool.eq_iff_iff, beq_iff_eq, beq_iff_eq]
  exact h2.symm
end Go.Proofs.YtnpkihobbcglcaaGreatDoor
