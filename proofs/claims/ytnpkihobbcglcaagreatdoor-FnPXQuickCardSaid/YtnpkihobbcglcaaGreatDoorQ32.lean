/- BlackMatrix; slices of rows that grew; PXTaken. Decoding 1: modules as a BitMatrix; the parser's object; a bit copied. Decoding 2: the masks taken off. -/
import Derived.Test.YtnpkihobbcglcaaGreatDoorQ11
import Derived.Test.YtnpkihobbcglcaaGreatDoorQ31
set_option linter.unusedSimpArgs false
set_option linter.unusedVariables false

/- Y7: BlackMatrix; slices of rows that grew; PXTaken. -/
namespace Go.Proofs.YtnpkihobbcglcaaGreatDoor
open Go Go.RowKit

theorem blackMatrix (b N c W H L : Nat) (px : List Nat) (w : World) (hr : Row w 5 b N c (natVals .u8 px)) (hv : ∀ i, px.getD i 0 = 0 ∨ px.getD i 0 = L) (hN : H * W = N) (hL0 : 1 ≤ L) (hL : L < 256) (hWa : 40 ≤ W) (hHa : 40 ≤ H) (hWb : W ≤ 400) (hHb : H ≤ 400) :
    Calls Tryz.prog 26 #[.int .i64 W, .int .i64 H, .slice (some ⟨b, 0, none⟩) N c, .bool true] w fun e w' => ∃ o, e = .returned (.tuple #[.slice (some ⟨o, 0, none⟩) H H, .bool true]) ∧
      SliceOf w' (.slice (some ⟨o, 0, none⟩) H H) ((List.range H).map (rowF (fun a k => decide (px.getD (k * W + a) 0 = 0)) W)) ∧ Kept w w' := by
  have hbl := blackAny b N c W H L px w hr hv hN hL0 hL hWa hHa hWb hHb
  have HBL := Lib.hid hbl
  clear hbl hr hv hN
  go_enter Tryz.func26, Tryz.ntmps26
  go_wp2_with fail
  with_reducible refine HBL.out.mono ?_
  rintro _ w1 ⟨p, bb, rfl, hx, k1⟩
  have hro := rowsOf p bb W H _ w1 hx hWb hHb
  have HRO := Lib.hid hro
  have HK1 := Lib.hid k1
  clear hx hro k1 HBL
  dsimp only
  go_wp2_with fail
  with_reducible refine HRO.out.mono ?_
  rintro _ w2 ⟨o, rfl, hs, k2⟩
  have HS := Lib.hid hs
  have HK2 := Lib.hid (HK1.out.trans k2)
  clear hs k2 HK1 HRO
  dsimp only
  go_wp2
  go_ret2
  exact ⟨o, rfl, HS.out, HK2.out⟩

/-- The value v is a row of bits; S is a slice of such rows. -/
def BoolsC (w : World) (v : Value) (r : List Bool) : Prop := ∃ b c, v = .slice (some ⟨b, 0, none⟩) r.length c ∧ Row w 4 b r.length c (r.map Value.bool)
def SliceC (w : World) (S : Value) (R : List (List Bool)) : Prop :=
  (R = [] ∧ S = .slice none 0 0) ∨ ∃ g cap vs, S = .slice (some ⟨g, 0, none⟩) R.length cap ∧ Row w 56 g R.length cap vs ∧ ∀ (j : Nat) (r : List Bool), R[j]? = some r → ∃ v, vs[j]? = some v ∧ BoolsC w v r
theorem BoolsC.kept {w w' : World} {v : Value} {r : List Bool} (h : BoolsC w v r) (hf : Kept w w') : BoolsC w' v r :=
  let ⟨b, c, h1, h2⟩ := h; ⟨b, c, h1, h2.kept hf⟩
theorem SliceC.nil (w : World) : SliceC w (.slice none 0 0) [] := .inl ⟨rfl, rfl⟩
theorem SliceC.kept {w w' : World} {S : Value} {R : List (List Bool)} (h : SliceC w S R) (hf : Kept w w') : SliceC w' S R := by
  rcases h with h | ⟨g, cap, vs, h1, h2, h3⟩
  · exact .inl h
  · exact .inr ⟨g, cap, vs, h1, h2.kept hf, fun j r hj => let ⟨v, h4, h5⟩ := h3 j r hj; ⟨v, h4, h5.kept hf⟩⟩
theorem BoolsC.row {w w' : World} {g n cap : Nat} {vs : List Value} {v : Value} {r : List Bool} (h : BoolsC w v r) (hr : Row w 56 g n cap vs) (hf : Frm (fun k => k = g) w w') : BoolsC w' v r := by
  obtain ⟨b, c, h1, h2⟩ := h
  refine ⟨b, c, h1, h2.frm hf ?_⟩
  rintro rfl
  obtain ⟨c1, x1, _⟩ := h2.cells
  obtain ⟨c2, x2, _⟩ := hr.cells
  exact x1.ne x2 (by decide) rfl
/-- One row more. -/
theorem SliceC.push {w : World} {S : Value} {R : List (List Bool)} {b c : Nat} {r : List Bool} (h : SliceC w S R) (hb : Row w 4 b r.length c (r.map Value.bool)) (hl : R.length ≤ 1000) :
    ∃ g' cap' w', (Builtin.append_ #[24, 24] 24 #[S, .slice (some ⟨w.heap.size, 0, none⟩) 1 1]).run Tryz.prog (w.alloc (.cells #[.slice (some ⟨b, 0, none⟩) r.length c] 56)) = .ok (.slice (some ⟨g', 0, none⟩) (R.length + 1) cap') w' ∧ SliceC w' (.slice (some ⟨g', 0, none⟩) (R.length + 1) cap') (R ++ [r]) ∧
      Frm (fun k => S.ownBlock = some k) w w' ∧ (S.ownBlock = some g' ∨ w.heap.size ≤ g') := by
  have hbc : BoolsC w (.slice (some ⟨b, 0, none⟩) r.length c) r := ⟨b, c, rfl, hb⟩
  rcases h with ⟨rfl, rfl⟩ | ⟨g, cap, vs, rfl, h2, h3⟩
  · obtain ⟨g', cap', w', hr, hrow, hk, hgn⟩ := run_append_nil1 24 24 56 (.slice none 0 0) 24 (by kernel_rfl) info56 rfl (w := w) (.slice (some ⟨b, 0, none⟩) r.length c) rfl (by omega)
    refine ⟨g', cap', w', hr, .inr ⟨g', cap', _, rfl, hrow, ?_⟩, hk.toFrm, .inr hgn⟩
    intro j x hj
    match j with
    | 0 => simp at hj; subst hj; exact ⟨_, rfl, hbc.kept hk⟩
    | j + 1 => simp at hj
  · obtain ⟨g', cap', w', hr, hrow, hf, hg'⟩ := run_append_row1 24 24 56 (.slice none 0 0) 24 (by kernel_rfl) info56 rfl h2 (.slice (some ⟨b, 0, none⟩) r.length c) rfl (by unfold maxLen; omega) (by omega)
    have hlen : (R ++ [r]).length = R.length + 1 := by simp
    refine ⟨g', cap', w', hr, .inr ⟨g', cap', _, by rw [hlen], by rw [hlen]; exact hrow, ?_⟩, hf.mono (fun k _ h => by simp [Value.ownBlock, h]), ?_⟩
    · intro j x hj
      by_cases hjl : j < R.length
      · rw [List.getElem?_append_left hjl] at hj
        obtain ⟨v, hc1, hc2⟩ := h3 j x hj
        exact ⟨v, by rw [List.getElem?_append_left (by rw [h2.len]; exact hjl)]; exact hc1, hc2.row h2 hf⟩
      · rw [List.getElem?_append_right (by omega)] at hj
        have hj0 : j - R.length = 0 := by
          cases hz : j - R.length with
          | zero => rfl
          | succ m => rw [hz] at hj; simp at hj
        rw [hj0] at hj
        simp at hj
        subst hj
        refine ⟨_, ?_, hbc.row h2 hf⟩
        rw [List.getElem?_append_right (by rw [h2.len]; omega), h2.len, hj0]
        rfl
    · rcases hg' with h | h
      · left; simp [Value.ownBlock, h]
      · exact .inr h
end Go.Proofs.YtnpkihobbcglcaaGreatDoor

/- U1: Decoding 1: modules as a BitMatrix; the parser's object; a bit copied. -/
namespace Go.Proofs.YtnpkihobbcglcaaGreatDoor
open Go Go.RowKit

/-- The bits of rows, so far as they are laid. -/
def partF (bit : Nat → Nat → Bool) (y x : Nat) : Nat → Nat → Bool := fun a c => decide (c < y ∨ c = y ∧ a < x) && bit a c
theorem partF_zero (bit : Nat → Nat → Bool) : partF bit 0 0 = fun _ _ => false := by
  funext a c; simp [partF]
theorem partF_row (bit : Nat → Nat → Bool) (y n a c : Nat) (ha : a < n) : partF bit y n a c = partF bit (y + 1) 0 a c := by
  unfold partF; congr 1; rw [decide_eq_decide]; omega
theorem partF_yes (bit : Nat → Nat → Bool) (y x : Nat) (h : bit x y = true) : (fun a c => if a = x ∧ c = y then true else partF bit y x a c) = partF bit y (x + 1) := by
  funext a c
  unfold partF
  split
  · rename_i e; obtain ⟨rfl, rfl⟩ := e; simp [h]
  · congr 1; rw [decide_eq_decide]; omega
theorem partF_no (bit : Nat → Nat → Bool) (y x : Nat) (h : bit x y = false) : partF bit y x = partF bit y (x + 1) := by
  funext a c
  unfold partF
  by_cases e : a = x ∧ c = y
  · obtain ⟨rfl, rfl⟩ := e; simp [h]
  · congr 1; rw [decide_eq_decide]; omega
theorem partF_all (bit : Nat → Nat → Bool) (n a c : Nat) (hc : c < n) : partF bit n 0 a c = bit a c := by
  unfold partF; simp [hc]

def bitOf (R : List (List Bool)) : Nat → Nat → Bool := fun x y => (R.getD y []).getD x false

set_option maxRecDepth 100000 in
set_option maxHeartbeats 4000000 in
theorem parseMap (S : Value) (n : Nat) (R : List (List Bool)) (w : World) (hS : SliceC w S R) (hn : R.length = n) (hr : ∀ y, y < n → (R.getD y []).length = n) (hn1 : 1 ≤ n) (hn2 : n ≤ 45) :
    Calls Tryz.prog 118 #[S] w fun e w' => ∃ p b, e = .returned (.tuple #[.pointer (some ⟨p, 0, none⟩), .nilIface]) ∧ BX w' p b n n (bitOf R) ∧ Kept w w' ∧ w.heap.size ≤ p ∧ w.heap.size ≤ b := by
  rcases hS with ⟨rfl, _⟩ | ⟨g, cap, vs, rfl, h2, h3⟩
  · simp at hn; omega
  rw [hn] at h2 ⊢
  have hat : ∀ y, y < n → ∃ rb c, w.cell? ⟨g, y, none⟩ = some (.slice (some ⟨rb, 0, none⟩) n c) ∧ ∀ x, x < n → w.cell? ⟨rb, x, none⟩ = some (.bool (bitOf R x y)) := by
    intro y hy
    obtain ⟨v, hv1, rb, c, rfl, hb2⟩ := h3 y (R.getD y []) (by rw [List.getD_eq_getElem?_getD, List.getElem?_eq_getElem (by omega)]; rfl)
    rw [hr y hy] at hv1 hb2
    refine ⟨rb, c, by rw [h2.cell y hy]; exact hv1, fun x hx => ?_⟩
    rw [hb2.cell x hx]
    have hl : x < (R.getD y []).length := by rw [hr y hy]; exact hx
    unfold bitOf
    rw [List.getElem?_map, List.getElem?_eq_getElem hl, List.getD_eq_getElem?_getD (l := R.getD y []), List.getElem?_eq_getElem hl]
    rfl
  have HAT := Lib.hid hat
  obtain ⟨rb0, c0, r00, -⟩ := hat 0 hn1
  have hnew := bxNew n n w hn1 hn1 (by omega) (by omega)
  have HNEW := Lib.hid hnew
  have hd0 : decide ((0 : Int) < n) = true := by simp; omega
  clear hat hnew h2 h3 hr
  go_enter Tryz.func118, Tryz.ntmps118
  go_wp2_with fail
  with_reducible refine HNEW.out.mono ?_
  rintro _ w1 ⟨p, b, rfl, hbx, k1, hp1, hb1⟩
  rw [← partF_zero (bitOf R)] at hbx
  have HLE := Lib.hid hb1
  have HLP := Lib.hid hp1
  clear HNEW r00 hp1 hb1
  dsimp only
  go_wp2_with fail
  go_loopw [8, 9, 10] (fun yv _ _ wr => ∃ y : Nat, y ≤ n ∧ yv = .int .i64 y ∧ BX wr p b n n (partF (bitOf R) y 0) ∧ Kept w wr) (fun yv _ _ _ => n - (intOf yv).toNat)
  case atStart => exact ⟨0, Nat.zero_le _, rfl, hbx, k1⟩
  case round =>
    clear hbx k1
    obtain ⟨y, hy, rfl, hb, kw⟩ := hrel
    by_cases hyn : y < n
    · have hd : decide ((y : Int) < n) = true := by simp; omega
      obtain ⟨rb, rc, r1, r2⟩ := HAT.out y hyn
      have r1w := cell_kept r1 kw
      have HR2 := Lib.hid r2
      have HB := Lib.hid hb
      have KW := Lib.hid kw
      clear r1 r2 hb kw
      go_wp2_with fail
      go_loopw [10] (fun xv wx => ∃ x : Nat, x ≤ n ∧ xv = .int .i64 x ∧ BX wx p b n n (partF (bitOf R) y x) ∧ Kept w wx) (fun xv _ => n - (intOf xv).toNat)
      case atStart => exact ⟨0, Nat.zero_le _, rfl, HB.out, KW.out⟩
      case round =>
        clear HB KW r1w
        obtain ⟨x, hx, rfl, hb, kw⟩ := hrel
        by_cases hxn : x < n
        · have hdx : decide ((x : Int) < n) = true := by simp; omega
          have cx := cell_kept (HR2.out x hxn) kw
          cases hbit : bitOf R x y
          · rw [hbit] at cx
            rw [partF_no _ _ _ hbit] at hb
            have HB := Lib.hid hb
            have KW := Lib.hid kw
            clear hb kw hbit
            go_wp2
            exact ⟨⟨x + 1, by omega, by go_num, HB.out, KW.out⟩, by simp [intOf]; omega⟩
          · rw [hbit] at cx
            have hset := bxSet p b n n x y _ wr hb hxn hyn (by omega) (by omega)
            rw [partF_yes _ _ _ hbit] at hset
            have HSET := Lib.hid hset
            have KW := Lib.hid kw
            clear hb kw hbit hset
            go_wp2_with fail
            with_reducible refine HSET.out.mono ?_
            rintro _ w3 ⟨rfl, hb3, f3⟩
            have HB3 := Lib.hid hb3
            have K3 : RowKit.Hid (Kept w w3) := Lib.hid (KW.out.step f3 (fun k hk e => by have := HLE.out; omega))
            clear hb3 f3 HSET
            dsimp only
            go_wp2
            exact ⟨⟨x + 1, by omega, by go_num, HB3.out, K3.out⟩, by simp [intOf]; omega⟩
        · obtain rfl : x = n := by omega
          have hdx : decide ((x : Int) < x) = false := by simp
          have HB := Lib.hid (hb.congr (fun a c ha _ => partF_row (bitOf R) y x a c ha))
          have KW := Lib.hid kw
          clear hb kw
          go_wp2
          exact ⟨⟨y + 1, by omega, by go_num, HB.out, KW.out⟩, by simp [intOf]; omega⟩
    · obtain rfl : y = n := by omega
      have hd : decide ((y : Int) < y) = false := by simp
      have HB := Lib.hid (hb.congr (fun a c _ hc => partF_all (bitOf R) y a c hc))
      have KW := Lib.hid kw
      clear hb kw
      go_wp2
      go_ret2
      exact ⟨p, b, rfl, HB.out, KW.out, HLP.out, HLE.out⟩

/-- The parser's object: the matrix, nothing read as yet, not mirrored. -/
theorem newParser (p b n : Nat) (f : Nat → Nat → Bool) (w : World) (h : BX w p b n n f) (hn : 21 ≤ n) (h4 : n % 4 = 1) (hb : n ≤ 45) :
    Calls Tryz.prog 149 #[.pointer (some ⟨p, 0, none⟩)] w fun e w' => ∃ q, e = .returned (.tuple #[.pointer (some ⟨q, 0, none⟩), .nilIface]) ∧ Blk w' q #[.pointer (some ⟨p, 0, none⟩), .pointer none, .pointer none, .bool false] 292 ∧ Kept w w' ∧ w.heap.size ≤ q := by
  have hh := bxHeight p b n n f w h
  have HH := Lib.hid hh
  have d1 : decide ((n : Int) < 21) = false := by simp; omega
  have a3 := i64_and n 3 (by omega) (by omega)
  have e3 : n &&& 3 = 1 := by rw [show (3 : Nat) = 2 ^ 2 - 1 by rfl, Nat.and_two_pow_sub_one_eq_mod]; exact h4
  rw [e3] at a3
  simp only [Int.cast_ofNat_Int] at a3
  clear hh h
  go_enter Tryz.func149, Tryz.ntmps149
  go_wp2_with fail
  with_reducible refine HH.out.mono ?_
  rintro _ _ ⟨rfl, rfl⟩
  dsimp only
  go_wp2_with fail
  have hb := Blk.new w #[.pointer (some ⟨p, 0, none⟩), .pointer none, .pointer none, .bool false] 292
  have ka : Kept w (w.alloc (.cells #[.pointer (some ⟨p, 0, none⟩), .pointer none, .pointer none, .bool false] 292)) := (Frm.refl _ _).alloc _
  go_ret2
  exact ⟨w.heap.size, rfl, hb, ka, Nat.le_refl _⟩

/-- A bit behind the bits so far. -/
theorem copyBit (q p b n : Nat) (x y v : Nat) (f : Nat → Nat → Bool) (w : World) (h0 : w.cell? ⟨q, 0, none⟩ = some (.pointer (some ⟨p, 0, none⟩))) (h3 : w.cell? ⟨q, 3, none⟩ = some (.bool false)) (h : BX w p b n n f) (hx : x < n) (hy : y < n) (hn : n ≤ 45) (hv : v < 1048576) :
    Calls Tryz.prog 193 #[.pointer (some ⟨q, 0, none⟩), .int .i64 x, .int .i64 y, .int .i64 v] w fun e w' => e = .returned (.int .i64 (2 * v + (f x y).toNat : Nat)) ∧ w = w' := by
  have hg := bxGet p b n n x y f w h hx hy (by omega) (by omega)
  have HG := Lib.hid hg
  have hor := i64_or (v * 2) 1 (by omega) (by omega)
  have e1 : v * 2 ||| 1 = v * 2 + 1 := by
    have := Nat.two_pow_add_eq_or_of_lt (b := 1) (i := 1) (by omega) v
    rw [Nat.pow_one, Nat.mul_comm] at this
    exact this.symm
  rw [e1] at hor
  simp only [Int.natCast_add, Int.natCast_mul, Int.cast_ofNat_Int] at hor
  generalize f x y = bit at HG
  clear hg h e1
  cases bit
  · go_enter Tryz.func193, Tryz.ntmps193
    go_wp2_with fail
    with_reducible refine HG.out.mono ?_
    rintro _ _ ⟨rfl, rfl⟩
    dsimp only
    go_wp2_with fail
    go_ret
    refine ⟨congrArg (fun z => Ending.returned (Value.int .i64 z)) ?_, rfl⟩
    show (v : Int) * 2 = ((2 * v + 0 : Nat) : Int)
    omega
  · go_enter Tryz.func193, Tryz.ntmps193
    go_wp2_with fail
    with_reducible refine HG.out.mono ?_
    rintro _ _ ⟨rfl, rfl⟩
    dsimp only
    go_wp2_with fail
    go_ret
    refine ⟨congrArg (fun z => Ending.returned (Value.int .i64 z)) ?_, rfl⟩
    show (v : Int) * 2 + 1 = ((2 * v + 1 : Nat) : Int)
    omega
end Go.Proofs.YtnpkihobbcglcaaGreatDoor

/- U2: Decoding 2: the masks taken off. -/
namespace Go.Proofs.YtnpkihobbcglcaaGreatDoor
open Go Go.RowKit

theorem maskList (w : World) : Calls Tryz.prog 190 #[] w fun e w' => e = .returned (.slice (some ⟨w.heap.size, 0, none⟩) 8 8) ∧ (∀ m, m < 8 → w'.cell? ⟨w.heap.size, m, none⟩ = some (.func (.func (230 + m)) #[] #[])) ∧ Kept w w' := by
  go_enter Tryz.func190, Tryz.ntmps190
  go_wp2
  have hb := Blk.new w #[.func (.func 230) #[] #[], .func (.func 231) #[] #[], .func (.func 232) #[] #[], .func (.func 233) #[] #[], .func (.func 234) #[] #[], .func (.func 235) #[] #[], .func (.func 236) #[] #[], .func (.func 237) #[] #[]] 303
  have ka : Kept w (w.alloc (.cells #[.func (.func 230) #[] #[], .func (.func 231) #[] #[], .func (.func 232) #[] #[], .func (.func 233) #[] #[], .func (.func 234) #[] #[], .func (.func 235) #[] #[], .func (.func 236) #[] #[], .func (.func 237) #[] #[]] 303)) := (Frm.refl _ _).alloc _
  go_ret
  refine ⟨rfl, fun m hm => ?_, ka⟩
  rw [hb.cell m]
  have hm' : m = 0 ∨ m = 1 ∨ m = 2 ∨ m = 3 ∨ m = 4 ∨ m = 5 ∨ m = 6 ∨ m = 7 := by omega
  rcases hm' with rfl | rfl | rfl | rfl | rfl | rfl | rfl | rfl <;> rfl

theorem unmask0 (x y : Nat) (w : World) (hx : x < 1000) (hy : y < 1000) : Calls Tryz.prog 230 #[.int .i64 y, .int .i64 x] w fun e w' => e = .returned (.bool (maskBit 0 x y)) ∧ w = w' := by
  have a1 := and1_i64 (y + x) (by omega)
  simp only [Int.natCast_add, Int.natCast_ediv, Int.natCast_emod, Int.cast_ofNat_Int] at a1
  go_enter Tryz.func230, Tryz.ntmps230
  go_wp2
  go_ret
  refine ⟨congrArg (fun b => Ending.returned (.bool b)) ?_, rfl⟩
  clear a1
  unfold maskBit
  have hmv : maskVal 0 x y = (y + x) % 2 := rfl
  rw [hmv]
  rw [Bool.eq_iff_iff, beq_iff_eq, beq_iff_eq]
  omega

theorem unmask1 (x y : Nat) (w : World) (hx : x < 1000) (hy : y < 1000) : Calls Tryz.prog 231 #[.int .i64 y, .int .i64 x] w fun e w' => e = .returned (.bool (maskBit 1 x y)) ∧ w = w' := by
  have a1 := and1_i64 y (by omega)
  simp only [Int.natCast_add, Int.natCast_ediv, Int.natCast_emod, Int.cast_ofNat_Int] at a1
  go_enter Tryz.func231, Tryz.ntmps231
  go_wp2
  go_ret
  refine ⟨congrArg (fun b => Ending.returned (.bool b)) ?_, rfl⟩
  clear a1
  unfold maskBit
  have hmv : maskVal 1 x y = y % 2 := rfl
  rw [hmv]
  rw [Bool.eq_iff_iff, beq_iff_eq, beq_iff_eq]
  omega

theorem unmask2 (x y : Nat) (w : World) (hx : x < 1000) (hy : y < 1000) : Calls Tryz.prog 232 #[.int .i64 y, .int .i64 x] w fun e w' => e = .returned (.bool (maskBit 2 x y)) ∧ w = w' := by
  go_enter Tryz.func232, Tryz.ntmps232
  go_wp2
  go_ret
  refine ⟨congrArg (fun b => Ending.returned (.bool b)) ?_, rfl⟩
  unfold maskBit
  have hmv : maskVal 2 x y = x % 3 := rfl
  rw [hmv]
  rw [Bool.eq_iff_iff, beq_iff_eq, beq_iff_eq]
  omega

theorem unmask3 (x y : Nat) (w : World) (hx : x < 1000) (hy : y < 1000) : Calls Tryz.prog 233 #[.int .i64 y, .int .i64 x] w fun e w' => e = .returned (.bool (maskBit 3 x y)) ∧ w = w' := by
  go_enter Tryz.func233, Tryz.ntmps233
  go_wp2
  go_ret
  refine ⟨congrArg (fun b => Ending.returned (.bool b)) ?_, rfl⟩
  unfold maskBit
  have hmv : maskVal 3 x y = (y + x) % 3 := rfl
  rw [hmv]
  rw [Bool.eq_iff_iff, beq_iff_eq, beq_iff_eq]
  omega

theorem unmask4 (x y : Nat) (w : World) (hx : x < 1000) (hy : y < 1000) : Calls Tryz.prog 234 #[.int .i64 y, .int .i64 x] w fun e w' => e = .returned (.bool (maskBit 4 x y)) ∧ w = w' := by
  have a1 := and1_i64 (y / 2 + x / 3) (by omega)
  simp only [Int.natCast_add, Int.natCast_ediv, Int.natCast_emod, Int.cast_ofNat_Int] at a1
  go_enter Tryz.func234, Tryz.ntmps234
  go_wp2
  go_ret
  refine ⟨congrArg (fun b => Ending.returned (.bool b)) ?_, rfl⟩
  clear a1
  unfold maskBit
  have hmv : maskVal 4 x y = (y / 2 + x / 3) % 2 := rfl
  rw [hmv]
  rw [Bool.eq_iff_iff, beq_iff_eq, beq_iff_eq]
  omega

theorem unmask5 (x y : Nat) (w : World) (hx : x < 1000) (hy : y < 1000) : Calls Tryz.prog 235 #[.int .i64 y, .int .i64 x] w fun e w' => e = .returned (.bool (maskBit 5 x y)) ∧ w = w' := by
  have hxy : y * x < 1000000 := by
    have := Nat.mul_le_mul (show y ≤ 999 by omega) (show x ≤ 999 by omega); omega
  generalize hN : y * x = N at hxy
  have hz : (y : Int) * (x : Int) = (N : Int) := by rw [← hN]; exact (Int.natCast_mul y x).symm
  have HN := Lib.hid hN
  clear hN
  go_enter Tryz.func235, Tryz.ntmps235
  go_wp2
  go_ret
  refine ⟨congrArg (fun b => Ending.returned (.bool b)) ?_, rfl⟩
  have hN := HN.out
  have hmv : maskVal 5 x y = N % 2 + N % 3 := by rw [← hN]; rfl
  unfold maskBit
  rw [hmv]
  clear HN hz hN hmv
  rw [Bool.eq_iff_iff, beq_iff_eq, beq_iff_eq]
  omega

theorem unmask6 (x y : Nat) (w : World) (hx : x < 1000) (hy : y < 1000) : Calls Tryz.prog 236 #[.int .i64 y, .int .i64 x] w fun e w' => e = .returned (.bool (maskBit 6 x y)) ∧ w = w' := by
  have hxy : y * x < 1000000 := by
    have := Nat.mul_le_mul (show y ≤ 999 by omega) (show x ≤ 999 by omega); omega
  generalize hN : y * x = N at hxy
  have hz : (y : Int) * (x : Int) = (N : Int) := by rw [← hN]; exact (Int.natCast_mul y x).symm
  have HN := Lib.hid hN
  clear hN
  go_enter Tryz.func236, Tryz.ntmps236
  go_wp2
  go_ret
  refine ⟨congrArg (fun b => Ending.returned (.bool b)) ?_, rfl⟩
  have hN := HN.out
  have hmv : maskVal 6 x y = (N % 2 + N % 3) % 2 := by rw [← hN]; rfl
  unfold maskBit
  rw [hmv]
  clear HN hz hN hmv
  rw [Bool.eq_iff_iff, decide_eq_true_eq, beq_iff_eq]
  omega

theorem unmask7 (x y : Nat) (w : World) (hx : x < 1000) (hy : y < 1000) : Calls Tryz.prog 237 #[.int .i64 y, .int .i64 x] w fun e w' => e = .returned (.bool (maskBit 7 x y)) ∧ w = w' := by
  have hxy : y * x < 1000000 := by
    have := Nat.mul_le_mul (show y ≤ 999 by omega) (show x ≤ 999 by omega); omega
  generalize hN : y * x = N at hxy
  have hz : (y : Int) * (x : Int) = (N : Int) := by rw [← hN]; exact (Int.natCast_mul y x).symm
  have HN := Lib.hid hN
  clear hN
  have a1 := and1_i64 (y + x + N % 3) (by omega)
  simp only [Int.natCast_add, Int.natCast_ediv, Int.natCast_emod, Int.cast_ofNat_Int] at a1
  go_enter Tryz.func237, Tryz.ntmps237
  go_wp2
  go_ret
  refine ⟨congrArg (fun b => Ending.returned (.bool b)) ?_, rfl⟩
  have hN := HN.out
  have hmv : maskVal 7 x y = (N % 3 + (y + x) % 2) % 2 := by rw [← hN]; rfl
  unfold maskBit
  rw [hmv]
  clear HN hz hN hmv a1
  rw [Bool.eq_iff_iff, beq_iff_eq, beq_iff_eq]
  omega

theorem unmaskAny (m x y : Nat) (w : World) (hm : m < 8) (hx : x < 1000) (hy : y < 1000) : Calls Tryz.prog (230 + m) #[.int .i64 y, .int .i64 x] w fun e w' => e = .returned (.bool (maskBit m x y)) ∧ w = w' := by
  have hm' : m = 0 ∨ m = 1 ∨ m = 2 ∨ m = 3 ∨ m = 4 ∨ m = 5 ∨ m = 6 ∨ m = 7 := by omega
  rcases hm' with rfl | rfl | rfl | rfl | rfl | rfl | rfl | rfl
  · exact unmask0 x y w hx hy
  · exact unmask1 x y w hx hy
  · exact unmask2 x y w hx hy
  · exact unmask3 x y w hx hy
  · exact unmask4 x y w hx hy
  · exact unmask5 x y w hx hy
  · exact unmask6 x y w hx hy
  · exact unmask7 x y w hx hy

theorem maskEnter0 (x y : Nat) (w : World) : (callFunc 230 #[.int .i64 y, .int .i64 x]).run Tryz.prog w = .ok (.enter 230 #[.int .i64 y, .int .i64 x]) w := by kernel_rfl
theorem maskEnter1 (x y : Nat) (w : World) : (callFunc 231 #[.int .i64 y, .int .i64 x]).run Tryz.prog w = .ok (.enter 231 #[.int .i64 y, .int .i64 x]) w := by kernel_rfl
theorem maskEnter2 (x y : Nat) (w : World) : (callFunc 232 #[.int .i64 y, .int .i64 x]).run Tryz.prog w = .ok (.enter 232 #[.int .i64 y, .int .i64 x]) w := by kernel_rfl
theorem maskEnter3 (x y : Nat) (w : World) : (callFunc 233 #[.int .i64 y, .int .i64 x]).run Tryz.prog w = .ok (.enter 233 #[.int .i64 y, .int .i64 x]) w := by kernel_rfl
theorem maskEnter4 (x y : Nat) (w : World) : (callFunc 234 #[.int .i64 y, .int .i64 x]).run Tryz.prog w = .ok (.enter 234 #[.int .i64 y, .int .i64 x]) w := by kernel_rfl
theorem maskEnter5 (x y : Nat) (w : World) : (callFunc 235 #[.int .i64 y, .int .i64 x]).run Tryz.prog w = .ok (.enter 235 #[.int .i64 y, .int .i64 x]) w := by kernel_rfl
theorem maskEnter6 (x y : Nat) (w : World) : (callFunc 236 #[.int .i64 y, .int .i64 x]).run Tryz.prog w = .ok (.enter 236 #[.int .i64 y, .int .i64 x]) w := by kernel_rfl
theorem maskEnter7 (x y : Nat) (w : World) : (callFunc 237 #[.int .i64 y, .int .i64 x]).run Tryz.prog w = .ok (.enter 237 #[.int .i64 y, .int .i64 x]) w := by kernel_rfl
theorem maskEnter (m x y : Nat) (w : World) (hm : m < 8) : (callFunc (230 + m) #[.int .i64 y, .int .i64 x]).run Tryz.prog w = .ok (.enter (230 + m) #[.int .i64 y, .int .i64 x]) w := by
  have hm' : m = 0 ∨ m = 1 ∨ m = 2 ∨ m = 3 ∨ m = 4 ∨ m = 5 ∨ m = 6 ∨ m = 7 := by omega
  rcases hm' with rfl | rfl | rfl | rfl | rfl | rfl | rfl | rfl
  · exact maskEnter0 x y w
  · exact maskEnter1 x y w
  · exact maskEnter2 x y w
  · exact maskEnter3 x y w
  · exact maskEnter4 x y w
  · exact maskEnter5 x y w
  · exact maskEnter6 x y w
  · exact maskEnter7 x y w

/-- A grid whose masked cells are turned, so far as the walk has come. -/
def turnF (f : Nat → Nat → Bool) (mk : Nat → Nat → Bool) (i j : Nat) : Nat → Nat → Bool := fun a c => f a c ^^ partF mk i j a c
theorem turnF_zero (f mk : Nat → Nat → Bool) : turnF f mk 0 0 = f := by
  funext a c; simp [turnF, partF]
theorem turnF_yes (f mk : Nat → Nat → Bool) (i j : Nat) (h : mk j i = true) : (fun a c => if a = j ∧ c = i then !turnF f mk i j j i else turnF f mk i j a c) = turnF f mk i (j + 1) := by
  funext a c
  have hy := congrFun (congrFun (partF_yes mk i j h) a) c
  unfold turnF
  rw [← hy]
  split
  · rename_i e
    obtain ⟨rfl, rfl⟩ := e
    have : partF mk c a a c = false := by simp [partF]
    rw [this]; simp
  · rfl
theorem turnF_no (f mk : Nat → Nat → Bool) (i j : Nat) (h : mk j i = false) : turnF f mk i j = turnF f mk i (j + 1) := by
  unfold turnF; rw [partF_no mk i j h]
theorem turnF_row (f mk : Nat → Nat → Bool) (i n a c : Nat) (ha : a < n) : turnF f mk i n a c = turnF f mk (i + 1) 0 a c := by
  unfold turnF; rw [partF_row mk i n a c ha]
theorem turnF_all (f mk : Nat → Nat → Bool) (n a c : Nat) (hc : c < n) : turnF f mk n 0 a c = (f a c ^^ mk a c) := by
  unfold turnF; rw [partF_all mk n a c hc]

set_option maxRecDepth 100000 in
set_option maxHeartbeats 4000000 in
theorem unmaskMatrix (m p b n : Nat) (f : Nat → Nat → Bool) (w : World) (h : BX w p b n n f) (hm : m < 8) (hn : n ≤ 45) :
    Calls Tryz.prog 192 #[.agg #[.func (.func (230 + m)) #[] #[]], .pointer (some ⟨p, 0, none⟩), .int .i64 n] w fun e w' => e = .returned (.tuple #[]) ∧ BX w' p b n n (fun x y => f x y ^^ maskBit m x y) ∧ Frm (fun k => k = b) w w' := by
  have hbk := Blk.new w #[.func (.func (230 + m)) #[] #[]] 303
  have ka : Kept w (w.alloc (.cells #[.func (.func (230 + m)) #[] #[]] 303)) := (Frm.refl _ _).alloc _
  have hb0 := h.kept ka
  rw [← turnF_zero f (maskBit m)] at hb0
  have hlt := h.lt
  have hum := fun x y wx => unmaskAny m x y wx hm
  have hen := fun x y wx => maskEnter m x y wx hm
  generalize 230 + m = k at *
  have HEN := Lib.hid hen
  clear hen
  have HUM := Lib.hid hum
  clear h hum
  go_enter Tryz.func192, Tryz.ntmps192
  go_wp2_with fail
  generalize w.alloc (.cells #[.func (.func k) #[] #[]] 303) = w0 at *
  generalize hq : w.heap.size = q at *
  have hqb : q ≠ b := by omega
  have cq := hbk.cell 0
  simp only [List.getElem?_toArray, List.getElem?_cons_zero] at cq
  have hqs := hbk.lt
  have HBK := Lib.hid hbk
  have HQ := Lib.hid hq
  clear hq
  go_loopw [6, 7] (fun iv _ wr => ∃ i : Nat, i ≤ n ∧ iv = .int .i64 i ∧ BX wr p b n n (turnF f (maskBit m) i 0) ∧ Frm (fun k => k = b) w0 wr) (fun iv _ _ => n - (intOf iv).toNat)
  case atStart => exact ⟨0, Nat.zero_le _, rfl, hb0, Frm.refl _ _⟩
  case round =>
    obtain ⟨i, hi, rfl, hb, hf⟩ := hrel
    clear hb0
    by_cases hin : i < n
    · have hd : decide ((i : Int) < n) = true := by simp; omega
      have HB := Lib.hid hb
      have HF := Lib.hid hf
      clear hb hf
      go_wp2_with fail
      go_loopw [7] (fun jv wx => ∃ j : Nat, j ≤ n ∧ jv = .int .i64 j ∧ BX wx p b n n (turnF f (maskBit m) i j) ∧ Frm (fun k => k = b) w0 wx) (fun jv _ => n - (intOf jv).toNat)
      case atStart => exact ⟨0, Nat.zero_le _, rfl, HB.out, HF.out⟩
      case round =>
        clear HB HF
        obtain ⟨j, hj, rfl, hb, hf⟩ := hrel
        by_cases hjn : j < n
        · have hdj : decide ((j : Int) < n) = true := by simp; omega
          have cw : wr.cell? ⟨q, 0, none⟩ = some (.func (.func k) #[] #[]) := by rw [hf.cell (p := ⟨q, 0, none⟩) hqs hqb]; exact cq
          have hen := HEN.out j i wr
          have hu := HUM.out j i wr (by omega) (by omega)
          have hfl := bxFlip p b n n j i _ wr hb hjn hin (by omega) (by omega)
          have HU := Lib.hid hu
          have HFL := Lib.hid hfl
          have HB := Lib.hid hb
          have HF := Lib.hid hf
          clear hu hfl hb hf
          cases hbit : maskBit m j i
          · rw [hbit] at HU
            have HB2 := HB.out
            rw [turnF_no _ _ _ _ hbit] at HB2
            have HB3 := Lib.hid HB2
            clear HB2 hbit HB HFL
            go_wp2_with fail
            with_reducible refine HU.out.mono ?_
            rintro _ _ ⟨rfl, rfl⟩
            dsimp only
            go_wp2
            exact ⟨⟨j + 1, by omega, by go_num, HB3.out, HF.out⟩, by simp [intOf]; omega⟩
          · rw [hbit] at HU
            have HF2 := HFL.out
            rw [turnF_yes _ _ _ _ hbit] at HF2
            have HF3 := Lib.hid HF2
            clear HF2 hbit HB HFL
            go_wp2_with fail
            with_reducible refine HU.out.mono ?_
            rintro _ _ ⟨rfl, rfl⟩
            dsimp only
            go_wp2_with fail
            with_reducible refine HF3.out.mono ?_
            rintro _ w3 ⟨rfl, hb3, hf3⟩
            have HB4 := Lib.hid hb3
            have HF4 := Lib.hid (HF.out.trans hf3)
            clear hb3 hf3 HF HF3
            dsimp only
            go_wp2
            exact ⟨⟨j + 1, by omega, by go_num, HB4.out, HF4.out⟩, by simp [intOf]; omega⟩
        · obtain rfl : j = n := by omega
          have hdj : decide ((j : Int) < j) = false := by simp
          have HB := Lib.hid (hb.congr (fun a c ha _ => turnF_row f (maskBit m) i j a c ha))
          have HF := Lib.hid hf
          clear hb hf
          go_wp2
          exact ⟨⟨i + 1, by omega, by go_num, HB.out, HF.out⟩, by simp [intOf]; omega⟩
    · obtain rfl : i = n := by omega
      have hd : decide ((i : Int) < i) = false := by simp
      have HB := Lib.hid (hb.congr (fun a c _ hc => turnF_all f (maskBit m) i a c hc))
      have HF := Lib.hid ((ka.toFrm (S := fun k => k = b)).trans hf)
      clear hb hf
      go_wp2
      go_end0
      exact ⟨rfl, HB.out, HF.out⟩
end Go.Proofs.YtnpkihobbcglcaaGreatDoor
