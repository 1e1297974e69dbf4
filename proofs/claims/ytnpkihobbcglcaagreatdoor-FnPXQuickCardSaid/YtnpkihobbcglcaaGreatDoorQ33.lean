/- Decoding 3: format information: the numbers compared. Decoding 4: the table of format information. Decoding 5: format information decoded. Decoding 6: format information read. -/
import Derived.Test.YtnpkihobbcglcaaGreatDoorQ32
set_option linter.unusedSimpArgs false
set_option linter.unusedVariables false

/- U3: Decoding 3: format information: the numbers compared. -/
namespace Go.Proofs.YtnpkihobbcglcaaGreatDoor
open Go Go.RowKit

set_option maxRecDepth 100000 in
theorem ones64 (z : Int) (w : World) : Calls Tryz.prog 266 #[.int .u64 z] w fun e w' => (∃ v : Int, e = .returned (.int .i64 v)) ∧ w = w' := by
  go_enter Tryz.func266, Tryz.ntmps266
  go_wp2
  go_ret
  exact ⟨⟨_, rfl⟩, rfl⟩

theorem onesAny (z : Int) (w : World) : Calls Tryz.prog 254 #[.int .u64 z] w fun e w' => (∃ v : Int, e = .returned (.int .i64 v)) ∧ w = w' := by
  go_enter Tryz.func254, Tryz.ntmps254
  go_wp2_with fail
  with_reducible refine (ones64 z w).mono ?_
  rintro _ _ ⟨⟨v, rfl⟩, rfl⟩
  dsimp only
  go_wp2
  go_ret
  exact ⟨⟨_, rfl⟩, rfl⟩

theorem bitsDiffer (a b : Int) (w : World) : Calls Tryz.prog 239 #[.int .u64 a, .int .u64 b] w fun e w' => (∃ v : Int, e = .returned (.int .i64 v)) ∧ w = w' := by
  go_enter Tryz.func239, Tryz.ntmps239
  go_wp2_with fail
  with_reducible refine (onesAny _ w).mono ?_
  rintro _ _ ⟨⟨v, rfl⟩, rfl⟩
  dsimp only
  go_wp2
  go_ret
  exact ⟨⟨_, rfl⟩, rfl⟩
end Go.Proofs.YtnpkihobbcglcaaGreatDoor

/- U4: Decoding 4: the table of format information. -/
namespace Go.Proofs.YtnpkihobbcglcaaGreatDoor
open Go Go.RowKit

def allocs (w : World) (os : List Obj) : World := os.foldl (fun w o => w.alloc o) w
theorem allocs_size (os : List Obj) : ∀ w : World, (allocs w os).heap.size = w.heap.size + os.length := by
  induction os with
  | nil => intro w; rfl
  | cons o os ih =>
    intro w
    have : allocs w (o :: os) = allocs (w.alloc o) os := rfl
    rw [this, ih]
    simp; omega
theorem allocs_old (os : List Obj) : ∀ (w : World) (k : Nat), k < w.heap.size → (allocs w os).heap[k]? = w.heap[k]? := by
  induction os with
  | nil => intro w k _; rfl
  | cons o os ih =>
    intro w k hk
    have : allocs w (o :: os) = allocs (w.alloc o) os := rfl
    rw [this, ih _ _ (by simp; omega)]
    exact Below.heap_alloc w o k hk
theorem allocs_get (os : List Obj) : ∀ (w : World) (i : Nat) (o : Obj), os[i]? = some o → (allocs w os).heap[w.heap.size + i]? = some o := by
  induction os with
  | nil => intro w i o h; simp at h
  | cons a os ih =>
    intro w i o h
    have e : allocs w (a :: os) = allocs (w.alloc a) os := rfl
    rw [e]
    cases i with
    | zero =>
      simp at h; subst h
      rw [Nat.add_zero, allocs_old _ _ _ (by simp)]
      exact heap_alloc_new w _
    | succ i =>
      have := ih (w.alloc a) i o (by simpa using h)
      rw [show (w.alloc a).heap.size = w.heap.size + 1 by simp] at this
      rw [show w.heap.size + (i + 1) = w.heap.size + 1 + i by omega]
      exact this
theorem allocs_kept (os : List Obj) : ∀ w : World, Kept w (allocs w os) := by
  induction os with
  | nil => intro w; exact Frm.refl _ _
  | cons o os ih => intro w; exact ((Frm.refl _ w).alloc o).trans (ih _)

def fmtTab : List Nat := [21522, 20773, 24188, 23371, 17913, 16590, 20375, 19104, 30660, 29427, 32170, 30877, 26159, 25368, 27713, 26998, 5769, 5054, 7399, 6608, 1890, 597, 3340, 2107, 13663, 12392, 16177, 14854, 9396, 8579, 11994, 11245]
def fmtObj (t : Nat) : Obj := .cells #[.int .u64 ((fmtTab.getD t 0 : Nat) : Int), .int .u64 (t : Int)] 165
def fmtObjs (z : Nat) : List Obj := (List.range 32).map fmtObj ++ [.cells ((List.range 32).map (fun t => Value.slice (some ⟨z + t, 0, none⟩) 2 2)).toArray 364]
/-- The table stands in memory. -/
structure FmtAt (w : World) (g : Nat) : Prop where
  row : ∀ t, t < 32 → ∃ b, w.cell? ⟨g, t, none⟩ = some (.slice (some ⟨b, 0, none⟩) 2 2) ∧ Blk w b #[.int .u64 ((fmtTab.getD t 0 : Nat) : Int), .int .u64 (t : Int)] 165
theorem FmtAt.kept {w w' : World} {g : Nat} (h : FmtAt w g) (hf : Kept w w') : FmtAt w' g :=
  ⟨fun t ht => let ⟨b, h1, h2⟩ := h.row t ht; ⟨b, cell_kept h1 hf, h2.frm hf (fun h => h)⟩⟩
theorem fmtAll (w w1 : World) (h : w1 = allocs w (fmtObjs w.heap.size)) : FmtAt w1 (w.heap.size + 32) ∧ Kept w w1 := by
  subst h
  refine ⟨⟨fun t ht => ⟨w.heap.size + t, ?_, ?_⟩⟩, allocs_kept _ _⟩
  · have h1 : Blk (allocs w (fmtObjs w.heap.size)) (w.heap.size + 32) ((List.range 32).map (fun t => Value.slice (some ⟨w.heap.size + t, 0, none⟩) 2 2)).toArray 364 := allocs_get _ w 32 _ (by simp [fmtObjs])
    rw [h1.cell]; simp [ht]
  · exact allocs_get _ w t _ (by simp [fmtObjs, List.getElem?_append_left, ht, fmtObj])
set_option maxRecDepth 100000 in
set_option maxHeartbeats 4000000 in
theorem fmtTable (w : World) : Calls Tryz.prog 255 #[] w fun e w' => e = .returned (.slice (some ⟨w.heap.size + 32, 0, none⟩) 32 32) ∧ FmtAt w' (w.heap.size + 32) ∧ Kept w w' := by
  have key := fun w1 h => fmtAll w w1 h
  go_enter Tryz.func255, Tryz.ntmps255
  go_wp2
  go_ret
  refine ⟨?_, key _ ?_⟩
  · kernel_rfl
  · kernel_rfl

theorem forBits (l : Nat) (w : World) (hl : l < 4) : Calls Tryz.prog 267 #[.int .u64 l] w fun e w' => e = .returned (.tuple #[.int .i64 l, .nilIface]) ∧ w = w' := by
  have hl' : l = 0 ∨ l = 1 ∨ l = 2 ∨ l = 3 := by omega
  rcases hl' with rfl | rfl | rfl | rfl
  all_goals
    go_enter Tryz.func267, Tryz.ntmps267
    go_wp2
    go_ret2
    exact ⟨rfl, rfl⟩

theorem u64_and_low (a k : Nat) (ha : a < 2 ^ 64) (hk : k ≤ 8) : bits .and .u64 (a : Int) ((2 ^ k - 1 : Nat) : Int) = ((a % 2 ^ k : Nat) : Int) := by
  have hp : (2 : Nat) ^ k ≤ 2 ^ 8 := Nat.pow_le_pow_right (by omega) hk
  have o : ∀ n : Nat, n < 2 ^ 64 → (BitVec.ofInt 64 (n : Int)).toNat = n := fun n hn => by
    rw [BitVec.ofInt_natCast, BitVec.toNat_ofNat]; exact Nat.mod_eq_of_lt hn
  have hm := Nat.mod_lt a (Nat.pow_pos (n := k) (show 0 < 2 by omega))
  show IntKind.u64.wrap ((BitVec.ofInt 64 (a : Int) &&& BitVec.ofInt 64 ((2 ^ k - 1 : Nat) : Int)).toNat : Int) = _
  rw [BitVec.toNat_and, o a ha, o _ (by omega), Nat.and_two_pow_sub_one_eq_mod]
  generalize a % 2 ^ k = z at hm
  show ((z : Int) % 18446744073709551616) = _
  omega

/-- The format information with the number t: level and mask. -/
theorem newFormat (t : Nat) (w : World) (ht : t < 32) : Calls Tryz.prog 256 #[.int .u64 t] w fun e w' => ∃ p, e = .returned (.pointer (some ⟨p, 0, none⟩)) ∧ Blk w' p #[.int .i64 (t / 8 : Nat), .int .u8 (t % 8 : Nat)] 322 ∧ Kept w w' ∧ w.heap.size ≤ p := by
  have hb := forBits (t / 8) w (by omega)
  have a1 := u64_and_low (t / 8) 2 (by omega) (by omega)
  have a2 := u64_and_low t 3 (by omega) (by omega)
  rw [show t / 8 % 2 ^ 2 = t / 8 by omega] at a1
  rw [show t % 2 ^ 3 = t % 8 by rfl] at a2
  simp only [Int.natCast_ediv, Int.natCast_emod, Int.cast_ofNat_Int] at a1 a2 hb
  rw [show ((2 ^ 2 - 1 : Nat) : Int) = 3 by rfl] at a1
  rw [show ((2 ^ 3 - 1 : Nat) : Int) = 7 by rfl] at a2
  have HB := Lib.hid hb
  clear hb
  go_enter Tryz.func256, Tryz.ntmps256
  go_wp2_with fail
  with_reducible refine HB.out.mono ?_
  rintro _ _ ⟨rfl, rfl⟩
  dsimp only
  go_wp2_with fail
  have hb := Blk.new w #[.int .i64 ((t : Int) / 8), .int .u8 ((t : Int) % 8)] 322
  have ka : Kept w (w.alloc (.cells #[.int .i64 ((t : Int) / 8), .int .u8 ((t : Int) % 8)] 322)) := (Frm.refl _ _).alloc _
  go_ret
  exact ⟨w.heap.size, rfl, by rw [Int.natCast_ediv, Int.natCast_emod]; exact hb, ka, Nat.le_refl _⟩
end Go.Proofs.YtnpkihobbcglcaaGreatDoor

/- U5: Decoding 5: format information decoded. -/
namespace Go.Proofs.YtnpkihobbcglcaaGreatDoor
open Go Go.RowKit

theorem fmt_ne : ∀ k, k < 32 → ∀ t, t < 32 → k ≠ t → fmtTab.getD k 0 ≠ fmtTab.getD t 0 := by decide +kernel
theorem fmt_lt : ∀ k, k < 32 → fmtTab.getD k 0 < 32768 := by decide +kernel

set_option maxRecDepth 100000 in
set_option maxHeartbeats 4000000 in
theorem doDecode (t : Nat) (w : World) (ht : t < 32) : Calls Tryz.prog 240 #[.int .u64 (fmtTab.getD t 0 : Nat), .int .u64 (fmtTab.getD t 0 : Nat)] w fun e w' => ∃ p, e = .returned (.pointer (some ⟨p, 0, none⟩)) ∧ Blk w' p #[.int .i64 (t / 8 : Nat), .int .u8 (t % 8 : Nat)] 322 ∧ Kept w w' ∧ w.heap.size ≤ p := by
  have hvl := fmt_lt t ht
  have hft := fmtTable w
  have hne := fun k hk h => fmt_ne k hk t ht h
  generalize hv : fmtTab.getD t 0 = v at *
  have HNE := Lib.hid hne
  have HV := Lib.hid hv
  have HFT := Lib.hid hft
  have hvv : ((v : Int) != v) = false := by simp
  clear hne hv hft
  go_enter Tryz.func240, Tryz.ntmps240
  go_wp2_with fail
  with_reducible refine HFT.out.mono ?_
  rintro _ w1 ⟨rfl, hf, k1⟩
  generalize w.heap.size + 32 = g at *
  have HF := Lib.hid hf
  have HS := Lib.hid k1.size
  clear hf HFT
  dsimp only
  go_wp2_with fail
  go_loopw [5, 6, 8, 9, 10, 13] (fun dv bv _ _ _ kv wr => w1 = wr ∧ ∃ (k : Nat) (d b : Int), k ≤ t ∧ kv = .int .i64 k ∧ dv = .int .i64 d ∧ bv = .int .u64 b) (fun _ _ _ _ _ kv _ => 32 - (intOf kv).toNat)
  case atStart => exact ⟨rfl, 0, _, _, Nat.zero_le _, rfl, rfl, rfl⟩
  case round =>
    obtain ⟨rfl, k, d, b, hk, rfl, rfl, rfl⟩ := hrel
    have hd : decide ((k : Int) < 32) = true := by simp; omega
    obtain ⟨rb, r1, r2⟩ := HF.out.row k (by omega)
    have c0 := r2.cell 0
    have c1 := r2.cell 1
    simp only [List.getElem?_toArray, List.getElem?_cons_zero, List.getElem?_cons_succ] at c0 c1
    clear r2
    by_cases hkt : k < t
    · have hne := HNE.out k (by omega) (by omega)
      generalize fmtTab.getD k 0 = u at c0 hne
      have e1 : ((u : Int) == v) = false := by rw [beq_eq_false_iff_ne]; omega
      have hbd := bitsDiffer (v : Int) (u : Int) w1
      have HBD := Lib.hid hbd
      clear hbd
      go_wp2_with fail
      with_reducible refine HBD.out.mono ?_
      rintro _ _ ⟨⟨z, rfl⟩, rfl⟩
      dsimp only
      by_cases hz : z < d
      · have d2 : decide (z < d) = true := by simpa using hz
        go_wp2
        exact ⟨⟨trivial, k + 1, _, _, by omega, by go_num, rfl, rfl⟩, by simp [intOf]; omega⟩
      · have d2 : decide (z < d) = false := by simpa using hz
        go_wp2
        exact ⟨⟨trivial, k + 1, _, _, by omega, by go_num, rfl, rfl⟩, by simp [intOf]; omega⟩
    · obtain rfl : k = t := by omega
      rw [HV.out] at c0
      have e1 : ((v : Int) == v) = true := by simp
      have hnf := newFormat k w1 ht
      have HNF := Lib.hid hnf
      clear hnf
      go_wp2_with fail
      with_reducible refine HNF.out.mono ?_
      rintro _ w2 ⟨p, rfl, hb, k2, hp⟩
      have HB := Lib.hid hb
      have K2 := Lib.hid (k1.trans k2)
      have HP : RowKit.Hid (w.heap.size ≤ p) := Lib.hid (by have := HS.out; omega)
      clear hb k2 hp
      dsimp only
      go_wp2
      go_ret
      exact ⟨p, rfl, HB.out, K2.out, HP.out⟩

theorem decodeFormat (t : Nat) (w : World) (ht : t < 32) : Calls Tryz.prog 195 #[.int .u64 (fmtTab.getD t 0 : Nat), .int .u64 (fmtTab.getD t 0 : Nat)] w fun e w' => ∃ p, e = .returned (.pointer (some ⟨p, 0, none⟩)) ∧ Blk w' p #[.int .i64 (t / 8 : Nat), .int .u8 (t % 8 : Nat)] 322 ∧ Kept w w' ∧ w.heap.size ≤ p := by
  have hdd := doDecode t w ht
  generalize fmtTab.getD t 0 = v at *
  have HDD := Lib.hid hdd
  clear hdd
  go_enter Tryz.func195, Tryz.ntmps195
  go_wp2_with fail
  with_reducible refine HDD.out.mono ?_
  rintro _ w2 ⟨p, rfl, hb, k2, hp⟩
  dsimp only
  go_wp2
  go_ret
  exact ⟨p, rfl, hb, k2, hp⟩
end Go.Proofs.YtnpkihobbcglcaaGreatDoor

/- U6: Decoding 6: format information read. -/
namespace Go.Proofs.YtnpkihobbcglcaaGreatDoor
open Go Go.RowKit

/-- Bits behind a number. -/
def cpN (g : Nat → Bool) : Nat → Nat → Nat
  | 0, v => v
  | k + 1, v => 2 * cpN g k v + (g k).toNat
theorem cpN_lt (g : Nat → Bool) (v B : Nat) (hv : v < B) : ∀ k, cpN g k v < 2 ^ k * B := by
  intro k
  induction k with
  | zero => simpa [cpN] using hv
  | succ k ih =>
    unfold cpN
    have : (g k).toNat ≤ 1 := by cases g k <;> decide
    rw [Nat.pow_succ, Nat.mul_comm (2 ^ k) 2, Nat.mul_assoc]
    omega
def fmt1 (f : Nat → Nat → Bool) : Nat :=
  cpN (fun j => f 8 (5 - j)) 6 (2 * (2 * (2 * cpN (fun i => f i 8) 6 0 + (f 7 8).toNat) + (f 8 8).toNat) + (f 8 7).toNat)
def fmt2 (f : Nat → Nat → Bool) (n : Nat) : Nat := cpN (fun i => f (n - 8 + i) 8) 8 (cpN (fun j => f 8 (n - 1 - j)) 7 0)
theorem bt_le (b : Bool) : b.toNat ≤ 1 := by cases b <;> decide

set_option maxRecDepth 100000 in
set_option maxHeartbeats 8000000 in
theorem readFormat (q p b n t : Nat) (f : Nat → Nat → Bool) (v1 : Value) (w : World) (hq : Blk w q #[.pointer (some ⟨p, 0, none⟩), v1, .pointer none, .bool false] 292) (h : BX w p b n n f) (hn : 21 ≤ n) (hn2 : n ≤ 45) (ht : t < 32) (h1 : fmt1 f = fmtTab.getD t 0) (h2 : fmt2 f n = fmtTab.getD t 0) :
    Calls Tryz.prog 155 #[.pointer (some ⟨q, 0, none⟩)] w fun e w' => ∃ fp, e = .returned (.tuple #[.pointer (some ⟨fp, 0, none⟩), .nilIface]) ∧ Blk w' fp #[.int .i64 (t / 8 : Nat), .int .u8 (t % 8 : Nat)] 322 ∧ Blk w' q #[.pointer (some ⟨p, 0, none⟩), v1, .pointer (some ⟨fp, 0, none⟩), .bool false] 292 ∧ Frm (fun k => k = q) w w' ∧ w.heap.size ≤ fp := by
  have c0 := hq.cell 0
  have c2 := hq.cell 2
  have c3 := hq.cell 3
  have f2 := hq.free 2
  simp only [List.getElem?_toArray, List.getElem?_cons_zero, List.getElem?_cons_succ] at c0 c2 c3
  have hcb := fun x y v hx hy hv => copyBit q p b n x y v f w c0 c3 h hx hy hn2 hv
  have hh := bxHeight p b n n f w h
  have hdf := decodeFormat t w ht
  rw [← h1] at hdf
  have HCB := Lib.hid hcb
  have HH := Lib.hid hh
  have HQ := Lib.hid hq
  have H12 := Lib.hid (h1.trans h2.symm)
  have HDF := Lib.hid hdf
  clear hcb hh hq h1 h2 hdf h
  go_enter Tryz.func155, Tryz.ntmps155
  go_wp2_with fail
  go_loopw [4, 5] (fun vv iv wr => w = wr ∧ ∃ i : Nat, i ≤ 6 ∧ iv = .int .i64 i ∧ vv = .int .i64 (cpN (fun i => f i 8) i 0 : Nat)) (fun _ iv _ => 6 - (intOf iv).toNat)
  case atStart => exact ⟨rfl, 0, by omega, rfl, rfl⟩
  case round =>
    obtain ⟨rfl, i, hi, rfl, rfl⟩ := hrel
    have hlt := cpN_lt (fun i => f i 8) 0 1 (by omega) i
    have hpw : 2 ^ i ≤ 2 ^ 6 := Nat.pow_le_pow_right (by omega) hi
    by_cases hi6 : i < 6
    · have hd : decide ((i : Int) < 6) = true := by simp; omega
      have hc := HCB.out i 8 (cpN (fun i => f i 8) i 0) (by omega) (by omega) (by omega)
      rw [show 2 * cpN (fun i => f i 8) i 0 + (f i 8).toNat = cpN (fun i => f i 8) (i + 1) 0 from rfl] at hc
      simp only [Int.cast_ofNat_Int] at hc
      generalize cpN (fun i => f i 8) i 0 = v at *
      generalize hv2 : cpN (fun i => f i 8) (i + 1) 0 = v2 at hc
      have HC := Lib.hid hc
      have HV := Lib.hid hv2
      clear hc hv2 hlt hpw
      go_wp2_with fail
      with_reducible refine HC.out.mono ?_
      rintro _ _ ⟨rfl, rfl⟩
      dsimp only
      go_wp2
      exact ⟨⟨trivial, i + 1, by omega, by go_num, by rw [HV.out]⟩, by simp [intOf]; omega⟩
    · obtain rfl : i = 6 := by omega
      have hd : decide (((6 : Nat) : Int) < 6) = false := by decide
      obtain ⟨a0, ha0⟩ : ∃ a, cpN (fun i => f i 8) 6 0 = a := ⟨_, rfl⟩
      rw [ha0] at hlt ⊢
      have x7 := bt_le (f 7 8)
      have x8 := bt_le (f 8 8)
      have x9 := bt_le (f 8 7)
      have hc1 := HCB.out 7 8 a0 (by omega) (by omega) (by omega)
      obtain ⟨a1, ha1⟩ : ∃ a, 2 * a0 + (f 7 8).toNat = a := ⟨_, rfl⟩
      have hc2 := HCB.out 8 8 a1 (by omega) (by omega) (by omega)
      obtain ⟨a2, ha2⟩ : ∃ a, 2 * a1 + (f 8 8).toNat = a := ⟨_, rfl⟩
      have hc3 := HCB.out 8 7 a2 (by omega) (by omega) (by omega)
      obtain ⟨a3, ha3⟩ : ∃ a, 2 * a2 + (f 8 7).toNat = a := ⟨_, rfl⟩
      rw [ha1] at hc1
      rw [ha2] at hc2
      rw [ha3] at hc3
      have ha3b : a3 < 512 := by omega
      have hF1 : fmt1 f = cpN (fun j => f 8 (5 - j)) 6 a3 := by unfold fmt1; rw [ha0, ha1, ha2, ha3]
      simp only [Int.cast_ofNat_Int] at hc1 hc2 hc3
      have HC1 := Lib.hid hc1
      have HC2 := Lib.hid hc2
      have HC3 := Lib.hid hc3
      have HF1 := Lib.hid hF1
      clear hc1 hc2 hc3 hF1 ha0 ha1 ha2 ha3 x7 x8 x9 hlt hpw
      go_wp2_with fail
      with_reducible refine HC1.out.mono ?_
      rintro _ _ ⟨rfl, rfl⟩
      dsimp only
      go_wp2_with fail
      with_reducible refine HC2.out.mono ?_
      rintro _ _ ⟨rfl, rfl⟩
      dsimp only
      go_wp2_with fail
      with_reducible refine HC3.out.mono ?_
      rintro _ _ ⟨rfl, rfl⟩
      dsimp only
      go_wp2_with fail
      go_loopw [4, 6] (fun vv iv wr => w = wr ∧ ∃ i : Nat, i ≤ 6 ∧ iv = .int .i64 ((5 : Int) - i) ∧ vv = .int .i64 (cpN (fun j => f 8 (5 - j)) i a3 : Nat)) (fun _ iv _ => (intOf iv + 1).toNat)
      case atStart => exact ⟨rfl, 0, by omega, rfl, rfl⟩
      case round =>
        obtain ⟨rfl, i, hi, rfl, rfl⟩ := hrel
        have hlt := cpN_lt (fun j => f 8 (5 - j)) a3 512 ha3b i
        have hpw : 2 ^ i * 512 ≤ 2 ^ 6 * 512 := Nat.mul_le_mul_right _ (Nat.pow_le_pow_right (by omega) hi)
        by_cases hi6 : i < 6
        · have hd : decide ((0 : Int) ≤ 5 - i) = true := by simp; omega
          have hc := HCB.out 8 (5 - i) (cpN (fun j => f 8 (5 - j)) i a3) (by omega) (by omega) (by omega)
          rw [show 2 * cpN (fun j => f 8 (5 - j)) i a3 + (f 8 (5 - i)).toNat = cpN (fun j => f 8 (5 - j)) (i + 1) a3 from rfl, show ((5 - i : Nat) : Int) = 5 - (i : Int) by omega] at hc
          simp only [Int.cast_ofNat_Int] at hc
          generalize cpN (fun j => f 8 (5 - j)) i a3 = v at *
          generalize hv2 : cpN (fun j => f 8 (5 - j)) (i + 1) a3 = v2 at hc
          have HC := Lib.hid hc
          have HV := Lib.hid hv2
          clear hc hv2 hlt hpw
          go_wp2_with fail
          with_reducible refine HC.out.mono ?_
          rintro _ _ ⟨rfl, rfl⟩
          dsimp only
          go_wp2
          exact ⟨⟨trivial, i + 1, by omega, by go_num, by rw [HV.out]⟩, by simp [intOf]; omega⟩
        · obtain rfl : i = 6 := by omega
          have hd : decide ((0 : Int) ≤ 5 - ((6 : Nat) : Int)) = false := by decide
          have HF12 := HF1.out
          generalize cpN (fun j => f 8 (5 - j)) 6 a3 = F1 at HF12 hlt
          have HF3 := Lib.hid HF12
          clear HF12 HC1 HC2 HC3 HF1
          go_wp2_with fail
          with_reducible refine HH.out.mono ?_
          rintro _ _ ⟨rfl, rfl⟩
          dsimp only
          go_wp2_with fail
          go_loopw [8, 10] (fun vv iv wr => w = wr ∧ ∃ i : Nat, i ≤ 7 ∧ iv = .int .i64 ((n : Int) - 1 - i) ∧ vv = .int .i64 (cpN (fun j => f 8 (n - 1 - j)) i 0 : Nat)) (fun _ iv _ => (intOf iv + 8 - n).toNat)
          case atStart => exact ⟨rfl, 0, by omega, by go_num, rfl⟩
          case round =>
            obtain ⟨rfl, i, hi, rfl, rfl⟩ := hrel
            have hl2 := cpN_lt (fun j => f 8 (n - 1 - j)) 0 1 (by omega) i
            have hp2 : 2 ^ i * 1 ≤ 2 ^ 7 * 1 := Nat.mul_le_mul_right _ (Nat.pow_le_pow_right (by omega) hi)
            by_cases hi7 : i < 7
            · have hd : decide ((n : Int) - 7 ≤ n - 1 - i) = true := by simp; omega
              have hc := HCB.out 8 (n - 1 - i) (cpN (fun j => f 8 (n - 1 - j)) i 0) (by omega) (by omega) (by omega)
              rw [show 2 * cpN (fun j => f 8 (n - 1 - j)) i 0 + (f 8 (n - 1 - i)).toNat = cpN (fun j => f 8 (n - 1 - j)) (i + 1) 0 from rfl, show ((n - 1 - i : Nat) : Int) = (n : Int) - 1 - (i : Int) by omega] at hc
              simp only [Int.cast_ofNat_Int] at hc
              generalize cpN (fun j => f 8 (n - 1 - j)) i 0 = v at *
              generalize hv2 : cpN (fun j => f 8 (n - 1 - j)) (i + 1) 0 = v2 at hc
              have HC := Lib.hid hc
              have HV := Lib.hid hv2
              clear hc hv2 hl2 hp2
              go_wp2_with fail
              with_reducible refine HC.out.mono ?_
              rintro _ _ ⟨rfl, rfl⟩
              dsimp only
              go_wp2
              exact ⟨⟨trivial, i + 1, by omega, by go_num, by rw [HV.out]⟩, by simp [intOf]; omega⟩
            · obtain rfl : i = 7 := by omega
              have hd : decide ((n : Int) - 7 ≤ n - 1 - ((7 : Nat) : Int)) = false := by simp; omega
              obtain ⟨G, hG⟩ : ∃ a, cpN (fun j => f 8 (n - 1 - j)) 7 0 = a := ⟨_, rfl⟩
              have hF2 : fmt2 f n = cpN (fun i => f (n - 8 + i) 8) 8 G := by unfold fmt2; rw [hG]
              rw [hG] at hl2 ⊢
              have HF2 := Lib.hid hF2
              clear hF2 hG
              have hGb : G < 128 := by omega
              go_wp2_with fail
              go_loopw [8, 11] (fun vv iv wr => w = wr ∧ ∃ i : Nat, i ≤ 8 ∧ iv = .int .i64 ((n : Int) - 8 + i) ∧ vv = .int .i64 (cpN (fun i => f (n - 8 + i) 8) i G : Nat)) (fun _ iv _ => (n - intOf iv).toNat)
              case atStart => exact ⟨rfl, 0, by omega, by go_num, rfl⟩
              case round =>
                obtain ⟨rfl, i, hi, rfl, rfl⟩ := hrel
                have hl3 := cpN_lt (fun i => f (n - 8 + i) 8) G 128 hGb i
                have hp3 : 2 ^ i * 128 ≤ 2 ^ 8 * 128 := Nat.mul_le_mul_right _ (Nat.pow_le_pow_right (by omega) hi)
                by_cases hi8 : i < 8
                · have hd : decide ((n : Int) - 8 + i < n) = true := by simp; omega
                  have hc := HCB.out (n - 8 + i) 8 (cpN (fun i => f (n - 8 + i) 8) i G) (by omega) (by omega) (by omega)
                  rw [show 2 * cpN (fun i => f (n - 8 + i) 8) i G + (f (n - 8 + i) 8).toNat = cpN (fun i => f (n - 8 + i) 8) (i + 1) G from rfl, show ((n - 8 + i : Nat) : Int) = (n : Int) - 8 + (i : Int) by omega] at hc
                  simp only [Int.cast_ofNat_Int] at hc
                  generalize cpN (fun i => f (n - 8 + i) 8) i G = v at *
                  generalize hv2 : cpN (fun i => f (n - 8 + i) 8) (i + 1) G = v2 at hc
                  have HC := Lib.hid hc
                  have HV := Lib.hid hv2
                  clear hc hv2 hl3 hp3
                  go_wp2_with fail
                  with_reducible refine HC.out.mono ?_
                  rintro _ _ ⟨rfl, rfl⟩
                  dsimp only
                  go_wp2
                  exact ⟨⟨trivial, i + 1, by omega, by go_num, by rw [HV.out]⟩, by simp [intOf]; omega⟩
                · obtain rfl : i = 8 := by omega
                  have hd : decide ((n : Int) - 8 + ((8 : Nat) : Int) < n) = false := by simp
                  rw [← HF2.out, ← H12.out]
                  have hdf := HDF.out
                  rw [← HF3.out]
                  generalize fmt1 f = F at *
                  have hFb : F < 32768 := by have := HF3.out; omega
                  clear hlt hl2 hl3 hpw hp2 hp3 HCB HF2 hdf H12 HF3
                  go_wp2_with fail
                  with_reducible refine HDF.out.mono ?_
                  rintro _ w2 ⟨fp, rfl, hb, k2, hp⟩
                  have hq2 := HQ.out.frm k2 (fun h => h)
                  have e2 := hq2.cell 2
                  have f2' := hq2.free 2
                  simp only [List.getElem?_toArray, List.getElem?_cons_zero, List.getElem?_cons_succ] at e2
                  have hset := hq2.set 2 (.pointer (some ⟨fp, 0, none⟩))
                  have hfr : Frm (fun k => k = q) w2 (w2.setCell ⟨q, 2, none⟩ (.pointer (some ⟨fp, 0, none⟩))) := (Frm.refl (fun k => k = q) w2).setCell (p := ⟨q, 2, none⟩) (.inl rfl) _
                  have hbf := hb.frm hfr (by have := HQ.out.lt; omega)
                  have HSET := Lib.hid hset
                  have HBF := Lib.hid hbf
                  have HFR := Lib.hid ((k2.toFrm (S := fun k => k = q)).trans hfr)
                  have HP := Lib.hid hp
                  clear hq2 hset hfr hbf hb k2 hp HDF
                  dsimp only
                  go_wp2
                  go_ret2
                  exact ⟨fp, rfl, HBF.out, HSET.out, HFR.out, HP.out⟩
end Go.Proofs.YtnpkihobbcglcaaGreatDoor
