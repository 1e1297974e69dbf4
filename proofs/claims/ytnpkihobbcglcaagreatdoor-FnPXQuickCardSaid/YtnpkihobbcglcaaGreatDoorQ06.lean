/- The contracts of BitArray's methods, 1: capacity, one bit more, one bit read. The contracts of BitArray's methods, 2: bits appended, one by one and many at once. The contracts of BitArray's methods, 3: many bits of a number appended. The contracts of BitArray's methods, 4: a bit read; another array appended; bytes read. The contracts of BitArray's methods, 5: bytes read. Bit lengths, BCH codes, the type and version bits. -/
import Derived.Test.YtnpkihobbcglcaaGreatDoorProg
import Derived.Test.YtnpkihobbcglcaaGreatDoorQ01
import Derived.Test.YtnpkihobbcglcaaGreatDoorQ03
import Derived.Test.YtnpkihobbcglcaaGreatDoorQ04
import Derived.Test.YtnpkihobbcglcaaGreatDoorQ05
import Derived.BigQuiet
import Derived.Deep.QuietTactic
import Derived.Laws.BitsAllLaws
import Derived.Laws.CopyOwn
set_option linter.unusedSimpArgs false
set_option linter.unusedVariables false

/- A1: The contracts of BitArray's methods, 1: capacity, one bit more, one bit read. -/
namespace Go.Proofs.YtnpkihobbcglcaaGreatDoor
open Go Go.RowKit

/-- The object at p, whose words lie at b, holds the bits. -/
structure BA (w : World) (p b : Nat) (ws : List Nat) (bs : List Bool) : Prop where
  obj : Blk w p #[.slice (some ⟨b, 0, none⟩) ws.length ws.length, .int .i64 bs.length] 154
  words : Nats w b .u32 204 ws
  rep : Rep ws bs
  ne : p ≠ b
  small : ws.length ≤ 100000

theorem BA.frm {S : Nat → Prop} {w w' : World} {p b : Nat} {ws : List Nat} {bs : List Bool} (h : BA w p b ws bs) (hf : Frm S w w') (hp : ¬ S p) (hb : ¬ S b) : BA w' p b ws bs :=
  ⟨h.obj.frm hf hp, h.words.frm hf hb, h.rep, h.ne, h.small⟩

theorem or_word (a k : Nat) (ha : a < 4294967296) (hk : k < 32) : bits .or .u32 (a : Int) (2 ^ k % 4294967296) = ((a ||| 2 ^ k : Nat) : Int) := by
  have h := shl_mod k hk
  have e : ((2 : Int) ^ k % 4294967296) = ((2 ^ k : Nat) : Int) := by rw [← h]; simp
  rw [e, u32_or_nat _ _ ha (Nat.pow_lt_pow_right (a := 2) (m := k) (n := 32) (by omega) hk)]

theorem BA.push_true {w : World} {p b : Nat} {ws : List Nat} {bs : List Bool} (h : BA w p b ws bs) (hl : bs.length < 32 * ws.length) :
    BA ((w.setCell ⟨b, bs.length / 32, none⟩ (.int .u32 ((ws.getD (bs.length / 32) 0 ||| 2 ^ (bs.length % 32) : Nat) : Int))).setCell ⟨p, 1, none⟩ (.int .i64 (↑bs.length + 1))) p b
      (ws.set (bs.length / 32) (ws.getD (bs.length / 32) 0 ||| 2 ^ (bs.length % 32))) (bs ++ [true]) := by
  refine ⟨?_, ?_, h.rep.snoc_true hl, h.ne, by simpa using h.small⟩
  · have := (h.obj.setOther (a := ⟨b, bs.length / 32, none⟩) h.ne (.int .u32 ((ws.getD (bs.length / 32) 0 ||| 2 ^ (bs.length % 32) : Nat) : Int))).set 1 (.int .i64 (↑bs.length + 1))
    simpa using this
  · exact (h.words.set _ _).setOther (Ne.symm h.ne) _
theorem BA.push_false {w : World} {p b : Nat} {ws : List Nat} {bs : List Bool} (h : BA w p b ws bs) (hl : bs.length < 32 * ws.length) :
    BA (w.setCell ⟨p, 1, none⟩ (.int .i64 (↑bs.length + 1))) p b ws (bs ++ [false]) := by
  refine ⟨?_, ?_, h.rep.snoc_false hl, h.ne, h.small⟩
  · have := h.obj.set 1 (.int .i64 (↑bs.length + 1))
    simpa using this
  · exact h.words.setOther (Ne.symm h.ne) _
theorem BA.drewN {w : World} {p b : Nat} {ws : List Nat} {bs : List Bool} (h : BA w p b ws bs) (n : Nat) : BA (w.drewN n) p b ws bs :=
  ⟨h.obj, h.words, h.rep, h.ne, h.small⟩

theorem ensure_room (p b : Nat) (L : Nat) (n : Int) (w : World) (h : w.cell? ⟨p, 0, none⟩ = some (.slice (some ⟨b, 0, none⟩) L L)) (hn : n ≤ L * 32) (hs : L ≤ 100000) :
    Calls Tryz.prog 94 #[.pointer (some ⟨p, 0, none⟩), .int .i64 n] w fun e w' => e = .returned (.tuple #[]) ∧ w = w' := by
  have hg : decide ((L : Int) * 32 < n) = false := by simp; omega
  go_enter Tryz.func94, Tryz.ntmps94
  go_wp2
  go_end0
  exact ⟨rfl, rfl⟩

theorem makeArray_any (n : Nat) (w : World) (h : n ≤ 10000000) :
    Calls Tryz.prog 80 #[.int .i64 (n : Int)] w fun e w' => e = .returned (.slice (some ⟨w.heap.size, 0, none⟩) ((n + 31) / 32) ((n + 31) / 32)) ∧ w.alloc (.cells (natCells .u32 (List.replicate ((n + 31) / 32) 0)) 204) = w' := by
  have hmk := run_make_ints 151 204 .u32 4 Tryz.underlying151 info204 ((n + 31) / 32) (by omega) (by omega)
  have e1 : (((n + 31) / 32 : Nat) : Int) = ((n : Int) + 31) / 32 := by omega
  rw [e1] at hmk
  go_enter Tryz.func80, Tryz.ntmps80
  go_wp2
  go_ret
  exact ⟨rfl, rfl⟩

set_option maxRecDepth 100000 in
theorem ensure_grow (p b : Nat) (ws : List Nat) (bs : List Bool) (n : Nat) (w : World) (h : BA w p b ws bs) (hn : ws.length * 32 < n) (hs : n ≤ 3000000) :
    Calls Tryz.prog 94 #[.pointer (some ⟨p, 0, none⟩), .int .i64 (n : Int)] w fun e w' => e = .returned (.tuple #[]) ∧ (∃ ws', BA w' p w.heap.size ws' bs ∧ ws'.length = (n + 31) / 32) ∧ Frm (fun k => k = p) w w' := by
  have c0 := h.obj.cell 0
  simp at c0
  have hs' := h.small
  have hg : decide ((ws.length : Int) * 32 < (n : Int)) = true := by simp; omega
  have hpw : p < w.heap.size := h.obj.lt
  have hbw : b < w.heap.size := h.words.lt
  obtain ⟨L, hL⟩ : ∃ L, (n + 31) / 32 = ws.length + L := ⟨(n + 31) / 32 - ws.length, by omega⟩
  have hW := Nats.new w .u32 204 (List.replicate ((n + 31) / 32) 0)
  have hsrc := h.words.alloc (.cells (natCells .u32 (List.replicate ((n + 31) / 32) 0)) 204)
  have hmin : ws.length.min ((n + 31) / 32) = ws.length := Nat.min_eq_left (by omega)
  have hcp := run_copy_nats (P := Tryz.prog) _ 151 151 3 204 .u32 w.heap.size 0 ((n + 31) / 32) ((n + 31) / 32) b 0 ws.length ws.length ws.length 204 204 _ _ Tryz.underlying151 (by kernel_rfl) hW hsrc hmin.symm (by omega) (by simp; omega)
  have hN := hW.setRow ((List.replicate ((n + 31) / 32) 0).take 0 ++ (ws.drop 0).take ws.length ++ (List.replicate ((n + 31) / 32) 0).drop (0 + ws.length))
  have hP := ((h.obj.alloc (.cells (natCells .u32 (List.replicate ((n + 31) / 32) 0)) 204)).setRowOther (g := w.heap.size) (by omega) (natCells .u32 ((List.replicate ((n + 31) / 32) 0).take 0 ++ (ws.drop 0).take ws.length ++ (List.replicate ((n + 31) / 32) 0).drop (0 + ws.length))))
  have hF := ((Frm.refl (fun k => k = p) w).alloc (.cells (natCells .u32 (List.replicate ((n + 31) / 32) 0)) 204)).setRow (g := w.heap.size) (.inr (Nat.le_refl _)) (natCells .u32 ((List.replicate ((n + 31) / 32) 0).take 0 ++ (ws.drop 0).take ws.length ++ (List.replicate ((n + 31) / 32) 0).drop (0 + ws.length)))
  have ee : (List.replicate ((n + 31) / 32) 0).take 0 ++ (ws.drop 0).take ws.length ++ (List.replicate ((n + 31) / 32) 0).drop (0 + ws.length) = ws ++ List.replicate L 0 := by simp [hL]
  rw [ee] at hcp hN hP hF
  generalize hw2 : (w.alloc (.cells (natCells .u32 (List.replicate ((n + 31) / 32) 0)) 204)).setRow w.heap.size (natCells .u32 (ws ++ List.replicate L 0)) = w2 at *
  have p0 := hP.cell 0
  have p1 := hP.free 0
  simp at p0
  have HP := Lib.hid hP
  have HF := Lib.hid hF
  have HN := Lib.hid hN
  have HL := Lib.hid hL
  have H := Lib.hid h
  clear hP hF hN hL hw2 hW hsrc h ee hmin
  go_enter Tryz.func94, Tryz.ntmps94
  go_wp2_with (first | (go_at_call 80; refine (makeArray_any n _ (by omega)).mono ?_; rintro e w' ⟨rfl, rfl⟩))
  go_end0
  have hlen : (ws ++ List.replicate L 0).length = (n + 31) / 32 := by rw [HL.out]; simp
  refine ⟨rfl, ⟨ws ++ List.replicate L 0, ⟨?_, HN.out.setOther (show w.heap.size ≠ p by omega) _, H.out.rep.grow L, by omega, by omega⟩, hlen⟩, HF.out.setCell (.inl rfl) _⟩
  have := HP.out.set 0 (.slice (some ⟨w.heap.size, 0, none⟩) ((n + 31) / 32) ((n + 31) / 32))
  rw [hlen]; simpa using this
end Go.Proofs.YtnpkihobbcglcaaGreatDoor

/- A2: The contracts of BitArray's methods, 2: bits appended, one by one and many at once. -/
namespace Go.Proofs.YtnpkihobbcglcaaGreatDoor
open Go Go.RowKit

/-- The object at p holds the bits; its words lie at b. -/
def BitA (w : World) (p b : Nat) (bs : List Bool) : Prop := ∃ ws, BA w p b ws bs
theorem BitA.frm {S : Nat → Prop} {w w' : World} {p b : Nat} {bs : List Bool} (h : BitA w p b bs) (hf : Frm S w w') (hp : ¬ S p) (hb : ¬ S b) : BitA w' p b bs :=
  let ⟨ws, h⟩ := h; ⟨ws, h.frm hf hp hb⟩
theorem BitA.lt {w : World} {p b : Nat} {bs : List Bool} (h : BitA w p b bs) : p < w.heap.size ∧ b < w.heap.size ∧ p ≠ b := let ⟨_, h⟩ := h; ⟨h.obj.lt, h.words.lt, h.ne⟩
theorem BitA.size {w : World} {p b : Nat} {bs : List Bool} (h : BitA w p b bs) : w.cell? ⟨p, 1, none⟩ = some (.int .i64 bs.length) := by
  obtain ⟨ws, h⟩ := h
  have := h.obj.cell 1
  simpa using this

/-- Bits of the object at p have turned, its words lie at b' now. -/
structure Grew (w w' : World) (p b : Nat) (bs : List Bool) : Prop where
  arr : ∃ b', BitA w' p b' bs ∧ (b' = b ∨ w.heap.size ≤ b')
  frm : Frm (fun k => k = p ∨ k = b) w w'

/-- Whatever the capacity, there is room behind the call. -/
theorem ensure_any (p b : Nat) (bs : List Bool) (n : Nat) (w : World) (h : BitA w p b bs) (hs : n ≤ 100000) :
    Calls Tryz.prog 94 #[.pointer (some ⟨p, 0, none⟩), .int .i64 (n : Int)] w fun e w' => e = .returned (.tuple #[]) ∧ (∃ b' ws, BA w' p b' ws bs ∧ n ≤ 32 * ws.length ∧ (b' = b ∨ w.heap.size ≤ b')) ∧ Frm (fun k => k = p) w w' := by
  obtain ⟨ws, h⟩ := h
  by_cases hn : n ≤ ws.length * 32
  · have c0 := h.obj.cell 0
    simp at c0
    refine (ensure_room p b ws.length n w c0 (by omega) h.small).mono ?_
    rintro e w' ⟨rfl, rfl⟩
    exact ⟨rfl, ⟨b, ws, h, by omega, .inl rfl⟩, Frm.refl _ _⟩
  · refine (ensure_grow p b ws bs n w h (by omega) (by omega)).mono ?_
    rintro e w' ⟨rfl, ⟨ws', h1, h2⟩, h3⟩
    exact ⟨rfl, ⟨_, ws', h1, by omega, .inr (Nat.le_refl _)⟩, h3⟩

theorem appendBit_any (p b : Nat) (bs : List Bool) (bit : Bool) (w : World) (h : BitA w p b bs) (hs : bs.length < 100000) :
    Calls Tryz.prog 95 #[.pointer (some ⟨p, 0, none⟩), .bool bit] w fun e w' => e = .returned (.tuple #[]) ∧ Grew w w' p b (bs ++ [bit]) := by
  have c1 := h.size
  have H := Lib.hid h
  clear h
  cases bit
  · go_enter Tryz.func95, Tryz.ntmps95
    go_wp2_with fail
    refine (ensure_any p b bs (bs.length + 1) w H.out (by omega)).mono ?_
    rintro e w1 ⟨rfl, ⟨b', ws, h1, h2, h3⟩, h4⟩
    have c1' := h1.obj.cell 1
    have f1 := h1.obj.free 1
    simp at c1'
    have H1 := Lib.hid h1
    have H2 := Lib.hid h2
    have H3 := Lib.hid h3
    have H4 := Lib.hid h4
    clear h1 h2 h3 h4
    go_wp2
    go_end0
    refine ⟨rfl, ⟨b', ⟨ws, H1.out.push_false (by have := H2.out; omega)⟩, H3.out⟩, (H4.out.mono (fun _ _ h => .inl h)).setCell (.inl (.inl rfl)) _⟩
  · go_enter Tryz.func95, Tryz.ntmps95
    go_wp2_with fail
    refine (ensure_any p b bs (bs.length + 1) w H.out (by omega)).mono ?_
    rintro e w1 ⟨rfl, ⟨b', ws, h1, h2, h3⟩, h4⟩
    have c0' := h1.obj.cell 0
    have c1' := h1.obj.cell 1
    have f1 := h1.obj.free 1
    simp at c0' c1'
    have e0 : bs.length / 32 < ws.length := by omega
    have d0 := h1.words.cell (bs.length / 32) e0
    have g0 := h1.words.free (bs.length / 32)
    have hws := h1.small
    have hpb := h1.ne
    have hq : (0 : Int) ≤ (bs.length : Int) / 32 := by omega
    have hq2 : (bs.length : Int) / 32 < (ws.length : Int) := by omega
    have H1 := Lib.hid h1
    have H2 := Lib.hid h2
    have H3 := Lib.hid h3
    have H4 := Lib.hid h4
    clear h1 h2 h3 h4
    go_wp2
    refine wp_region_quiet_tail 20 (by kernel_rfl) (by kernel_rfl) ?_
    simp only [List.take_succ_cons, List.take_zero, List.drop_succ_cons, List.drop_zero]
    repeat (go_big_quiet_step (fail))
    refine wpQuiet_nil ?_
    intro _ hw'
    obtain ⟨nq, hw''⟩ := hw'
    subst hw''
    go_wp2
    go_end0
    have hB := (H1.out.drewN nq).push_true (by have := H2.out; omega)
    have e1 : ws.getD (bs.length / 32) 0 = ws[bs.length / 32] := by simp [e0]
    have e2 := or_word (ws.getD (bs.length / 32) 0) (bs.length % 32) (H1.out.rep.at_lt _) (by omega)
    rw [e1] at e2
    rw [e2]
    rw [e1] at hB
    refine ⟨rfl, ⟨b', ⟨_, hB⟩, H3.out⟩, (((H4.out.mono (fun _ _ h => .inl h)).drewN nq).setCell ?_ _).setCell (.inl (.inl rfl)) _⟩
    rcases H3.out with h | h
    · exact .inl (.inr h)
    · exact .inr h
end Go.Proofs.YtnpkihobbcglcaaGreatDoor

/- A3: The contracts of BitArray's methods, 3: many bits of a number appended. -/
namespace Go.Proofs.YtnpkihobbcglcaaGreatDoor
open Go Go.RowKit

/-- The first k of n bits of v, the highest one first. -/
def topBits (v n k : Nat) : List Bool := (List.range k).map fun j => v.testBit (n - 1 - j)
theorem topBits_succ (v n k : Nat) : topBits v n (k + 1) = topBits v n k ++ [v.testBit (n - 1 - k)] := by simp [topBits, List.range_succ]
theorem topBits_length (v n k : Nat) : (topBits v n k).length = k := by simp [topBits]

/-- As BA, but the size that is noted may be smaller. -/
structure BW (w : World) (p b m : Nat) (ws : List Nat) (bs : List Bool) : Prop where
  obj : Blk w p #[.slice (some ⟨b, 0, none⟩) ws.length ws.length, .int .i64 m] 154
  words : Nats w b .u32 204 ws
  rep : Rep ws bs
  ne : p ≠ b
  small : ws.length ≤ 100000
theorem BW.push_true {w : World} {p b m : Nat} {ws : List Nat} {bs : List Bool} (h : BW w p b m ws bs) (hl : bs.length < 32 * ws.length) :
    BW (w.setCell ⟨b, bs.length / 32, none⟩ (.int .u32 ((ws.getD (bs.length / 32) 0 ||| 2 ^ (bs.length % 32) : Nat) : Int))) p b m
      (ws.set (bs.length / 32) (ws.getD (bs.length / 32) 0 ||| 2 ^ (bs.length % 32))) (bs ++ [true]) := by
  refine ⟨?_, h.words.set _ _, h.rep.snoc_true hl, h.ne, by simpa using h.small⟩
  simpa using h.obj.setOther (a := ⟨b, bs.length / 32, none⟩) h.ne (.int .u32 ((ws.getD (bs.length / 32) 0 ||| 2 ^ (bs.length % 32) : Nat) : Int))
theorem BW.push_false {w : World} {p b m : Nat} {ws : List Nat} {bs : List Bool} (h : BW w p b m ws bs) (hl : bs.length < 32 * ws.length) : BW w p b m ws (bs ++ [false]) :=
  ⟨h.obj, h.words, h.rep.snoc_false hl, h.ne, h.small⟩
theorem BW.drewN {w : World} {p b m : Nat} {ws : List Nat} {bs : List Bool} (h : BW w p b m ws bs) (n : Nat) : BW (w.drewN n) p b m ws bs := ⟨h.obj, h.words, h.rep, h.ne, h.small⟩
theorem BW.done {w : World} {p b m : Nat} {ws : List Nat} {bs : List Bool} (h : BW w p b m ws bs) : BA (w.setCell ⟨p, 1, none⟩ (.int .i64 (bs.length : Nat))) p b ws bs :=
  ⟨by have := h.obj.set 1 (.int .i64 (bs.length : Nat)); simpa using this, h.words.setOther (Ne.symm h.ne) _, h.rep, h.ne, h.small⟩

set_option maxRecDepth 100000 in
theorem appendBits_any (p b : Nat) (bs : List Bool) (v n : Nat) (w : World) (h : BitA w p b bs) (hs : bs.length + n ≤ 100000) (hn : n ≤ 32) (hv : v < 4294967296) :
    Calls Tryz.prog 83 #[.pointer (some ⟨p, 0, none⟩), .int .i64 (v : Int), .int .i64 (n : Int)] w fun e w' => e = .returned .nilIface ∧ Grew w w' p b (bs ++ topBits v n n) := by
  have c1 := h.size
  have H := Lib.hid h
  clear h
  have t1 : decide ((n : Int) < 0) = false := by simp
  have t2 : decide ((32 : Int) < (n : Int)) = false := by simp; omega
  go_enter Tryz.func83, Tryz.ntmps83
  go_wp2_with fail
  refine (ensure_any p b bs (bs.length + n) w H.out (by omega)).mono ?_
  rintro e w1 ⟨rfl, ⟨b', ws, h1, h2, h3⟩, h4⟩
  have H1 := Lib.hid h1
  have H2 := Lib.hid h2
  have H3 := Lib.hid h3
  have H4 := Lib.hid h4
  clear h1 h2 h3 h4
  go_wp2
  go_loopw [7, 8] (fun nx nl wr => ∃ k : Nat, k ≤ n ∧ nl = .int .i64 ((n : Int) - 1 - k) ∧ nx = .int .i64 ((bs.length : Int) + k) ∧ (∃ ws', BW wr p b' bs.length ws' (bs ++ topBits v n k) ∧ ws'.length = ws.length) ∧ Frm (fun k => k = p ∨ k = b) w wr) (fun nx _ _ => bs.length + n - (intOf nx).toNat)
  case atStart =>
    exact ⟨0, Nat.zero_le _, by simp, by simp, ⟨ws, ⟨H1.out.obj, H1.out.words, by simpa [topBits] using H1.out.rep, H1.out.ne, H1.out.small⟩, rfl⟩, H4.out.mono (fun _ _ h => .inl h)⟩
  case round =>
    obtain ⟨k, hk, rfl, rfl, ⟨ws', hb, hl⟩, hf⟩ := hrel
    have h2 := H2.out
    by_cases hlt : k < n
    · have ht := test_i64 v (n - 1 - k) (by omega) (by omega)
      have ha := and31_i64 (bs.length + k) (by omega)
      have hL : (bs ++ topBits v n k).length = bs.length + k := by simp [topBits_length]
      have hmod : (((bs.length + k) % 32 : Nat) : Int) = ((bs.length : Int) + k) % 32 := by omega
      have e0 : (bs.length + k) / 32 < ws'.length := by omega
      have c0 := hb.obj.cell 0
      simp at c0
      have d0 := hb.words.cell ((bs.length + k) / 32) e0
      have g0 := hb.words.free ((bs.length + k) / 32)
      have hq : (0 : Int) ≤ ((bs.length : Int) + k) / 32 := by omega
      have hq2 : ((bs.length : Int) + k) / 32 < (ws'.length : Int) := by omega
      have hs3 := hb.small
      rw [hmod] at ha
      simp only [Int.natCast_add] at ha
      have hT := topBits_succ v n k
      have HB := Lib.hid hb
      have HT := Lib.hid hT
      have HLn := Lib.hid hL
      have HF := Lib.hid hf
      have HE := Lib.hid hl
      clear hb hT hL hf hmod hl
      cases hbit : v.testBit (n - 1 - k)
      · rw [hbit] at ht
        have HBit := Lib.hid hbit
        clear hbit
        go_wp2
        refine ⟨⟨k + 1, by omega, by go_num, by go_num, ⟨ws', ?_, HE.out⟩, HF.out⟩, by simp [intOf]; omega⟩
        rw [HT.out, HBit.out, ← List.append_assoc]
        exact HB.out.push_false (by rw [HLn.out]; have := HE.out; omega)
      · rw [hbit] at ht
        have HBit := Lib.hid hbit
        clear hbit
        go_wp2
        refine wp_region_quiet_tail 13 (by kernel_rfl) (by kernel_rfl) ?_
        simp only [List.take_succ_cons, List.take_zero, List.drop_succ_cons, List.drop_zero]
        repeat (go_big_quiet_step (fail))
        refine wpQuiet_nil ?_
        intro _ hw'
        obtain ⟨nq, hw''⟩ := hw'
        subst hw''
        go_wp2
        have hB := (HB.out.drewN nq).push_true (by rw [HLn.out]; have := HE.out; omega)
        rw [HLn.out] at hB
        have e1 : ws'.getD ((bs.length + k) / 32) 0 = ws'[(bs.length + k) / 32] := by simp [e0]
        have e2 := or_word (ws'.getD ((bs.length + k) / 32) 0) ((bs.length + k) % 32) (HB.out.rep.at_lt _) (by omega)
        rw [e1] at e2
        rw [e2]
        rw [e1] at hB
        refine ⟨⟨k + 1, by omega, by go_num, by go_num, ⟨ws'.set ((bs.length + k) / 32) (ws'[(bs.length + k) / 32] ||| 2 ^ ((bs.length + k) % 32)), ?_, by simpa using HE.out⟩, (HF.out.drewN nq).setCell ?_ _⟩, by simp [intOf]; omega⟩
        · rw [HT.out, HBit.out, ← List.append_assoc]; exact hB
        · rcases H3.out with h | h
          · exact .inl (.inr h)
          · exact .inr h
    · obtain rfl : n = k := by omega
      have c1' := hb.obj.cell 1
      have f1 := hb.obj.free 1
      simp at c1'
      have HB := Lib.hid hb
      have HF := Lib.hid hf
      clear hb hf
      go_wp2
      go_ret
      refine ⟨rfl, ⟨b', ⟨ws', ?_⟩, H3.out⟩, HF.out.setCell (.inl (.inl rfl)) _⟩
      have := HB.out.done
      simpa [topBits_length] using this
end Go.Proofs.YtnpkihobbcglcaaGreatDoor

/- A4: The contracts of BitArray's methods, 4: a bit read; another array appended; bytes read. -/
namespace Go.Proofs.YtnpkihobbcglcaaGreatDoor
open Go Go.RowKit

theorem test_u32 (a k : Nat) (ha : a < 4294967296) (hk : k < 32) : (bits .and .u32 (a : Int) (2 ^ k % 4294967296) != 0) = a.testBit k := by
  have h := shl_mod k hk
  have e : ((2 : Int) ^ k % 4294967296) = ((2 ^ k : Nat) : Int) := by rw [← h]; simp
  rw [e, u32_and_nat _ _ ha (Nat.pow_lt_pow_right (a := 2) (m := k) (n := 32) (by omega) hk), ← and_pow_ne a k, Bool.eq_iff_iff, bne_iff_ne, bne_iff_ne]
  constructor
  · intro h e; exact h (by rw [e]; rfl)
  · intro h e; exact h (by exact_mod_cast e)

theorem getBit_any (p b : Nat) (bs : List Bool) (i : Int) (w : World) (h : BitA w p b bs) (h0 : 0 ≤ i) (hi : i < bs.length) :
    Calls Tryz.prog 96 #[.pointer (some ⟨p, 0, none⟩), .int .i64 i] w fun e w' => e = .returned (.bool (bs.getD i.toNat false)) ∧ w = w' := by
  obtain ⟨ws, h⟩ := h
  obtain ⟨k, rfl⟩ := Int.eq_ofNat_of_zero_le h0
  have hl := h.rep.len
  have hs := h.small
  have e0 : k / 32 < ws.length := by omega
  have c0 := h.obj.cell 0
  simp at c0
  have d0 := h.words.cell (k / 32) e0
  have hq : (0 : Int) ≤ (k : Int) / 32 := by omega
  have hq2 : (k : Int) / 32 < (ws.length : Int) := by omega
  have ht := test_u32 (ws.getD (k / 32) 0) (k % 32) (h.rep.at_lt _) (by omega)
  have hb := h.rep.bit k (by omega)
  unfold wordBit at hb
  have e1 : ws.getD (k / 32) 0 = ws[k / 32] := by simp [e0]
  rw [hb, e1] at ht
  have HT := Lib.hid ht
  clear ht hb h e1
  go_enter Tryz.func96, Tryz.ntmps96
  go_wp2
  go_ret
  rw [HT.out]
  exact ⟨rfl, rfl⟩

set_option maxRecDepth 100000 in
set_option maxHeartbeats 1000000 in
theorem appendArray_any (p b q c : Nat) (bs cs : List Bool) (w : World) (h : BitA w p b bs) (hq : BitA w q c cs) (h1 : q ≠ p) (h2 : q ≠ b) (h3 : c ≠ p) (h4 : c ≠ b) (hs : bs.length + cs.length < 100000) :
    Calls Tryz.prog 44 #[.pointer (some ⟨p, 0, none⟩), .pointer (some ⟨q, 0, none⟩)] w fun e w' => e = .returned (.tuple #[]) ∧ Grew w w' p b (bs ++ cs) := by
  have c1 := h.size
  have c2 := hq.size
  obtain ⟨lp, lb, _⟩ := h.lt
  obtain ⟨lq, lc, _⟩ := hq.lt
  have H := Lib.hid h
  have HQ := Lib.hid hq
  clear h hq
  go_enter Tryz.func44, Tryz.ntmps44
  go_wp2_with fail
  refine (ensure_any p b bs (bs.length + cs.length) w H.out (by omega)).mono ?_
  rintro e w1 ⟨rfl, ⟨b1, ws, g1, g2, g3⟩, g4⟩
  have G1 := Lib.hid g1
  have G3 := Lib.hid g3
  have G4 := Lib.hid g4
  clear g1 g2 g3 g4
  go_wp2
  go_loopw [5] (fun x wr => ∃ k : Nat, k ≤ cs.length ∧ x = .int .i64 k ∧ (∃ b', BitA wr p b' (bs ++ cs.take k) ∧ (b' = b ∨ w.heap.size ≤ b')) ∧ Frm (fun k => k = p ∨ k = b) w wr) (fun x _ => cs.length - (intOf x).toNat)
  case atStart =>
    exact ⟨0, Nat.zero_le _, rfl, ⟨b1, ⟨ws, by simpa using G1.out⟩, G3.out⟩, G4.out.mono (fun _ _ h => .inl h)⟩
  case round =>
    obtain ⟨k, hk, rfl, ⟨b', hb, hb'⟩, hf⟩ := hrel
    have HB := Lib.hid hb
    have HF := Lib.hid hf
    clear hb hf
    by_cases hlt : k < cs.length
    · have hcq : BitA wr q c cs := HQ.out.frm HF.out (by omega) (by omega)
      have HC := Lib.hid hcq
      clear hcq
      have HB' := Lib.hid hb'
      clear hb'
      go_wp2_with fail
      refine (getBit_any q c cs k wr HC.out (by omega) (by omega)).mono ?_
      rintro e w2 ⟨rfl, rfl⟩
      go_wp2_with fail
      refine (appendBit_any p b' (bs ++ cs.take k) _ wr HB.out (by simp; omega)).mono ?_
      rintro e w2 ⟨rfl, ⟨⟨b2, hb2, hb3⟩, hf2⟩⟩
      have h1 := HF.out.size
      have HB2 := Lib.hid hb2
      have HB3 := Lib.hid hb3
      have HF2 := Lib.hid hf2
      clear hb2 hb3 hf2
      go_wp2
      refine ⟨⟨k + 1, by omega, by go_num, ⟨b2, ?_, ?_⟩, HF.out.step HF2.out ?_⟩, by simp [intOf]; omega⟩
      · have := HB2.out
        rw [List.take_succ_eq_append_getElem hlt, ← List.append_assoc]
        simpa [hlt] using this
      · rcases HB3.out with h | h
        · rw [h]; exact HB'.out
        · exact .inr (by omega)
      · rintro j hj (h | h)
        · exact .inl h
        · rcases HB'.out with h' | h'
          · exact .inr (by omega)
          · omega
    · obtain rfl : k = cs.length := by omega
      go_wp2
      go_end0
      exact ⟨rfl, ⟨⟨b', by have := HB.out; rwa [List.take_length] at this, hb'⟩, HF.out⟩⟩
end Go.Proofs.YtnpkihobbcglcaaGreatDoor

/- A5: The contracts of BitArray's methods, 5: bytes read. -/
namespace Go.Proofs.YtnpkihobbcglcaaGreatDoor
open Go Go.RowKit

/-- The first j bits from a place on, as the highest bits of a byte. -/
def partByte (bs : List Bool) (o : Nat) : Nat → Nat
  | 0 => 0
  | j + 1 => if bs.getD (o + j) false then partByte bs o j ||| 2 ^ (7 - j) else partByte bs o j
theorem partByte_lt (bs : List Bool) (o : Nat) (j : Nat) : partByte bs o j < 256 := by
  induction j with
  | zero => simp [partByte]
  | succ j ih =>
    unfold partByte
    split
    · exact Nat.or_lt_two_pow (n := 8) ih (Nat.lt_of_le_of_lt (Nat.pow_le_pow_right (by omega) (show 7 - j ≤ 7 by omega)) (by omega))
    · exact ih
def byteAt (bs : List Bool) (o : Nat) : Nat := partByte bs o 8
def bytesFrom (bs : List Bool) (o n : Nat) : List Nat := (List.range n).map fun i => byteAt bs (o + 8 * i)
theorem bytesFrom_succ (bs : List Bool) (o n : Nat) : bytesFrom bs o (n + 1) = bytesFrom bs o n ++ [byteAt bs (o + 8 * n)] := by simp [bytesFrom, List.range_succ]
theorem bytesFrom_length (bs : List Bool) (o n : Nat) : (bytesFrom bs o n).length = n := by simp [bytesFrom]

theorem or_u8 (a j : Nat) (ha : a < 256) (hj : j < 8) : bits .or .u8 (a : Int) (2 ^ j % 256) = ((a ||| 2 ^ j : Nat) : Int) := by
  have h2 : (2 : Nat) ^ j < 256 := Nat.lt_of_le_of_lt (Nat.pow_le_pow_right (by omega) (show j ≤ 7 by omega)) (by omega)
  have h := Nat.mod_eq_of_lt h2
  have e : ((2 : Int) ^ j % 256) = ((2 ^ j : Nat) : Int) := by
    have : (((2 ^ j % 256 : Nat)) : Int) = ((2 ^ j : Nat) : Int) := by rw [h]
    simpa using this
  rw [e, u8_or_nat _ _ ha h2]

set_option maxRecDepth 100000 in
set_option maxHeartbeats 1000000 in
theorem toBytes_any (p b g : Nat) (bs : List Bool) (o n : Nat) (xs : List Nat) (T : TypeId) (w : World) (h : BitA w p b bs) (hg : Nats w g .u8 T xs) (hx : xs.length = n) (hgp : g ≠ p) (hgb : g ≠ b) (ho : o + 8 * n ≤ bs.length) (hs : bs.length ≤ 100000) :
    Calls Tryz.prog 98 #[.pointer (some ⟨p, 0, none⟩), .int .i64 (o : Int), .slice (some ⟨g, 0, none⟩) n n, .int .i64 0, .int .i64 (n : Int)] w fun e w' => e = .returned (.tuple #[]) ∧ Nats w' g .u8 T (bytesFrom bs o n) ∧ Frm (fun k => k = g) w w' := by
  obtain ⟨lp, lb, _⟩ := h.lt
  have H := Lib.hid h
  have HG := Lib.hid hg
  have HX := Lib.hid hx
  clear h hg hx
  go_enter Tryz.func98, Tryz.ntmps98
  go_wp2
  go_loopw [1, 10, 11, 12] (fun o' i _ _ wr => ∃ k : Nat, k ≤ n ∧ i = .int .i64 k ∧ o' = .int .i64 ((o : Int) + 8 * k) ∧ Nats wr g .u8 T (bytesFrom bs o k ++ xs.drop k) ∧ Frm (fun k => k = g) w wr) (fun _ i _ _ _ => n - (intOf i).toNat)
  case atStart =>
    exact ⟨0, Nat.zero_le _, rfl, by simp, by simpa [bytesFrom] using HG.out, Frm.refl _ _⟩
  case round =>
    obtain ⟨k, hk, rfl, rfl, hb, hf⟩ := hrel
    have HB := Lib.hid hb
    have HF := Lib.hid hf
    clear hb hf
    by_cases hlt : k < n
    · go_wp2
      go_loop [1, 11, 12] (fun o' t j => ∃ m : Nat, m ≤ 8 ∧ j = .int .i64 m ∧ o' = .int .i64 ((o : Int) + 8 * k + m) ∧ t = .int .u8 (partByte bs (o + 8 * k) m)) (fun _ _ j => 8 - (intOf j).toNat)
      case atStart => exact ⟨0, by omega, rfl, by simp, rfl⟩
      case round =>
        obtain ⟨m, hm, rfl, rfl, rfl⟩ := hrel
        by_cases hlm : m < 8
        · have hpb := partByte_lt bs (o + 8 * k) m
          have hor := or_u8 (partByte bs (o + 8 * k) m) (7 - m) hpb (by omega)
          have hc : BitA wr p b bs := H.out.frm HF.out (by omega) (by omega)
          have HC := Lib.hid hc
          clear hc
          go_wp2_with fail
          refine (getBit_any p b bs _ wr HC.out (by omega) (by omega)).mono ?_
          rintro e w2 ⟨rfl, rfl⟩
          have e3 : ((o : Int) + 8 * k + m).toNat = o + 8 * k + m := by omega
          rw [e3]
          have e4 : partByte bs (o + 8 * k) (m + 1) = if bs.getD (o + 8 * k + m) false then partByte bs (o + 8 * k) m ||| 2 ^ (7 - m) else partByte bs (o + 8 * k) m := rfl
          have HE4 := Lib.hid e4
          clear e3 e4
          cases hbit : bs.getD (o + 8 * k + m) false
          · have HBit := Lib.hid hbit
            clear hbit
            go_wp2
            refine ⟨⟨m + 1, by omega, by go_num, by go_num, ?_⟩, by simp [intOf]; omega⟩
            rw [HE4.out, HBit.out]; rfl
          · have HBit := Lib.hid hbit
            clear hbit
            go_wp2
            refine ⟨⟨m + 1, by omega, by go_num, by go_num, ?_⟩, by simp [intOf]; omega⟩
            rw [HE4.out, HBit.out]; rfl
        · obtain rfl : m = 8 := by omega
          have hl : (bytesFrom bs o k ++ xs.drop k).length = n := by have := HX.out; simp [bytesFrom_length]; omega
          have hd := HB.out.cell k (by omega)
          have hfr := HB.out.free k
          have hpb := partByte_lt bs (o + 8 * k) 8
          have HL := Lib.hid hl
          clear hl
          go_wp2
          refine ⟨⟨k + 1, by omega, by go_num, by go_num, ?_, HF.out.setCell (.inl rfl) _⟩, by simp [intOf]; omega⟩
          have h1 := HB.out.set k (partByte bs (o + 8 * k) 8)
          have h2 : (bytesFrom bs o k ++ xs.drop k).set k (partByte bs (o + 8 * k) 8) = bytesFrom bs o (k + 1) ++ xs.drop (k + 1) := by
            have h3 : k < xs.length := by rw [HX.out]; omega
            rw [bytesFrom_succ, List.set_append_right _ _ (by simp [bytesFrom_length]), bytesFrom_length, Nat.sub_self, List.append_assoc]
            rw [List.drop_eq_getElem_cons h3]; rfl
          rw [h2] at h1
          exact h1
    · obtain rfl : k = n := by omega
      go_wp2
      go_end0
      refine ⟨rfl, ?_, HF.out⟩
      have h1 := HB.out
      rw [List.drop_of_length_le (by rw [HX.out]; omega), List.append_nil] at h1
      exact h1
end Go.Proofs.YtnpkihobbcglcaaGreatDoor

/- C1: Bit lengths, BCH codes, the type and version bits. -/
namespace Go.Proofs.YtnpkihobbcglcaaGreatDoor
open Go Go.RowKit

def len8 (x : Nat) : Nat := if x = 0 then 0 else x.log2 + 1
def msb (x : Nat) : Nat := if 256 ≤ x then 8 + len8 (x / 256) else len8 x

def lenTab : ByteArray := { data := (([0, 1, 2, 2, 3, 3, 3, 3, 4, 4, 4, 4, 4, 4, 4, 4, 5, 5, 5, 5, 5, 5, 5, 5, 5, 5, 5, 5, 5, 5, 5, 5, 6, 6, 6, 6, 6, 6, 6, 6, 6, 6, 6, 6, 6, 6, 6, 6, 6, 6, 6, 6, 6, 6, 6, 6, 6, 6, 6, 6, 6, 6, 6, 6].append [7, 7, 7, 7, 7, 7, 7, 7, 7, 7, 7, 7, 7, 7, 7, 7, 7, 7, 7, 7, 7, 7, 7, 7, 7, 7, 7, 7, 7, 7, 7, 7, 7, 7, 7, 7, 7, 7, 7, 7, 7, 7, 7, 7, 7, 7, 7, 7, 7, 7, 7, 7, 7, 7, 7, 7, 7, 7, 7, 7, 7, 7, 7, 7]).append ([8, 8, 8, 8, 8, 8, 8, 8, 8, 8, 8, 8, 8, 8, 8, 8, 8, 8, 8, 8, 8, 8, 8, 8, 8, 8, 8, 8, 8, 8, 8, 8, 8, 8, 8, 8, 8, 8, 8, 8, 8, 8, 8, 8, 8, 8, 8, 8, 8, 8, 8, 8, 8, 8, 8, 8, 8, 8, 8, 8, 8, 8, 8, 8].append [8, 8, 8, 8, 8, 8, 8, 8, 8, 8, 8, 8, 8, 8, 8, 8, 8, 8, 8, 8, 8, 8, 8, 8, 8, 8, 8, 8, 8, 8, 8, 8, 8, 8, 8, 8, 8, 8, 8, 8, 8, 8, 8, 8, 8, 8, 8, 8, 8, 8, 8, 8, 8, 8, 8, 8, 8, 8, 8, 8, 8, 8, 8, 8])).toArray }

theorem lenTab_key : lenTab.size = 256 ∧ ∀ x, x < 256 → ((if h : x < lenTab.size then (lenTab[x]'h).toNat else 0) : Nat) = len8 x := by decide +kernel

theorem tab_at (x : Nat) (hx : x < 256) (s : ByteArray) (hs : lenTab = s) (h : x < s.size) : (s[x]'h).toNat = len8 x := by
  subst hs
  have h4 := lenTab_key.2 x hx
  rw [dif_pos h] at h4
  exact h4
theorem len8_le (x : Nat) (hx : x < 256) : len8 x ≤ 8 := by revert x; decide +kernel

set_option maxRecDepth 100000 in
theorem len32_any (x : Nat) (w : World) (hx : x < 65536) : Calls Tryz.prog 261 #[.int .u32 (x : Int)] w fun e w' => e = .returned (.int .i64 (msb x : Int)) ∧ w = w' := by
  go_enter Tryz.func261, Tryz.ntmps261
  unfold Tryz.f261
  have hs : lenTab = { data := (([0, 1, 2, 2, 3, 3, 3, 3, 4, 4, 4, 4, 4, 4, 4, 4, 5, 5, 5, 5, 5, 5, 5, 5, 5, 5, 5, 5, 5, 5, 5, 5, 6, 6, 6, 6, 6, 6, 6, 6, 6, 6, 6, 6, 6, 6, 6, 6, 6, 6, 6, 6, 6, 6, 6, 6, 6, 6, 6, 6, 6, 6, 6, 6].append [7, 7, 7, 7, 7, 7, 7, 7, 7, 7, 7, 7, 7, 7, 7, 7, 7, 7, 7, 7, 7, 7, 7, 7, 7, 7, 7, 7, 7, 7, 7, 7, 7, 7, 7, 7, 7, 7, 7, 7, 7, 7, 7, 7, 7, 7, 7, 7, 7, 7, 7, 7, 7, 7, 7, 7, 7, 7, 7, 7, 7, 7, 7, 7]).append ([8, 8, 8, 8, 8, 8, 8, 8, 8, 8, 8, 8, 8, 8, 8, 8, 8, 8, 8, 8, 8, 8, 8, 8, 8, 8, 8, 8, 8, 8, 8, 8, 8, 8, 8, 8, 8, 8, 8, 8, 8, 8, 8, 8, 8, 8, 8, 8, 8, 8, 8, 8, 8, 8, 8, 8, 8, 8, 8, 8, 8, 8, 8, 8].append [8, 8, 8, 8, 8, 8, 8, 8, 8, 8, 8, 8, 8, 8, 8, 8, 8, 8, 8, 8, 8, 8, 8, 8, 8, 8, 8, 8, 8, 8, 8, 8, 8, 8, 8, 8, 8, 8, 8, 8, 8, 8, 8, 8, 8, 8, 8, 8, 8, 8, 8, 8, 8, 8, 8, 8, 8, 8, 8, 8, 8, 8, 8, 8])).toArray } := rfl
  generalize ({ data := (([0, 1, 2, 2, 3, 3, 3, 3, 4, 4, 4, 4, 4, 4, 4, 4, 5, 5, 5, 5, 5, 5, 5, 5, 5, 5, 5, 5, 5, 5, 5, 5, 6, 6, 6, 6, 6, 6, 6, 6, 6, 6, 6, 6, 6, 6, 6, 6, 6, 6, 6, 6, 6, 6, 6, 6, 6, 6, 6, 6, 6, 6, 6, 6].append [7, 7, 7, 7, 7, 7, 7, 7, 7, 7, 7, 7, 7, 7, 7, 7, 7, 7, 7, 7, 7, 7, 7, 7, 7, 7, 7, 7, 7, 7, 7, 7, 7, 7, 7, 7, 7, 7, 7, 7, 7, 7, 7, 7, 7, 7, 7, 7, 7, 7, 7, 7, 7, 7, 7, 7, 7, 7, 7, 7, 7, 7, 7, 7]).append ([8, 8, 8, 8, 8, 8, 8, 8, 8, 8, 8, 8, 8, 8, 8, 8, 8, 8, 8, 8, 8, 8, 8, 8, 8, 8, 8, 8, 8, 8, 8, 8, 8, 8, 8, 8, 8, 8, 8, 8, 8, 8, 8, 8, 8, 8, 8, 8, 8, 8, 8, 8, 8, 8, 8, 8, 8, 8, 8, 8, 8, 8, 8, 8].append [8, 8, 8, 8, 8, 8, 8, 8, 8, 8, 8, 8, 8, 8, 8, 8, 8, 8, 8, 8, 8, 8, 8, 8, 8, 8, 8, 8, 8, 8, 8, 8, 8, 8, 8, 8, 8, 8, 8, 8, 8, 8, 8, 8, 8, 8, 8, 8, 8, 8, 8, 8, 8, 8, 8, 8, 8, 8, 8, 8, 8, 8, 8, 8])).toArray } : ByteArray) = s at hs ⊢
  have hd : decide ((65536 : Int) ≤ x) = false := by simp; omega
  have hsz : s.size = 256 := by rw [← hs]; exact lenTab_key.1
  have HS := Lib.hid hs
  clear hs
  by_cases h : 256 ≤ x
  · have hm : msb x = 8 + len8 (x / 256) := if_pos h
    have h8 := len8_le (x / 256) (by omega)
    go_wp2
    go_ret
    rw [tab_at (x / 256) (by omega) s HS.out (by omega), hm]
    generalize len8 (x / 256) = m at h8
    refine ⟨?_, rfl⟩
    refine congrArg (fun z => Ending.returned (Value.int .i64 z)) ?_
    simp only [wrap64]
    omega
  · have hm : msb x = len8 x := if_neg h
    have h8 := len8_le x (by omega)
    go_wp2
    go_ret
    rw [tab_at x (by omega) s HS.out (by omega), hm]
    generalize len8 x = m at h8
    refine ⟨?_, rfl⟩
    refine congrArg (fun z => Ending.returned (Value.int .i64 z)) ?_
    simp only [wrap64]
    omega

theorem msb_le (x : Nat) (hx : x < 65536) : msb x ≤ 16 := by
  unfold msb
  split
  · have := len8_le (x / 256) (by omega); omega
  · have := len8_le x (by omega); omega

theorem lz32_any (x : Nat) (w : World) (hx : x < 65536) : Calls Tryz.prog 243 #[.int .u32 (x : Int)] w fun e w' => e = .returned (.int .i64 (32 - msb x : Int)) ∧ w = w' := by
  have hm := msb_le x hx
  go_enter Tryz.func243, Tryz.ntmps243
  go_wp2_with fail
  with_reducible refine (len32_any x _ hx).mono ?_
  rintro e _ ⟨rfl, rfl⟩
  go_wp2
  go_ret
  exact ⟨by go_num, rfl⟩

theorem findMsb (x : Nat) (w : World) (hx : x < 65536) : Calls Tryz.prog 212 #[.int .i64 (x : Int)] w fun e w' => e = .returned (.int .i64 (msb x : Int)) ∧ w = w' := by
  have hm := msb_le x hx
  go_enter Tryz.func212, Tryz.ntmps212
  go_wp2_with fail
  with_reducible refine (lz32_any x _ hx).mono ?_
  rintro e _ ⟨rfl, rfl⟩
  go_wp2
  go_ret
  exact ⟨by go_num, rfl⟩

theorem wrap64_shl (a d : Nat) (ha : a < 65536) (hd : d < 32) : wrap64 ((a : Int) * 2 ^ d) = ((a <<< d : Nat) : Int) := by
  have h1 : (2 : Nat) ^ d ≤ 2 ^ 31 := Nat.pow_le_pow_right (by omega) (by omega)
  have h2 : a * 2 ^ d ≤ 65536 * 2 ^ 31 := Nat.mul_le_mul (by omega) h1
  have h3 : (((a <<< d : Nat)) : Int) = (a : Int) * 2 ^ d := by rw [Nat.shiftLeft_eq]; push_cast; rfl
  rw [h3]
  have h4 : (a : Int) * 2 ^ d = ((a * 2 ^ d : Nat) : Int) := by push_cast; rfl
  rw [h4]
  exact IntWalk.wrap64_in _ (by omega)

/-- One step of the division: the poly taken off at the top bit. -/
def bchStep (q x : Nat) : Nat := x ^^^ q <<< (msb x - msb q)
def bchSeq (q : Nat) : Nat → Nat → Nat
  | 0, x => x
  | k + 1, x => bchStep q (bchSeq q k x)
/-- The division ends behind n steps. -/
def bchOk (q x n : Nat) : Bool := ((List.range n).all fun k => decide (bchSeq q k x < 65536) && decide (msb q ≤ msb (bchSeq q k x)) && decide (q <<< (msb (bchSeq q k x) - msb q) < 65536) && decide (msb (bchSeq q (k + 1) x) < msb (bchSeq q k x))) && decide (bchSeq q n x < 65536) && decide (msb (bchSeq q n x) < msb q)

set_option maxRecDepth 100000 in
theorem bch_any (v q n : Nat) (w : World) (hv : v < 64) (hq0 : 0 < msb q) (hq : q < 65536) (hn : n ≤ 100) (hok : bchOk q (v <<< (msb q - 1)) n = true) :
    Calls Tryz.prog 180 #[.int .i64 (v : Int), .int .i64 (q : Int)] w fun e w' => e = .returned (.tuple #[.int .i64 (bchSeq q n (v <<< (msb q - 1)) : Nat), .nilIface]) ∧ w = w' := by
  have hm := msb_le q hq
  simp only [bchOk, Bool.and_eq_true, List.all_eq_true, decide_eq_true_eq, List.mem_range] at hok
  obtain ⟨⟨hok1, hok2⟩, hok3⟩ := hok
  have OK1 := Lib.hid hok1
  have OK2 := Lib.hid hok2
  have OK3 := Lib.hid hok3
  clear hok1 hok2 hok3
  have hq1 : q ≠ 0 := by rintro rfl; simp [msb, len8] at hq0
  go_enter Tryz.func180, Tryz.ntmps180
  go_wp2_with fail
  with_reducible refine (findMsb q _ hq).mono ?_
  rintro e _ ⟨rfl, rfl⟩
  go_wp2
  have hx0 : wrap64 ((v : Int) * 2 ^ (msb q - 1)) = ((v <<< (msb q - 1) : Nat) : Int) := by rw [wrap64_shl v _ (by omega) (by omega)]
  rw [hx0]
  clear hx0
  generalize hX : v <<< (msb q - 1) = X at OK1 OK2 OK3
  have HX := Lib.hid hX
  clear hX
  go_loop [0] (fun x => ∃ k : Nat, k ≤ n ∧ x = .int .i64 (bchSeq q k X : Nat)) (fun x => msb (intOf x).toNat)
  case atStart => exact ⟨0, Nat.zero_le _, rfl⟩
  case round =>
    obtain ⟨k, hk, rfl⟩ := hrel
    have hc : msb q ≤ msb (bchSeq q k X) ↔ k < n := by
      constructor
      · intro h
        by_cases e : k < n
        · exact e
        · have e : k = n := by omega
          subst e; have := OK3.out; omega
      · intro h; exact (OK1.out k h).1.1.2
    by_cases hlt : k < n
    · have hle := hc.2 hlt
      obtain ⟨⟨⟨h1, _⟩, h2⟩, h3⟩ := OK1.out k hlt
      have hS : bchSeq q (k + 1) X = bchSeq q k X ^^^ q <<< (msb (bchSeq q k X) - msb q) := rfl
      rw [hS] at h3
      have HS := Lib.hid hS
      have hd := msb_le _ h1
      clear hc hS
      generalize bchSeq q k X = x at *
      have e1 := wrap64_shl q (msb x - msb q) hq (by omega)
      have e2 := i64_xor x (q <<< (msb x - msb q)) (by omega) (by omega)
      go_wp2_with fail
      with_reducible refine (findMsb x _ h1).mono ?_
      rintro e _ ⟨rfl, rfl⟩
      go_wp2_with fail
      with_reducible refine (findMsb x _ h1).mono ?_
      rintro e _ ⟨rfl, rfl⟩
      go_wp2
      rw [show ((q : Int) <<< (msb x - msb q)) = ((q <<< (msb x - msb q) : Nat) : Int) from rfl, e2]
      refine ⟨⟨k + 1, by omega, by rw [HS.out]⟩, h3⟩
    · have hle : ¬ msb q ≤ msb (bchSeq q k X) := fun h => hlt (hc.1 h)
      obtain rfl : k = n := by omega
      have h1 := OK2.out
      clear hc
      generalize hx : bchSeq q k X = x at h1 hle
      have Hx := Lib.hid hx
      clear hx
      go_wp2_with fail
      with_reducible refine (findMsb x _ h1).mono ?_
      rintro e _ ⟨rfl, rfl⟩
      go_wp2
      go_ret2
      exact ⟨by rw [HX.out, Hx.out]; rfl, rfl⟩

end Go.Proofs.YtnpkihobbcglcaaGreatDoor
