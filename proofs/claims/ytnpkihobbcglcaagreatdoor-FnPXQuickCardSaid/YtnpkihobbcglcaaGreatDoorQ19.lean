/- The blocks' sizes: getNumDataBytesAndNumECBytesForBlockID; the pair of a block. The blocks, plain: sizes, places, the interleaved bits and how many they are; pairs in memory. The interleaved words taken apart again. No program in sight. -/
import Derived.Test.YtnpkihobbcglcaaGreatDoorQ10
import Derived.Test.YtnpkihobbcglcaaGreatDoorQ11
import Derived.Test.YtnpkihobbcglcaaGreatDoorQ18
set_option linter.unusedSimpArgs false
set_option linter.unusedVariables false

/- H1: The blocks' sizes: getNumDataBytesAndNumECBytesForBlockID; the pair of a block. -/
namespace Go.Proofs.YtnpkihobbcglcaaGreatDoor
open Go Go.RowKit

set_option maxHeartbeats 4000000 in
theorem blockSizes (T D N dq ec r i : Nat) (w : World) (hT : T = N * (dq + ec) + r) (hD : D = N * dq + r) (hr : r < N) (hi : i < N) (hb : T ≤ 10000) (hbq : dq + ec ≤ 10000) (hN : N ≤ 10000) :
    Calls Tryz.prog 97 #[.int .i64 T, .int .i64 D, .int .i64 N, .int .i64 i] w fun e w' => e = .returned (.tuple #[.int .i64 (if i < N - r then dq else dq + 1 : Nat), .int .i64 ec, .nilIface]) ∧ w = w' := by
  have q1 : (T : Int).tdiv N = ((dq + ec : Nat) : Int) := by
    rw [← Int.ofNat_tdiv, hT, Nat.mul_add_div (by omega), Nat.div_eq_of_lt hr]; simp
  have q2 : (T : Int).tmod N = ((r : Nat) : Int) := by
    rw [← Int.ofNat_tmod, hT, Nat.mul_add_mod, Nat.mod_eq_of_lt hr]
  have q3 : (D : Int).tdiv N = ((dq : Nat) : Int) := by
    rw [← Int.ofNat_tdiv, hD, Nat.mul_add_div (by omega), Nat.div_eq_of_lt hr]; simp
  obtain ⟨A, hA⟩ : ∃ A, (dq + ec) * (N - r) = A := ⟨_, rfl⟩
  obtain ⟨B, hB⟩ : ∃ B, (dq + 1 + ec) * r = B := ⟨_, rfl⟩
  have hAB : A + B = T := by
    rw [← hA, ← hB, hT]
    have h1 : (dq + 1 + ec) * r = (dq + ec) * r + r := by rw [show dq + 1 + ec = (dq + ec) + 1 by omega, Nat.succ_mul]
    rw [h1, ← Nat.add_assoc, ← Nat.mul_add, Nat.sub_add_cancel (by omega), Nat.mul_comm]
  have hAi : ((dq : Int) + ec) * ((N : Int) - r) = A := by rw [← hA, Int.natCast_mul, Int.natCast_add, Int.natCast_sub (by omega)]
  have hBi : ((dq : Int) + 1 + ec) * r = B := by rw [← hB, Int.natCast_mul, Int.natCast_add, Int.natCast_add]; rfl
  have hBi2 : ((dq : Int) + (1 + ec)) * r = B := by rw [← hBi, Int.add_assoc]
  have hBi3 : ((dq : Int) + (ec + 1)) * r = B := by rw [← hBi2, Int.add_comm (1 : Int)]
  have hBi4 : ((dq : Int) + ec + 1) * r = B := by rw [← hBi3, Int.add_assoc]
  have HT := Lib.hid hT
  have HD := Lib.hid hD
  simp only [Int.natCast_add] at q1
  have hs1 : (dq : Int) + ec - dq = ec := by omega
  have hs2 : (dq : Int) + ec + 1 - (dq + 1) = ec := by omega
  have hABi : (A : Int) + B = T := by omega
  clear hT hD hA hB
  have hge : decide ((N : Int) ≤ i) = false := by simp; omega
  go_enter Tryz.func97, Tryz.ntmps97
  go_wp2
  all_goals go_ret3
  all_goals exact ⟨rfl, rfl⟩

theorem newPair (d e nd ne : Nat) (w : World) :
    Calls Tryz.prog 100 #[.slice (some ⟨d, 0, none⟩) nd nd, .slice (some ⟨e, 0, none⟩) ne ne] w fun r w' => r = .returned (.pointer (some ⟨w.heap.size, 0, none⟩)) ∧ w.alloc (.cells #[.slice (some ⟨d, 0, none⟩) nd nd, .slice (some ⟨e, 0, none⟩) ne ne] 215) = w' := by
  go_enter Tryz.func100, Tryz.ntmps100
  go_wp2
  go_ret
  exact ⟨rfl, rfl⟩
theorem pairData (b : Nat) (v : Value) (w : World) (h : w.cell? ⟨b, 0, none⟩ = some v) : Calls Tryz.prog 101 #[.pointer (some ⟨b, 0, none⟩)] w fun r w' => r = .returned v ∧ w = w' := by
  go_enter Tryz.func101, Tryz.ntmps101
  go_wp2
  go_ret
  exact ⟨rfl, rfl⟩
theorem pairEC (b : Nat) (v : Value) (w : World) (h : w.cell? ⟨b, 1, none⟩ = some v) : Calls Tryz.prog 102 #[.pointer (some ⟨b, 0, none⟩)] w fun r w' => r = .returned v ∧ w = w' := by
  go_enter Tryz.func102, Tryz.ntmps102
  go_wp2
  go_ret
  exact ⟨rfl, rfl⟩
theorem sizeInBytes (p b : Nat) (bs : List Bool) (n : Nat) (w : World) (h : BitA w p b bs) (hb : bs.length = 8 * n) (hn : n ≤ 10000) : Calls Tryz.prog 45 #[.pointer (some ⟨p, 0, none⟩)] w fun r w' => r = .returned (.int .i64 n) ∧ w = w' := by
  have hs := h.size
  rw [hb] at hs
  have h2 : ((8 * n : Nat) : Int) = 8 * (n : Int) := by omega
  rw [h2] at hs
  have h3 : ((8 : Int) * n + 7).tdiv 8 = n := by rw [Int.tdiv_eq_ediv_of_nonneg (by omega)]; omega
  go_enter Tryz.func45, Tryz.ntmps45
  go_wp2
  go_ret
  refine ⟨?_, rfl⟩
  first | rfl | (congr 2; omega)
end Go.Proofs.YtnpkihobbcglcaaGreatDoor

/- H2: The blocks, plain: sizes, places, the interleaved bits and how many they are; pairs in memory. -/
namespace Go.Proofs.YtnpkihobbcglcaaGreatDoor
open Go Go.RowKit

abbrev Pair := List Nat × List Nat
structure PairAt (w : World) (b : Nat) (x : Pair) : Prop where
  ex : ∃ d e, Blk w b #[.slice (some ⟨d, 0, none⟩) x.1.length x.1.length, .slice (some ⟨e, 0, none⟩) x.2.length x.2.length] 215 ∧ Nats w d .u8 5 x.1 ∧ Nats w e .u8 5 x.2
theorem PairAt.kept {w w' : World} {b : Nat} {x : Pair} (h : PairAt w b x) (hf : Kept w w') : PairAt w' b x :=
  let ⟨d, e, h1, h2, h3⟩ := h.ex; ⟨d, e, h1.frm hf (fun h => h), h2.frm hf (fun h => h), h3.frm hf (fun h => h)⟩
theorem PairAt.row {w w' : World} {b g n cap : Nat} {x : Pair} {xs : List Value} (h : PairAt w b x) (hr : Row w 175 g n cap xs) (hf : Frm (fun k => k = g) w w') : PairAt w' b x := by
  obtain ⟨d, e, h1, h2, h3⟩ := h.ex
  obtain ⟨cur, hg, _⟩ := hr.cells
  exact ⟨d, e, h1.frm hf (h1.ne hg (by decide)), h2.frm hf (Blk.ne h2 hg (by decide)), h3.frm hf (Blk.ne h3 hg (by decide))⟩

structure Pairs (w : World) (ptrs : List Value) (L : List Pair) : Prop where
  len : ptrs.length = L.length
  at_ : ∀ (j : Nat) (x : Pair), L[j]? = some x → ∃ b, ptrs[j]? = some (Value.pointer (some ⟨b, 0, none⟩)) ∧ PairAt w b x
theorem Pairs.kept {w w' : World} {ptrs : List Value} {L : List Pair} (h : Pairs w ptrs L) (hf : Kept w w') : Pairs w' ptrs L :=
  ⟨h.len, fun j x hx => let ⟨b, h1, h2⟩ := h.at_ j x hx; ⟨b, h1, h2.kept hf⟩⟩
theorem Pairs.row {w w' : World} {g n cap : Nat} {xs ptrs : List Value} {L : List Pair} (h : Pairs w ptrs L) (hr : Row w 175 g n cap xs) (hf : Frm (fun k => k = g) w w') : Pairs w' ptrs L :=
  ⟨h.len, fun j x hx => let ⟨b, h1, h2⟩ := h.at_ j x hx; ⟨b, h1, h2.row hr hf⟩⟩
theorem Pairs.push {w : World} {ptrs : List Value} {L : List Pair} {b : Nat} {x : Pair} (h : Pairs w ptrs L) (hx : PairAt w b x) : Pairs w (ptrs ++ [Value.pointer (some ⟨b, 0, none⟩)]) (L ++ [x]) := by
  refine ⟨by simp [h.len], fun j y hy => ?_⟩
  by_cases hj : j < L.length
  · rw [List.getElem?_append_left hj] at hy
    obtain ⟨c, h1, h2⟩ := h.at_ j y hy
    exact ⟨c, by rw [List.getElem?_append_left (by rw [h.len]; exact hj)]; exact h1, h2⟩
  · rw [List.getElem?_append_right (by omega)] at hy
    have hj2 : j - L.length = 0 := by
      cases hz : j - L.length with
      | zero => rfl
      | succ m => rw [hz] at hy; simp at hy
    rw [hj2] at hy
    simp at hy
    subst hy
    refine ⟨b, ?_, hx⟩
    rw [List.getElem?_append_right (by rw [h.len]; omega), h.len, hj2]
    rfl

def maxOf (xs : List (List Nat)) : Nat := xs.foldl (fun m x => max m x.length) 0
theorem maxOf_push (xs : List (List Nat)) (x : List Nat) : maxOf (xs ++ [x]) = max (maxOf xs) x.length := by simp [maxOf, List.foldl_append]
theorem maxOf_ge (xs : List (List Nat)) : ∀ x ∈ xs, x.length ≤ maxOf xs := by
  have key : ∀ (l : List (List Nat)) (m : Nat), m ≤ l.foldl (fun m x => max m x.length) m ∧ ∀ x ∈ l, x.length ≤ l.foldl (fun m x => max m x.length) m := by
    intro l
    induction l with
    | nil => intro m; simp
    | cons y l ih =>
      intro m
      obtain ⟨h1, h2⟩ := ih (max m y.length)
      simp only [List.foldl_cons, List.mem_cons]
      refine ⟨by omega, ?_⟩
      rintro x (rfl | hx)
      · omega
      · exact h2 x hx
  exact (key xs 0).2

theorem maxOf_le (xs : List (List Nat)) (B : Nat) (h : ∀ x ∈ xs, x.length ≤ B) : maxOf xs ≤ B := by
  have key : ∀ (l : List (List Nat)) (m : Nat), m ≤ B → (∀ x ∈ l, x.length ≤ B) → l.foldl (fun m x => max m x.length) m ≤ B := by
    intro l
    induction l with
    | nil => intro m hm _; exact hm
    | cons y l ih =>
      intro m hm hl
      have := hl y List.mem_cons_self
      exact ih (max m y.length) (by omega) (fun x hx => hl x (List.mem_cons_of_mem _ hx))
  exact key xs 0 (Nat.zero_le _) h

/-- The i-th bytes of the first k blocks. -/
def interSel (xs : List (List Nat)) (i k : Nat) : List Bool := (xs.take k).flatMap fun x => if i < x.length then topBits (x.getD i 0) 8 8 else []
def interUp (xs : List (List Nat)) : Nat → List Bool
  | 0 => []
  | i + 1 => interUp xs i ++ interSel xs i xs.length
theorem interSel_zero (xs : List (List Nat)) (i : Nat) : interSel xs i 0 = [] := by simp [interSel]
theorem interSel_succ (xs : List (List Nat)) (i k : Nat) (x : List Nat) (hx : xs[k]? = some x) : interSel xs i (k + 1) = interSel xs i k ++ (if i < x.length then topBits (x.getD i 0) 8 8 else []) := by
  unfold interSel
  rw [List.take_add_one, hx, List.flatMap_append]
  simp
def sumMin (xs : List (List Nat)) (m : Nat) : Nat := (xs.map fun x => min x.length m).sum
theorem interSel_len (xs : List (List Nat)) (i : Nat) : ∀ k, (interSel xs i k).length ≤ 8 * k := by
  intro k
  induction k with
  | zero => simp [interSel]
  | succ k ih =>
    by_cases h : k < xs.length
    · rw [interSel_succ xs i k xs[k] (List.getElem?_eq_getElem h), List.length_append]
      split
      · rw [topBits_length]; omega
      · simp; omega
    · have : interSel xs i (k + 1) = interSel xs i k := by unfold interSel; rw [List.take_of_length_le (by omega), List.take_of_length_le (by omega)]
      rw [this]; omega
theorem interSel_all (xs : List (List Nat)) (i : Nat) : (interSel xs i xs.length).length + 8 * sumMin xs i = 8 * sumMin xs (i + 1) := by
  unfold interSel
  rw [List.take_length]
  induction xs with
  | nil => simp [sumMin]
  | cons x xs ih =>
    simp only [sumMin, List.map_cons, List.sum_cons, List.flatMap_cons, List.length_append] at ih ⊢
    split
    · rw [topBits_length]; omega
    · simp only [List.length_nil]; omega
theorem interUp_len (xs : List (List Nat)) (m : Nat) : (interUp xs m).length = 8 * sumMin xs m := by
  induction m with
  | zero =>
    unfold interUp sumMin
    have : (xs.map fun x => min x.length 0) = xs.map fun _ => 0 := by simp
    rw [this]
    clear this
    induction xs with
    | nil => rfl
    | cons x xs ih => simp at ih ⊢; exact ih
  | succ m ih =>
    unfold interUp
    rw [List.length_append, ih]
    have := interSel_all xs m
    omega
theorem sumMin_le (xs : List (List Nat)) (m : Nat) : sumMin xs m ≤ (xs.map List.length).sum := by
  unfold sumMin
  induction xs with
  | nil => simp
  | cons x xs ih => simp only [List.map_cons, List.sum_cons]; omega
theorem sumMin_all (xs : List (List Nat)) (m : Nat) (h : ∀ x ∈ xs, x.length ≤ m) : sumMin xs m = (xs.map List.length).sum := by
  unfold sumMin
  induction xs with
  | nil => simp
  | cons x xs ih =>
    simp only [List.map_cons, List.sum_cons]
    rw [ih (fun y hy => h y (List.mem_cons_of_mem _ hy))]
    have := h x List.mem_cons_self
    omega

/-- The bits of the whole, data words first. -/
def interBits (L : List Pair) : List Bool := interUp (L.map (·.1)) (maxOf (L.map (·.1))) ++ interUp (L.map (·.2)) (maxOf (L.map (·.2)))

def bSize (N dq r j : Nat) : Nat := if j < N - r then dq else dq + 1
def bOff (N dq r : Nat) : Nat → Nat
  | 0 => 0
  | j + 1 => bOff N dq r j + bSize N dq r j
theorem bOff_eq (N dq r : Nat) (_hr : r < N) : ∀ j, j ≤ N → bOff N dq r j = j * dq + (j - (N - r)) := by
  intro j
  induction j with
  | zero => intro _; simp [bOff]
  | succ j ih =>
    intro hj
    have := ih (by omega)
    unfold bOff bSize
    rw [this, Nat.succ_mul]
    split <;> omega
/-- The blocks as the encoder makes them. -/
def GoodL (bs : List Bool) (N dq r ec : Nat) (L : List Pair) : Prop :=
  ∀ (j : Nat) (x : Pair), L[j]? = some x → x.1 = bytesFrom bs (8 * bOff N dq r j) (bSize N dq r j) ∧ x.2.length = ec ∧ Bytes x.2 ∧ ∀ i, i < ec → ev (x.1 ++ x.2) (ge i) = 0
theorem GoodL.bytes1 {bs : List Bool} {N dq r ec : Nat} {L : List Pair} (h : GoodL bs N dq r ec L) {j : Nat} {x : Pair} (hx : L[j]? = some x) : Bytes x.1 := by
  rw [(h j x hx).1]
  intro c hc
  unfold bytesFrom at hc
  obtain ⟨j, _, rfl⟩ := List.mem_map.1 hc
  exact partByte_lt _ _ _
theorem GoodL.bytes2 {bs : List Bool} {N dq r ec : Nat} {L : List Pair} (h : GoodL bs N dq r ec L) {j : Nat} {x : Pair} (hx : L[j]? = some x) : Bytes x.2 := (h j x hx).2.2.1
theorem GoodL.max1 {bs : List Bool} {N dq r ec : Nat} {L : List Pair} (h : GoodL bs N dq r ec L) : maxOf (L.map (·.1)) ≤ dq + 1 := by
  refine maxOf_le _ _ ?_
  intro x hx
  obtain ⟨y, hy, rfl⟩ := List.mem_map.1 hx
  obtain ⟨j, hj⟩ := List.mem_iff_getElem?.1 hy
  rw [(h j y hj).1, bytesFrom_length]
  unfold bSize; split <;> omega
theorem GoodL.max2 {bs : List Bool} {N dq r ec : Nat} {L : List Pair} (h : GoodL bs N dq r ec L) : maxOf (L.map (·.2)) ≤ ec := by
  refine maxOf_le _ _ ?_
  intro x hx
  obtain ⟨y, hy, rfl⟩ := List.mem_map.1 hx
  obtain ⟨j, hj⟩ := List.mem_iff_getElem?.1 hy
  rw [(h j y hj).2.1]
  omega
theorem GoodL.push {bs : List Bool} {N dq r ec : Nat} {L : List Pair} {x : Pair} (h : GoodL bs N dq r ec L) (hx : x.1 = bytesFrom bs (8 * bOff N dq r L.length) (bSize N dq r L.length) ∧ x.2.length = ec ∧ Bytes x.2 ∧ ∀ i, i < ec → ev (x.1 ++ x.2) (ge i) = 0) : GoodL bs N dq r ec (L ++ [x]) := by
  intro j y hy
  by_cases hj : j < L.length
  · rw [List.getElem?_append_left hj] at hy
    exact h j y hy
  · rw [List.getElem?_append_right (by omega)] at hy
    have hj2 : j - L.length = 0 := by
      cases hz : j - L.length with
      | zero => rfl
      | succ m => rw [hz] at hy; simp at hy
    rw [hj2] at hy
    simp at hy
    subst hy
    have : j = L.length := by omega
    subst this
    exact hx
theorem GoodL.sums {bs : List Bool} {N dq r ec : Nat} : ∀ (L : List Pair), GoodL bs N dq r ec L → ((L.map (·.1)).map List.length).sum = bOff N dq r L.length ∧ ((L.map (·.2)).map List.length).sum = L.length * ec := by
  intro L
  have key : ∀ n, n ≤ L.length → GoodL bs N dq r ec L → (((L.take n).map (·.1)).map List.length).sum = bOff N dq r n ∧ (((L.take n).map (·.2)).map List.length).sum = n * ec := by
    intro n
    induction n with
    | zero => intro _ _; simp [bOff]
    | succ n ih =>
      intro hn hg
      obtain ⟨h1, h2⟩ := ih (by omega) hg
      have hx := List.getElem?_eq_getElem (show n < L.length by omega)
      obtain ⟨g1, g2, _⟩ := hg n _ hx
      rw [List.take_add_one, hx]
      simp only [List.map_append, List.sum_append, Option.toList_some, List.map_cons, List.map_nil, List.sum_cons, List.sum_nil, Nat.add_zero]
      rw [h1, h2, g1, g2, bytesFrom_length, Nat.succ_mul]
      exact ⟨rfl, rfl⟩
  intro hg
  have := key L.length (Nat.le_refl _) hg
  rwa [List.take_length] at this
end Go.Proofs.YtnpkihobbcglcaaGreatDoor

/- L2: The interleaved words taken apart again. No program in sight. -/
namespace Go.Proofs.YtnpkihobbcglcaaGreatDoor
/-- Bytes as bits. -/
def bitsOf (ys : List Nat) : List Bool := ys.flatMap fun c => topBits c 8 8
theorem bitsOf_append (a b : List Nat) : bitsOf (a ++ b) = bitsOf a ++ bitsOf b := by simp [bitsOf]
theorem bitsOf_length (ys : List Nat) : (bitsOf ys).length = 8 * ys.length := by
  induction ys with
  | nil => rfl
  | cons c ys ih =>
    have : bitsOf (c :: ys) = topBits c 8 8 ++ bitsOf ys := rfl
    rw [this, List.length_append, topBits_length, ih, List.length_cons]; omega
theorem bitsOf_drop (ys : List Nat) : ∀ k, (bitsOf ys).drop (8 * k) = bitsOf (ys.drop k) := by
  induction ys with
  | nil => intro k; simp [bitsOf]
  | cons c ys ih =>
    intro k
    cases k with
    | zero => rfl
    | succ k =>
      have : bitsOf (c :: ys) = topBits c 8 8 ++ bitsOf ys := rfl
      rw [this, List.drop_succ_cons, ← ih, show 8 * (k + 1) = (topBits c 8 8).length + 8 * k by rw [topBits_length]; omega, List.drop_length_add_append]
theorem bitsOf_rd (ys : List Nat) (k : Nat) (hk : k < ys.length) (hb : ys.getD k 0 < 256) : rd (bitsOf ys) (8 * k) 8 = ys.getD k 0 := by
  unfold rd
  rw [bitsOf_drop, List.drop_eq_getElem_cons hk]
  have h1 : ys[k] = ys.getD k 0 := by rw [List.getD_eq_getElem?_getD, List.getElem?_eq_getElem hk]; rfl
  have : bitsOf (ys[k] :: ys.drop (k + 1)) = topBits ys[k] 8 8 ++ bitsOf (ys.drop (k + 1)) := rfl
  rw [this, List.take_append_of_le_length (by rw [topBits_length]; omega), List.take_of_length_le (by rw [topBits_length]; omega), h1, nval_top _ _ hb]

def selW (xs : List (List Nat)) (i k : Nat) : List Nat := (xs.take k).flatMap fun x => if i < x.length then [x.getD i 0] else []
def upW (xs : List (List Nat)) : Nat → List Nat
  | 0 => []
  | i + 1 => upW xs i ++ selW xs i xs.length
def interWords (L : List Pair) : List Nat := upW (L.map (·.1)) (maxOf (L.map (·.1))) ++ upW (L.map (·.2)) (maxOf (L.map (·.2)))
theorem sel_bits (xs : List (List Nat)) (i k : Nat) : interSel xs i k = bitsOf (selW xs i k) := by
  unfold interSel selW
  generalize xs.take k = ys
  induction ys with
  | nil => rfl
  | cons y ys ih =>
    rw [List.flatMap_cons, List.flatMap_cons, bitsOf_append, ih]
    congr 1
    split
    · simp [bitsOf]
    · rfl
theorem up_bits (xs : List (List Nat)) (m : Nat) : interUp xs m = bitsOf (upW xs m) := by
  induction m with
  | zero => rfl
  | succ m ih => unfold interUp upW; rw [bitsOf_append, ih, sel_bits]
theorem inter_bits (L : List Pair) : interBits L = bitsOf (interWords L) := by
  unfold interBits interWords
  rw [bitsOf_append, up_bits, up_bits]

theorem selW_full (xs : List (List Nat)) (i : Nat) (h : ∀ x ∈ xs, i < x.length) : selW xs i xs.length = xs.map (fun x => x.getD i 0) := by
  unfold selW
  rw [List.take_length]
  induction xs with
  | nil => rfl
  | cons x xs ih =>
    rw [List.flatMap_cons, List.map_cons, ih (fun y hy => h y (List.mem_cons_of_mem _ hy)), if_pos (h x List.mem_cons_self)]
    rfl
theorem selW_none (xs : List (List Nat)) (i : Nat) (h : ∀ x ∈ xs, ¬ i < x.length) : (xs.flatMap fun x => if i < x.length then [x.getD i 0] else []) = [] := by
  induction xs with
  | nil => rfl
  | cons x xs ih => rw [List.flatMap_cons, if_neg (h x List.mem_cons_self), ih (fun y hy => h y (List.mem_cons_of_mem _ hy))]; rfl
theorem upW_get (xs : List (List Nat)) (d : Nat) (h : ∀ x ∈ xs, d ≤ x.length) : ∀ m, m ≤ d → (upW xs m).length = m * xs.length ∧
    ∀ i, i < m → ∀ j, j < xs.length → (upW xs m).getD (i * xs.length + j) 0 = (xs.getD j []).getD i 0 := by
  intro m
  induction m with
  | zero => intro _; exact ⟨by simp [upW], fun i hi => absurd hi (by omega)⟩
  | succ m ih =>
    intro hm
    obtain ⟨h1, h2⟩ := ih (by omega)
    have hs := selW_full xs m (fun x hx => by have := h x hx; omega)
    unfold upW
    rw [hs]
    refine ⟨by rw [List.length_append, h1, List.length_map, Nat.succ_mul], ?_⟩
    intro i hi j hj
    by_cases e : i = m
    · subst e
      rw [List.getD_eq_getElem?_getD, List.getElem?_append_right (by rw [h1]; omega), h1, Nat.add_sub_cancel_left, List.getElem?_map, List.getElem?_eq_getElem hj, List.getD_eq_getElem?_getD (l := xs), List.getElem?_eq_getElem hj]
      rfl
    · have hlt : i * xs.length + j < m * xs.length := by
        have : (i + 1) * xs.length ≤ m * xs.length := Nat.mul_le_mul_right _ (by omega)
        rw [Nat.succ_mul] at this
        omega
      rw [List.getD_eq_getElem?_getD, List.getElem?_append_left (by rw [h1]; exact hlt), ← List.getD_eq_getElem?_getD]
      exact h2 i (by omega) j hj
/-- The last row, of the longer ones alone. -/
theorem selW_last (xs : List (List Nat)) (d r : Nat) (hr : r ≤ xs.length) (h : ∀ j, j < xs.length → (xs.getD j []).length = bSize xs.length d r j) : selW xs d xs.length = (xs.drop (xs.length - r)).map (fun x => x.getD d 0) := by
  have h1 : ∀ x ∈ xs.take (xs.length - r), ¬ d < x.length := by
    intro x hx
    obtain ⟨j, hj⟩ := List.mem_iff_getElem?.1 hx
    have hjl : j < xs.length - r := by
      have := (List.getElem?_eq_some_iff.1 hj).1
      rw [List.length_take] at this; omega
    rw [List.getElem?_take_of_lt hjl] at hj
    have := h j (by omega)
    rw [List.getD_eq_getElem?_getD, hj] at this
    simp only [Option.getD_some, bSize, if_pos hjl] at this
    omega
  have h2 : ∀ x ∈ xs.drop (xs.length - r), d < x.length := by
    intro x hx
    obtain ⟨j, hj⟩ := List.mem_iff_getElem?.1 hx
    have hjl : j < r := by
      have := (List.getElem?_eq_some_iff.1 hj).1
      rw [List.length_drop] at this; omega
    rw [List.getElem?_drop] at hj
    have := h (xs.length - r + j) (by omega)
    rw [List.getD_eq_getElem?_getD, hj] at this
    simp only [Option.getD_some, bSize] at this
    rw [if_neg (by omega)] at this
    omega
  unfold selW
  rw [List.take_length]
  conv => lhs; rw [← List.take_append_drop (xs.length - r) xs]
  rw [List.flatMap_append, selW_none _ _ h1, List.nil_append]
  have := selW_full (xs.drop (xs.length - r)) d h2
  unfold selW at this
  rw [List.take_length] at this
  exact this

theorem upW_all (xs : List (List Nat)) (d r : Nat) (hN : 0 < xs.length) (hr : r < xs.length) (h : ∀ j, j < xs.length → (xs.getD j []).length = bSize xs.length d r j) : upW xs (maxOf xs) = upW xs d ++ (xs.drop (xs.length - r)).map (fun x => x.getD d 0) := by
  have hmem : ∀ x ∈ xs, ∃ j, j < xs.length ∧ xs.getD j [] = x := by
    intro x hx
    obtain ⟨j, hj⟩ := List.mem_iff_getElem?.1 hx
    exact ⟨j, (List.getElem?_eq_some_iff.1 hj).1, by rw [List.getD_eq_getElem?_getD, hj]; rfl⟩
  have hget : ∀ j, j < xs.length → xs.getD j [] ∈ xs := by
    intro j hj
    rw [List.getD_eq_getElem?_getD, List.getElem?_eq_getElem hj]
    exact List.getElem_mem hj
  by_cases e : r = 0
  · subst e
    have hm : maxOf xs = d := by
      apply Nat.le_antisymm
      · refine maxOf_le _ _ (fun x hx => ?_)
        obtain ⟨j, hj, rfl⟩ := hmem x hx
        rw [h j hj]; unfold bSize; rw [if_pos (by omega)]; omega
      · have := maxOf_ge xs _ (hget 0 hN)
        rw [h 0 hN] at this
        unfold bSize at this; rw [if_pos (by omega)] at this; exact this
    rw [hm]; simp
  · have hm : maxOf xs = d + 1 := by
      apply Nat.le_antisymm
      · refine maxOf_le _ _ (fun x hx => ?_)
        obtain ⟨j, hj, rfl⟩ := hmem x hx
        rw [h j hj]; unfold bSize; split <;> omega
      · have := maxOf_ge xs _ (hget (xs.length - 1) (by omega))
        rw [h _ (by omega)] at this
        unfold bSize at this; rw [if_neg (by omega)] at this; exact this
    rw [hm, ← selW_last xs d r (by omega) h]
    rfl

/-- Where the byte with the number t of the block with the number j stands. -/
def srcIx (N d r j t : Nat) : Nat := if t < d then t * N + j else if j < N - r then d * N + r + (t - d) * N + j else if t = d then d * N + (j - (N - r)) else d * N + r + (t - 1 - d) * N + j
def blkW (C : List Nat) (N d r ec j : Nat) : List Nat := (List.range (bSize N d r j + ec)).map fun t => C.getD (srcIx N d r j t) 0

theorem maxOf_const (xs : List (List Nat)) (e : Nat) (hN : 0 < xs.length) (h : ∀ x ∈ xs, x.length = e) : maxOf xs = e := by
  apply Nat.le_antisymm
  · exact maxOf_le _ _ (fun x hx => by rw [h x hx]; exact Nat.le_refl _)
  · have := maxOf_ge xs _ (List.getElem_mem hN)
    rwa [h _ (List.getElem_mem hN)] at this

theorem deinter (L : List Pair) (d r ec : Nat) (hr : r < L.length) (h1 : ∀ (j : Nat) (x : Pair), L[j]? = some x → x.1.length = bSize L.length d r j) (h2 : ∀ x ∈ L, x.2.length = ec) (j : Nat) (x : Pair) (hx : L[j]? = some x) :
    (interWords L).length = L.length * d + r + L.length * ec ∧ blkW (interWords L) L.length d r ec j = x.1 ++ x.2 := by
  have hj : j < L.length := (List.getElem?_eq_some_iff.1 hx).1
  have hlA : (L.map (·.1)).length = L.length := List.length_map ..
  have hlB : (L.map (·.2)).length = L.length := List.length_map ..
  have hA : ∀ k, k < (L.map (·.1)).length → ((L.map (·.1)).getD k []).length = bSize (L.map (·.1)).length d r k := by
    intro k hk
    rw [hlA] at hk ⊢
    have := h1 k L[k] (List.getElem?_eq_getElem hk)
    rw [List.getD_eq_getElem?_getD, List.getElem?_map, List.getElem?_eq_getElem hk]
    exact this
  have hA2 : ∀ y ∈ L.map (·.1), d ≤ y.length := by
    intro y hy
    obtain ⟨k, hk⟩ := List.mem_iff_getElem?.1 hy
    have hkl := (List.getElem?_eq_some_iff.1 hk).1
    have := hA k hkl
    rw [List.getD_eq_getElem?_getD, hk] at this
    simp only [Option.getD_some] at this
    rw [this]; unfold bSize; split <;> omega
  have hB : ∀ y ∈ L.map (·.2), ec ≤ y.length := by
    intro y hy
    obtain ⟨z, hz, rfl⟩ := List.mem_map.1 hy
    rw [h2 z hz]; exact Nat.le_refl _
  have gx1 : (L.map (·.1)).getD j [] = x.1 := by rw [List.getD_eq_getElem?_getD, List.getElem?_map, hx]; rfl
  have gx2 : (L.map (·.2)).getD j [] = x.2 := by rw [List.getD_eq_getElem?_getD, List.getElem?_map, hx]; rfl
  have lx2 : x.2.length = ec := h2 x (List.mem_of_getElem? hx)
  have lx1 := h1 j x hx
  have hm2 : maxOf (L.map (·.2)) = ec := by
    refine maxOf_const _ _ (by rw [hlB]; omega) (fun y hy => ?_)
    obtain ⟨z, hz, rfl⟩ := List.mem_map.1 hy
    exact h2 z hz
  have hU := upW_all (L.map (·.1)) d r (by rw [hlA]; omega) (by rw [hlA]; exact hr) hA
  obtain ⟨u1, u2⟩ := upW_get (L.map (·.1)) d hA2 d (Nat.le_refl _)
  obtain ⟨v1, v2⟩ := upW_get (L.map (·.2)) ec hB ec (Nat.le_refl _)
  unfold interWords
  rw [hm2, hU]
  rw [hlA] at u1 u2 ⊢
  rw [hlB] at v1 v2
  generalize hUd : upW (L.map (·.1)) d = U at u1 u2
  generalize hVd : upW (L.map (·.2)) ec = V at v1 v2
  have hml : (((L.map (·.1)).drop (L.length - r)).map (fun x => x.getD d 0)).length = r := by
    rw [List.length_map, List.length_drop, hlA]; omega
  have hmg : ∀ k, k < r → (((L.map (·.1)).drop (L.length - r)).map (fun x => x.getD d 0)).getD k 0 = ((L.map (·.1)).getD (L.length - r + k) []).getD d 0 := by
    intro k hk
    have hkl : L.length - r + k < (L.map (·.1)).length := by rw [hlA]; omega
    rw [List.getD_eq_getElem?_getD, List.getElem?_map, List.getElem?_drop, List.getElem?_eq_getElem hkl, List.getD_eq_getElem?_getD (l := L.map (·.1)), List.getElem?_eq_getElem hkl]
    rfl
  generalize ((L.map (·.1)).drop (L.length - r)).map (fun x => x.getD d 0) = M at hml hmg
  refine ⟨by rw [List.length_append, List.length_append, u1, v1, hml, Nat.mul_comm d, Nat.mul_comm ec], ?_⟩
  have gU : ∀ k, k < d * L.length → (U ++ M ++ V).getD k 0 = U.getD k 0 := by
    intro k hk
    rw [List.getD_eq_getElem?_getD, List.getElem?_append_left (by rw [List.length_append, u1]; omega), List.getElem?_append_left (by rw [u1]; exact hk), ← List.getD_eq_getElem?_getD]
  have gM : ∀ k, k < r → (U ++ M ++ V).getD (d * L.length + k) 0 = M.getD k 0 := by
    intro k hk
    rw [List.getD_eq_getElem?_getD, List.getElem?_append_left (by rw [List.length_append, u1, hml]; omega), List.getElem?_append_right (by rw [u1]; omega), u1, Nat.add_sub_cancel_left, ← List.getD_eq_getElem?_getD]
  have gV : ∀ k, (U ++ M ++ V).getD (d * L.length + r + k) 0 = V.getD k 0 := by
    intro k
    rw [List.getD_eq_getElem?_getD, List.getElem?_append_right (by rw [List.length_append, u1, hml]; omega), List.length_append, u1, hml, Nat.add_sub_cancel_left, ← List.getD_eq_getElem?_getD]
  apply List.ext_getElem
  · simp only [blkW, List.length_map, List.length_range, List.length_append, lx1, lx2]
  · intro t ht1 ht2
    have ht : t < bSize L.length d r j + ec := by simpa [blkW] using ht1
    have hR : (x.1 ++ x.2)[t] = (x.1 ++ x.2).getD t 0 := by rw [List.getD_eq_getElem?_getD, List.getElem?_eq_getElem ht2]; rfl
    rw [hR]
    simp only [blkW, List.getElem_map, List.getElem_range]
    have hx1 : ∀ k, k < x.1.length → (x.1 ++ x.2).getD k 0 = x.1.getD k 0 := by
      intro k hk
      rw [List.getD_eq_getElem?_getD, List.getElem?_append_left hk, ← List.getD_eq_getElem?_getD]
    have hx2 : ∀ k, (x.1 ++ x.2).getD (x.1.length + k) 0 = x.2.getD k 0 := by
      intro k
      rw [List.getD_eq_getElem?_getD, List.getElem?_append_right (by omega), Nat.add_sub_cancel_left, ← List.getD_eq_getElem?_getD]
    have hb : bSize L.length d r j = if j < L.length - r then d else d + 1 := rfl
    unfold srcIx
    by_cases c1 : t < d
    · rw [if_pos c1, gU _ (by
        have : (t + 1) * L.length ≤ d * L.length := Nat.mul_le_mul_right _ (by omega)
        rw [Nat.succ_mul] at this
        omega), u2 t c1 j hj, gx1, hx1 t (by rw [lx1, hb]; split <;> omega)]
    · rw [if_neg c1]
      by_cases c2 : j < L.length - r
      · rw [if_pos c2]
        rw [if_pos c2] at hb
        have e1 : d * L.length + r + (t - d) * L.length + j = d * L.length + r + ((t - d) * L.length + j) := by omega
        rw [e1, gV, v2 (t - d) (by omega) j hj, gx2]
        have e2 := hx2 (t - d)
        rw [lx1, hb, show d + (t - d) = t by omega] at e2
        exact e2.symm
      · rw [if_neg c2]
        rw [if_neg c2] at hb
        by_cases c3 : t = d
        · rw [if_pos c3, gM _ (by omega), hmg _ (by omega), show L.length - r + (j - (L.length - r)) = j by omega, gx1, c3, hx1 d (by rw [lx1, hb]; omega)]
        · rw [if_neg c3]
          have e1 : d * L.length + r + (t - 1 - d) * L.length + j = d * L.length + r + ((t - 1 - d) * L.length + j) := by omega
          rw [e1, gV, v2 (t - 1 - d) (by omega) j hj, gx2]
          have e2 := hx2 (t - 1 - d)
          rw [lx1, hb, show d + 1 + (t - 1 - d) = t by omega] at e2
          exact e2.symm
end Go.Proofs.YtnpkihobbcglcaaGreatDoor
