/- Rows of modules in memory: a slice of slices of bools that grows. A BitMatrix in memory: rows of words hold the bits. The BitMatrix's methods walked. -/
import Derived.Test.YtnpkihobbcglcaaGreatDoorQ06
import Derived.Test.YtnpkihobbcglcaaGreatDoorQ08
import Derived.Test.YtnpkihobbcglcaaGreatDoorQ16
import Derived.Test.YtnpkihobbcglcaaGreatDoorQ17
set_option linter.unusedSimpArgs false
set_option linter.unusedVariables false

/- S1: Rows of modules in memory: a slice of slices of bools that grows. -/
namespace Go.Proofs.YtnpkihobbcglcaaGreatDoor
open Go Go.RowKit

def Bools (w : World) (b : Nat) (xs : List Bool) : Prop := Blk w b (xs.map Value.bool).toArray 4
theorem Bools.frm {S : Nat → Prop} {w w' : World} {b : Nat} {xs : List Bool} (h : Bools w b xs) (hf : Frm S w w') (hn : ¬ S b) : Bools w' b xs := Blk.frm h hf hn
theorem Bools.cell {w : World} {b : Nat} {xs : List Bool} (h : Bools w b xs) (i : Nat) (hi : i < xs.length) : w.cell? ⟨b, i, none⟩ = some (.bool (xs.getD i false)) := by
  rw [Blk.cell h, List.getD_eq_getElem?_getD]
  simp [hi]
theorem Bools.free {w : World} {b : Nat} {xs : List Bool} (h : Bools w b xs) (i : Nat) : w.frozen? ⟨b, i, none⟩ = false := Blk.free h i
theorem Bools.set {w : World} {b : Nat} {xs : List Bool} (h : Bools w b xs) (i : Nat) (v : Bool) : Bools (w.setCell ⟨b, i, none⟩ (.bool v)) b (xs.set i v) := by
  have := Blk.set h i (.bool v)
  unfold Bools
  rw [List.map_set]
  simpa using this
theorem Bools.new (w : World) (xs : List Bool) : Bools (w.alloc (.cells (xs.map Value.bool).toArray 4)) w.heap.size xs := Blk.new w _ 4

/-- A row filled from the left. -/
def rowP (f : Nat → Bool) (n k : Nat) : List Bool := (List.range n).map fun x => if x < k then f x else false
theorem rowP_len (f : Nat → Bool) (n k : Nat) : (rowP f n k).length = n := by simp [rowP]
theorem rowP_step (f : Nat → Bool) (n k : Nat) (_hk : k < n) : (rowP f n k).set k (f k) = rowP f n (k + 1) := by
  apply List.ext_getElem
  · simp [rowP]
  · intro i h1 h2
    rw [List.getElem_set]
    simp only [rowP, List.getElem_map, List.getElem_range]
    split
    · rename_i h; subst h; rw [if_pos (by omega)]
    · rename_i h
      by_cases hi : i < k
      · rw [if_pos hi, if_pos (by omega)]
      · rw [if_neg hi, if_neg (by omega)]
theorem rowP_zero (f : Nat → Bool) (n : Nat) : rowP f n 0 = List.replicate n false := by
  apply List.ext_getElem
  · simp [rowP]
  · intro i h1 h2; simp [rowP]
theorem rowP_all (f : Nat → Bool) (n : Nat) : rowP f n n = (List.range n).map f := by
  unfold rowP
  apply List.map_congr_left
  intro x hx
  rw [if_pos (List.mem_range.1 hx)]

/-- The value S is a slice of the rows R. -/
def SliceOf (w : World) (S : Value) (R : List (List Bool)) : Prop :=
  (R = [] ∧ S = .slice none 0 0) ∨ ∃ g cap vs, S = .slice (some ⟨g, 0, none⟩) R.length cap ∧ Row w 56 g R.length cap vs ∧ ∀ (j : Nat) (r : List Bool), R[j]? = some r → ∃ b, vs[j]? = some (Value.slice (some ⟨b, 0, none⟩) r.length r.length) ∧ Bools w b r
theorem SliceOf.nil (w : World) : SliceOf w (.slice none 0 0) [] := .inl ⟨rfl, rfl⟩
/-- Nothing of S is a row of modules, or a row of rows. -/
def Apart (w : World) (S : Nat → Prop) : Prop := ∀ k, S k → ∃ cs T, Blk w k cs T ∧ T ≠ 4 ∧ T ≠ 56
theorem SliceOf.frm {P : Nat → Prop} {w w' : World} {S : Value} {R : List (List Bool)} (h : SliceOf w S R) (hf : Frm P w w') (ho : Apart w P) : SliceOf w' S R := by
  rcases h with h | ⟨g, cap, vs, h1, h2, h3⟩
  · exact .inl h
  · refine .inr ⟨g, cap, vs, h1, h2.frm hf ?_, fun j r hj => ?_⟩
    · intro hp
      obtain ⟨cs, T, hb, _, hT⟩ := ho g hp
      obtain ⟨cur, hg, _⟩ := h2.cells
      exact hb.ne hg hT rfl
    · obtain ⟨b, hb1, hb2⟩ := h3 j r hj
      refine ⟨b, hb1, hb2.frm hf ?_⟩
      intro hp
      obtain ⟨cs, T, hb, hT, _⟩ := ho b hp
      exact hb.ne hb2 hT rfl
theorem SliceOf.kept {w w' : World} {S : Value} {R : List (List Bool)} (h : SliceOf w S R) (hf : Kept w w') : SliceOf w' S R := h.frm hf (fun _ h => h.elim)

/-- One row more. -/
theorem SliceOf.push {w : World} {S : Value} {R : List (List Bool)} {b : Nat} {r : List Bool} (h : SliceOf w S R) (hb : Bools w b r) (hl : R.length ≤ 1000) :
    ∃ g' cap' w', (Builtin.append_ #[24, 24] 24 #[S, .slice (some ⟨w.heap.size, 0, none⟩) 1 1]).run Tryz.prog (w.alloc (.cells #[.slice (some ⟨b, 0, none⟩) r.length r.length] 56)) = .ok (.slice (some ⟨g', 0, none⟩) (R.length + 1) cap') w' ∧ SliceOf w' (.slice (some ⟨g', 0, none⟩) (R.length + 1) cap') (R ++ [r]) ∧
      Frm (fun k => S.ownBlock = some k) w w' ∧ (∀ k, S.ownBlock = some k → ∃ cur, Blk w k cur 56) ∧ (S.ownBlock = some g' ∨ w.heap.size ≤ g') := by
  rcases h with ⟨rfl, rfl⟩ | ⟨g, cap, vs, rfl, h2, h3⟩
  · obtain ⟨g', cap', w', hr, hrow, hk, hgn⟩ := run_append_nil1 24 24 56 (.slice none 0 0) 24 (by kernel_rfl) info56 rfl (w := w) (.slice (some ⟨b, 0, none⟩) r.length r.length) rfl (by omega)
    refine ⟨g', cap', w', hr, .inr ⟨g', cap', _, rfl, hrow, ?_⟩, hk.toFrm, fun k hk => by simp [Value.ownBlock] at hk, .inr hgn⟩
    intro j x hj
    match j with
    | 0 => simp at hj; subst hj; exact ⟨b, rfl, hb.frm hk (fun h => h)⟩
    | j + 1 => simp at hj
  · obtain ⟨g', cap', w', hr, hrow, hf, hg'⟩ := run_append_row1 24 24 56 (.slice none 0 0) 24 (by kernel_rfl) info56 rfl h2 (.slice (some ⟨b, 0, none⟩) r.length r.length) rfl (by unfold maxLen; omega) (by omega)
    obtain ⟨cur, hg, _⟩ := h2.cells
    have hlen : (R ++ [r]).length = R.length + 1 := by simp
    refine ⟨g', cap', w', hr, .inr ⟨g', cap', _, by rw [hlen], by rw [hlen]; exact hrow, ?_⟩, hf.mono (fun k _ h => by simp [Value.ownBlock, h]), fun k hk => ?_, ?_⟩
    · intro j x hj
      by_cases hjl : j < R.length
      · rw [List.getElem?_append_left hjl] at hj
        obtain ⟨c, hc1, hc2⟩ := h3 j x hj
        refine ⟨c, by rw [List.getElem?_append_left (by rw [h2.len]; exact hjl)]; exact hc1, hc2.frm hf ?_⟩
        exact Blk.ne hc2 hg (by decide)
      · rw [List.getElem?_append_right (by omega)] at hj
        have hj0 : j - R.length = 0 := by
          cases hz : j - R.length with
          | zero => rfl
          | succ m => rw [hz] at hj; simp at hj
        rw [hj0] at hj
        simp at hj
        subst hj
        refine ⟨b, ?_, hb.frm hf (Blk.ne hb hg (by decide))⟩
        rw [List.getElem?_append_right (by rw [h2.len]; omega), h2.len, hj0]
        rfl
    · simp [Value.ownBlock] at hk
      subst hk
      exact ⟨cur, hg⟩
    · rcases hg' with h | h
      · left; simp [Value.ownBlock, h]
      · exact .inr h
end Go.Proofs.YtnpkihobbcglcaaGreatDoor

/- X1: A BitMatrix in memory: rows of words hold the bits. -/
namespace Go.Proofs.YtnpkihobbcglcaaGreatDoor
open Go Go.RowKit

def rsz (W : Nat) : Nat := (W + 31) / 32
/-- Rows of words hold the bits of a picture. -/
structure WB (ws : List Nat) (W H : Nat) (f : Nat → Nat → Bool) : Prop where
  len : ws.length = rsz W * H
  lt : ∀ i, ws.getD i 0 < 4294967296
  bit : ∀ x y, x < W → y < H → (ws.getD (y * rsz W + x / 32) 0).testBit (x % 32) = f x y
theorem WB.ix {W H x y : Nat} (hx : x < W) (hy : y < H) : x / 32 < rsz W ∧ y * rsz W + x / 32 < rsz W * H := by
  have h1 : x / 32 < rsz W := by unfold rsz; omega
  refine ⟨h1, ?_⟩
  have : (y + 1) * rsz W ≤ H * rsz W := Nat.mul_le_mul_right _ (by omega)
  rw [Nat.succ_mul, Nat.mul_comm H] at this
  omega
theorem ix_inj {r a b c d : Nat} (ha : a < r) (hc : c < r) (h : b * r + a = d * r + c) : a = c ∧ b = d := by
  have h1 : (b * r + a) / r = (d * r + c) / r := by rw [h]
  have h2 : (b * r + a) / r = b := by rw [Nat.mul_comm, Nat.mul_add_div (by omega), Nat.div_eq_of_lt ha]; omega
  have h3 : (d * r + c) / r = d := by rw [Nat.mul_comm, Nat.mul_add_div (by omega), Nat.div_eq_of_lt hc]; omega
  rw [h2, h3] at h1
  subst h1
  exact ⟨by omega, rfl⟩
theorem WB.upd {ws : List Nat} {W H : Nat} {f : Nat → Nat → Bool} (h : WB ws W H f) (x y v : Nat) (c : Bool) (hx : x < W) (hy : y < H) (hv : v < 4294967296)
    (h1 : ∀ k, k < 32 → v.testBit k = if k = x % 32 then c else (ws.getD (y * rsz W + x / 32) 0).testBit k) :
    WB (ws.set (y * rsz W + x / 32) v) W H (fun a b => if a = x ∧ b = y then c else f a b) := by
  obtain ⟨i1, i2⟩ := WB.ix hx hy
  refine ⟨by rw [List.length_set]; exact h.len, fun i => ?_, fun a b ha hb => ?_⟩
  · rw [List.getD_eq_getElem?_getD, List.getElem?_set]
    split
    · split
      · exact hv
      · decide
    · have := h.lt i; rw [List.getD_eq_getElem?_getD] at this; exact this
  · obtain ⟨j1, j2⟩ := WB.ix ha hb
    rw [List.getD_eq_getElem?_getD, List.getElem?_set]
    by_cases e : y * rsz W + x / 32 = b * rsz W + a / 32
    · obtain ⟨e1, e2⟩ := ix_inj i1 j1 e
      subst e2
      rw [if_pos e, if_pos (by rw [h.len]; exact i2), Option.getD_some, h1 _ (by omega)]
      by_cases e3 : a % 32 = x % 32
      · rw [if_pos e3, if_pos ⟨by omega, rfl⟩]
      · rw [if_neg e3, if_neg (by rintro ⟨rfl, _⟩; exact e3 rfl), e, h.bit a y ha hb]
    · rw [if_neg e, ← List.getD_eq_getElem?_getD, h.bit a b ha hb, if_neg (by rintro ⟨rfl, rfl⟩; exact e rfl)]
theorem WB.or {ws : List Nat} {W H : Nat} {f : Nat → Nat → Bool} (h : WB ws W H f) (x y : Nat) (hx : x < W) (hy : y < H) :
    WB (ws.set (y * rsz W + x / 32) (ws.getD (y * rsz W + x / 32) 0 ||| 2 ^ (x % 32))) W H (fun a b => if a = x ∧ b = y then true else f a b) := by
  refine h.upd x y _ true hx hy ?_ ?_
  · exact Nat.or_lt_two_pow (n := 32) (h.lt _) (Nat.pow_lt_pow_right (by omega) (by omega))
  · intro k hk
    rw [Nat.testBit_or, Nat.testBit_two_pow]
    by_cases e : k = x % 32
    · simp [e]
    · simp [e, Ne.symm e]
theorem WB.xor {ws : List Nat} {W H : Nat} {f : Nat → Nat → Bool} (h : WB ws W H f) (x y : Nat) (hx : x < W) (hy : y < H) :
    WB (ws.set (y * rsz W + x / 32) (ws.getD (y * rsz W + x / 32) 0 ^^^ 2 ^ (x % 32))) W H (fun a b => if a = x ∧ b = y then !f x y else f a b) := by
  have hb := h.bit x y hx hy
  refine h.upd x y _ (!f x y) hx hy ?_ ?_
  · exact Nat.xor_lt_two_pow (n := 32) (h.lt _) (Nat.pow_lt_pow_right (by omega) (by omega))
  · intro k hk
    rw [Nat.testBit_xor, Nat.testBit_two_pow]
    by_cases e : k = x % 32
    · subst e; rw [hb]; simp
    · simp [e, Ne.symm e]
theorem WB.new (W H : Nat) : WB (List.replicate (rsz W * H) 0) W H (fun _ _ => false) := by
  have hz : ∀ i, (List.replicate (rsz W * H) 0).getD i 0 = 0 := by
    intro i; simp [List.getD_eq_getElem?_getD, List.getElem?_replicate]; split <;> rfl
  exact ⟨by simp, fun i => by rw [hz]; decide, fun x y _ _ => by rw [hz]; simp⟩
theorem WB.congr {ws : List Nat} {W H : Nat} {f g : Nat → Nat → Bool} (h : WB ws W H f) (e : ∀ x y, x < W → y < H → f x y = g x y) : WB ws W H g :=
  ⟨h.len, h.lt, fun x y hx hy => (h.bit x y hx hy).trans (e x y hx hy)⟩

/-- The object at p, its words at b: W bits wide, H high. -/
structure BX (w : World) (p b W H : Nat) (f : Nat → Nat → Bool) : Prop where
  ex : ∃ ws, Blk w p #[.int .i64 W, .int .i64 H, .int .i64 (rsz W : Nat), .slice (some ⟨b, 0, none⟩) ws.length ws.length] 239 ∧ Nats w b .u32 204 ws ∧ WB ws W H f
theorem BX.congr {w : World} {p b W H : Nat} {f g : Nat → Nat → Bool} (h : BX w p b W H f) (e : ∀ x y, x < W → y < H → f x y = g x y) : BX w p b W H g :=
  let ⟨ws, h1, h2, h3⟩ := h.ex; ⟨ws, h1, h2, h3.congr e⟩
theorem BX.frm {S : Nat → Prop} {w w' : World} {p b W H : Nat} {f : Nat → Nat → Bool} (h : BX w p b W H f) (hf : Frm S w w') (hp : ¬ S p) (hb : ¬ S b) : BX w' p b W H f :=
  let ⟨ws, h1, h2, h3⟩ := h.ex; ⟨ws, h1.frm hf hp, h2.frm hf hb, h3⟩
theorem BX.kept {w w' : World} {p b W H : Nat} {f : Nat → Nat → Bool} (h : BX w p b W H f) (hf : Kept w w') : BX w' p b W H f := h.frm hf (fun h => h) (fun h => h)
theorem BX.ne {w : World} {p b W H : Nat} {f : Nat → Nat → Bool} (h : BX w p b W H f) : p ≠ b := by
  obtain ⟨ws, h1, h2, h3⟩ := h.ex
  exact Blk.ne h1 h2 (by decide)
theorem BX.lt {w : World} {p b W H : Nat} {f : Nat → Nat → Bool} (h : BX w p b W H f) : p < w.heap.size ∧ b < w.heap.size := by
  obtain ⟨ws, h1, h2, h3⟩ := h.ex
  exact ⟨h1.lt, h2.lt⟩
end Go.Proofs.YtnpkihobbcglcaaGreatDoor

/- X2: The BitMatrix's methods walked. -/
namespace Go.Proofs.YtnpkihobbcglcaaGreatDoor
open Go Go.RowKit

theorem bxWidth (p b W H : Nat) (f : Nat → Nat → Bool) (w : World) (h : BX w p b W H f) : Calls Tryz.prog 115 #[.pointer (some ⟨p, 0, none⟩)] w fun e w' => e = .returned (.int .i64 W) ∧ w = w' := by
  obtain ⟨ws, h1, h2, h3⟩ := h.ex
  have c0 := h1.cell 0
  simp only [List.getElem?_toArray, List.getElem?_cons_zero] at c0
  clear h h1 h2 h3
  go_enter Tryz.func115, Tryz.ntmps115
  go_wp2
  go_ret
  exact ⟨rfl, rfl⟩
theorem bxHeight (p b W H : Nat) (f : Nat → Nat → Bool) (w : World) (h : BX w p b W H f) : Calls Tryz.prog 114 #[.pointer (some ⟨p, 0, none⟩)] w fun e w' => e = .returned (.int .i64 H) ∧ w = w' := by
  obtain ⟨ws, h1, h2, h3⟩ := h.ex
  have c1 := h1.cell 1
  simp only [List.getElem?_toArray, List.getElem?_cons_zero, List.getElem?_cons_succ] at c1
  clear h h1 h2 h3
  go_enter Tryz.func114, Tryz.ntmps114
  go_wp2
  go_ret
  exact ⟨rfl, rfl⟩

theorem bxNew (W H : Nat) (w : World) (hW : 1 ≤ W) (hH : 1 ≤ H) (hWb : W ≤ 400) (hHb : H ≤ 400) :
    Calls Tryz.prog 147 #[.int .i64 W, .int .i64 H] w fun e w' => ∃ p b, e = .returned (.tuple #[.pointer (some ⟨p, 0, none⟩), .nilIface]) ∧ BX w' p b W H (fun _ _ => false) ∧ Kept w w' ∧ w.heap.size ≤ p ∧ w.heap.size ≤ b := by
  have hrs : rsz W ≤ 13 := by unfold rsz; omega
  obtain ⟨N, hN⟩ : ∃ N, rsz W * H = N := ⟨_, rfl⟩
  have hNb : N ≤ 5200 := by rw [← hN]; exact Nat.le_trans (Nat.mul_le_mul hrs hHb) (by omega)
  have hwb := WB.new W H
  rw [hN] at hwb
  obtain ⟨r, hr⟩ : ∃ r, rsz W = r := ⟨_, rfl⟩
  rw [hr] at hN hrs
  have hNi : (r : Int) * H = N := by rw [← hN, Int.natCast_mul]
  have hri : ((W : Int) + 31).tdiv 32 = (r : Int) := by
    rw [← hr]; exact (Int.ofNat_tdiv (W + 31) 32).symm
  have hmk := run_make_ints 151 204 .u32 4 Tryz.underlying151 info204 N (by omega) (by omega) w
  have hz := Nats.new w .u32 204 (List.replicate N 0)
  have kz : Kept w (w.alloc (.cells (natCells .u32 (List.replicate N 0)) 204)) := (Frm.refl _ _).alloc _
  have d1 : decide ((W : Int) < 1) = false := by simp; omega
  have d2 : decide ((H : Int) < 1) = false := by simp; omega
  have w1 : IntKind.i64.wrap (N : Int) = N := by rw [IntKind.wrap_i64]; omega
  have hl : (List.replicate N 0).length = N := List.length_replicate
  have HR := Lib.hid hr
  have HWB := Lib.hid hwb
  have HL := Lib.hid hl
  clear hN hr hwb hl
  go_enter Tryz.func147, Tryz.ntmps147
  go_wp2_with fail
  have hb := Blk.new (w.alloc (.cells (natCells .u32 (List.replicate N 0)) 204)) #[.int .i64 W, .int .i64 H, .int .i64 r, .slice (some ⟨w.heap.size, 0, none⟩) N N] 239
  have hz2 := hz.alloc (.cells #[.int .i64 W, .int .i64 H, .int .i64 r, .slice (some ⟨w.heap.size, 0, none⟩) N N] 239)
  have k2 := kz.alloc (.cells #[.int .i64 W, .int .i64 H, .int .i64 r, .slice (some ⟨w.heap.size, 0, none⟩) N N] 239)
  go_ret2
  refine ⟨w.heap.size + 1, w.heap.size, rfl, ⟨List.replicate N 0, ?_, hz2, HWB.out⟩, k2, by omega, Nat.le_refl _⟩
  rw [HR.out, HL.out]
  simpa using hb

theorem shr_test (v m : Nat) (hv : v < 4294967296) : (bits .and .u32 ((v : Int) / 2 ^ m) 1 != 0) = v.testBit m := by
  have e : ((v : Int) / 2 ^ m) = ((v / 2 ^ m : Nat) : Int) := by push_cast; rfl
  have h := u32_and_nat (v / 2 ^ m) 1 (Nat.lt_of_le_of_lt (Nat.div_le_self _ _) hv) (by omega)
  rw [e]
  rw [show ((1 : Nat) : Int) = 1 from rfl] at h
  rw [h, Nat.and_one_is_mod, Nat.testBit_eq_decide_div_mod_eq]
  rcases Nat.mod_two_eq_zero_or_one (v / 2 ^ m) with h | h <;> rw [h] <;> rfl

theorem bxGet (p b W H x y : Nat) (f : Nat → Nat → Bool) (w : World) (h : BX w p b W H f) (hx : x < W) (hy : y < H) (hWb : W ≤ 400) (hHb : H ≤ 400) :
    Calls Tryz.prog 116 #[.pointer (some ⟨p, 0, none⟩), .int .i64 x, .int .i64 y] w fun e w' => e = .returned (.bool (f x y)) ∧ w = w' := by
  obtain ⟨ws, h1, h2, h3⟩ := h.ex
  have c0 := h1.cell 0
  have c1 := h1.cell 1
  have c2 := h1.cell 2
  have c3 := h1.cell 3
  simp only [List.getElem?_toArray, List.getElem?_cons_zero, List.getElem?_cons_succ] at c0 c1 c2 c3
  obtain ⟨i1, i2⟩ := WB.ix hx hy
  rw [← h3.len] at i2
  have ht := shr_test (ws.getD (y * rsz W + x / 32) 0) (x % 32) (h3.lt _)
  rw [h3.bit x y hx hy] at ht
  have cw := h2.cell _ i2
  have hrs : rsz W ≤ 13 := by unfold rsz; omega
  have hlen : ws.length ≤ 5200 := by rw [h3.len]; exact Nat.le_trans (Nat.mul_le_mul hrs hHb) (by omega)
  generalize ws.getD (y * rsz W + x / 32) 0 = v at ht cw
  obtain ⟨A, hA⟩ : ∃ A, y * rsz W = A := ⟨_, rfl⟩
  rw [hA] at i2 cw
  generalize rsz W = r at c2 hA i1
  have hAi : (y : Int) * r = A := by rw [← hA, Int.natCast_mul]
  generalize ws.length = L at *
  have e1 : (x : Int).tdiv 32 = ((x / 32 : Nat) : Int) := (Int.ofNat_tdiv x 32).symm
  have e2 : (x : Int).tmod 32 = ((x % 32 : Nat) : Int) := (Int.ofNat_tmod x 32).symm
  have d1 : decide ((x : Int) < 0) = false := by simp
  have d2 : decide ((W : Int) ≤ x) = false := by simp; omega
  have d3 : decide ((y : Int) < 0) = false := by simp
  have d4 : decide ((H : Int) ≤ y) = false := by simp; omega
  generalize hQ : x / 32 = q at *
  have hm : x % 32 < 32 := Nat.mod_lt _ (by omega)
  generalize hM : x % 32 = m at *
  have HT := Lib.hid ht
  clear h h1 h2 h3 hA hQ hM ht
  go_enter Tryz.func116, Tryz.ntmps116
  go_wp2_with fail
  go_ret
  rw [HT.out]
  exact ⟨rfl, rfl⟩

theorem xor_word (a k : Nat) (ha : a < 4294967296) (hk : k < 32) : bits .xor .u32 (a : Int) (2 ^ k % 4294967296) = ((a ^^^ 2 ^ k : Nat) : Int) := by
  have h := shl_mod k hk
  have e : ((2 : Int) ^ k % 4294967296) = ((2 ^ k : Nat) : Int) := by rw [← h]; simp
  have hx : a ^^^ 2 ^ k < 2 ^ 32 := Nat.xor_lt_two_pow (n := 32) ha (Nat.pow_lt_pow_right (a := 2) (m := k) (n := 32) (by omega) hk)
  have hp := Nat.pow_lt_pow_right (a := 2) (m := k) (n := 32) (by omega) hk
  rw [e]
  show IntKind.u32.wrap ((BitVec.ofInt 32 (a : Int) ^^^ BitVec.ofInt 32 ((2 ^ k : Nat) : Int)).toNat : Int) = _
  have o : ∀ n : Nat, n < 2 ^ 32 → (BitVec.ofInt 32 (n : Int)).toNat = n := fun n hn => by
    rw [BitVec.ofInt_natCast, BitVec.toNat_ofNat]; exact Nat.mod_eq_of_lt hn
  rw [BitVec.toNat_xor, o a ha, o _ hp]
  generalize a ^^^ 2 ^ k = z at hx
  show ((z : Int) % 4294967296) = _
  omega

theorem bxSet (p b W H x y : Nat) (f : Nat → Nat → Bool) (w : World) (h : BX w p b W H f) (hx : x < W) (hy : y < H) (hWb : W ≤ 400) (hHb : H ≤ 400) :
    Calls Tryz.prog 148 #[.pointer (some ⟨p, 0, none⟩), .int .i64 x, .int .i64 y] w fun e w' => e = .returned (.tuple #[]) ∧ BX w' p b W H (fun a b => if a = x ∧ b = y then true else f a b) ∧ Frm (fun k => k = b) w w' := by
  obtain ⟨ws, h1, h2, h3⟩ := h.ex
  have c0 := h1.cell 0
  have c1 := h1.cell 1
  have c2 := h1.cell 2
  have c3 := h1.cell 3
  simp only [List.getElem?_toArray, List.getElem?_cons_zero, List.getElem?_cons_succ] at c0 c1 c2 c3
  obtain ⟨i1, i2⟩ := WB.ix hx hy
  rw [← h3.len] at i2
  have cw := h2.cell _ i2
  have fw := h2.free (y * rsz W + x / 32)
  have hor := or_word (ws.getD (y * rsz W + x / 32) 0) (x % 32) (h3.lt _) (by omega)
  have hset := h3.or x y hx hy
  have hwd := h2.set (y * rsz W + x / 32) (ws.getD (y * rsz W + x / 32) 0 ||| 2 ^ (x % 32))
  have hob := h1.setOther (a := ⟨b, y * rsz W + x / 32, none⟩) (Blk.ne h1 h2 (by decide)) (.int .u32 ((ws.getD (y * rsz W + x / 32) 0 ||| 2 ^ (x % 32) : Nat) : Int))
  have hfr : Frm (fun k => k = b) w (w.setCell ⟨b, y * rsz W + x / 32, none⟩ (.int .u32 ((ws.getD (y * rsz W + x / 32) 0 ||| 2 ^ (x % 32) : Nat) : Int))) := (Frm.refl (fun k => k = b) w).setCell (p := ⟨b, y * rsz W + x / 32, none⟩) (.inl rfl) _
  rw [← hor] at hob hwd hfr
  have HRES : RowKit.Hid (BX (w.setCell ⟨b, y * rsz W + x / 32, none⟩ (.int .u32 (bits .or .u32 ((ws.getD (y * rsz W + x / 32) 0 : Nat) : Int) (2 ^ (x % 32) % 4294967296)))) p b W H (fun a b => if a = x ∧ b = y then true else f a b)) := Lib.hid ⟨_, by rw [List.length_set]; exact hob, hwd, hset⟩
  have HFR := Lib.hid hfr
  clear hob hwd hset hfr hor
  have hrs : rsz W ≤ 13 := by unfold rsz; omega
  have hlen : ws.length ≤ 5200 := by rw [h3.len]; exact Nat.le_trans (Nat.mul_le_mul hrs hHb) (by omega)
  generalize ws.getD (y * rsz W + x / 32) 0 = v at cw HRES HFR
  obtain ⟨A, hA⟩ : ∃ A, y * rsz W = A := ⟨_, rfl⟩
  rw [hA] at i2 cw fw HRES HFR
  generalize rsz W = r at c2 hA i1
  have hAi : (y : Int) * r = A := by rw [← hA, Int.natCast_mul]
  generalize ws.length = L at *
  have e1 : (x : Int).tdiv 32 = ((x / 32 : Nat) : Int) := (Int.ofNat_tdiv x 32).symm
  have e2 : (x : Int).tmod 32 = ((x % 32 : Nat) : Int) := (Int.ofNat_tmod x 32).symm
  generalize hQ : x / 32 = q at *
  have hm : x % 32 < 32 := Nat.mod_lt _ (by omega)
  generalize hM : x % 32 = m at *
  clear h h1 h2 h3 hA hQ hM
  go_enter Tryz.func148, Tryz.ntmps148
  go_wp2_with fail
  go_end0
  exact ⟨rfl, HRES.out, HFR.out⟩

theorem bxFlip (p b W H x y : Nat) (f : Nat → Nat → Bool) (w : World) (h : BX w p b W H f) (hx : x < W) (hy : y < H) (hWb : W ≤ 400) (hHb : H ≤ 400) :
    Calls Tryz.prog 196 #[.pointer (some ⟨p, 0, none⟩), .int .i64 x, .int .i64 y] w fun e w' => e = .returned (.tuple #[]) ∧ BX w' p b W H (fun a b => if a = x ∧ b = y then !f x y else f a b) ∧ Frm (fun k => k = b) w w' := by
  obtain ⟨ws, h1, h2, h3⟩ := h.ex
  have c0 := h1.cell 0
  have c1 := h1.cell 1
  have c2 := h1.cell 2
  have c3 := h1.cell 3
  simp only [List.getElem?_toArray, List.getElem?_cons_zero, List.getElem?_cons_succ] at c0 c1 c2 c3
  obtain ⟨i1, i2⟩ := WB.ix hx hy
  rw [← h3.len] at i2
  have cw := h2.cell _ i2
  have fw := h2.free (y * rsz W + x / 32)
  have hor := xor_word (ws.getD (y * rsz W + x / 32) 0) (x % 32) (h3.lt _) (by omega)
  have hset := h3.xor x y hx hy
  have hwd := h2.set (y * rsz W + x / 32) (ws.getD (y * rsz W + x / 32) 0 ^^^ 2 ^ (x % 32))
  have hob := h1.setOther (a := ⟨b, y * rsz W + x / 32, none⟩) (Blk.ne h1 h2 (by decide)) (.int .u32 ((ws.getD (y * rsz W + x / 32) 0 ^^^ 2 ^ (x % 32) : Nat) : Int))
  have hfr : Frm (fun k => k = b) w (w.setCell ⟨b, y * rsz W + x / 32, none⟩ (.int .u32 ((ws.getD (y * rsz W + x / 32) 0 ^^^ 2 ^ (x % 32) : Nat) : Int))) := (Frm.refl (fun k => k = b) w).setCell (p := ⟨b, y * rsz W + x / 32, none⟩) (.inl rfl) _
  rw [← hor] at hob hwd hfr
  have HRES : RowKit.Hid (BX (w.setCell ⟨b, y * rsz W + x / 32, none⟩ (.int .u32 (bits .xor .u32 ((ws.getD (y * rsz W + x / 32) 0 : Nat) : Int) (2 ^ (x % 32) % 4294967296)))) p b W H (fun a b => if a = x ∧ b = y then !f x y else f a b)) := Lib.hid ⟨_, by rw [List.length_set]; exact hob, hwd, hset⟩
  have HFR := Lib.hid hfr
  clear hob hwd hset hfr hor
  have hrs : rsz W ≤ 13 := by unfold rsz; omega
  have hlen : ws.length ≤ 5200 := by rw [h3.len]; exact Nat.le_trans (Nat.mul_le_mul hrs hHb) (by omega)
  generalize ws.getD (y * rsz W + x / 32) 0 = v at cw HRES HFR
  obtain ⟨A, hA⟩ : ∃ A, y * rsz W = A := ⟨_, rfl⟩
  rw [hA] at i2 cw fw HRES HFR
  generalize rsz W = r at c2 hA i1
  have hAi : (y : Int) * r = A := by rw [← hA, Int.natCast_mul]
  generalize ws.length = L at *
  have e1 : (x : Int).tdiv 32 = ((x / 32 : Nat) : Int) := (Int.ofNat_tdiv x 32).symm
  have e2 : (x : Int).tmod 32 = ((x % 32 : Nat) : Int) := (Int.ofNat_tmod x 32).symm
  generalize hQ : x / 32 = q at *
  have hm : x % 32 < 32 := Nat.mod_lt _ (by omega)
  generalize hM : x % 32 = m at *
  clear h h1 h2 h3 hA hQ hM
  go_enter Tryz.func196, Tryz.ntmps196
  go_wp2_with fail
  go_end0
  exact ⟨rfl, HRES.out, HFR.out⟩
end Go.Proofs.YtnpkihobbcglcaaGreatDoor
