/- No hints: lookups in an empty map; the QR code's object. What the encoder makes of a text: the plain statement. The message's bits read again. No program in sight. -/
import Derived.Test.YtnpkihobbcglcaaGreatDoorQ12
import Derived.Test.YtnpkihobbcglcaaGreatDoorQ19
import Derived.Test.YtnpkihobbcglcaaGreatDoorQ23
import Derived.MapKept
set_option linter.unusedSimpArgs false
set_option linter.unusedVariables false

/- K1: No hints: lookups in an empty map; the QR code's object. -/
namespace Go.Proofs.YtnpkihobbcglcaaGreatDoor
open Go Go.RowKit

theorem look_empty (mb c : Nat) (k : Int) (w : World) (h : w.heap[mb]? = some (.map #[] c)) :
    (Instr.lookup 40 (.map (some mb)) (.int .i64 k) true).run Tryz.prog w = .ok (.tuple #[.nilIface, .bool false]) w := by
  have hu : Tryz.prog.underlying 40 = some (.map 41 20) := by kernel_rfl
  have hk : Tryz.prog.underlying 41 = some (.int .i64) := by kernel_rfl
  have hz : (Tryz.prog.info? 20).bind (·.zero) = some .nilIface := by kernel_rfl
  obtain ⟨i, hi, hz2⟩ := Option.bind_eq_some_iff.1 hz
  have hck : (Instr.checkKey true 10000 41 (.int .i64 k)).run Tryz.prog w = .ok () w := MapKept.run_checkKey hk (by simp [MapKept.IsKey]) true 9999
  have hzv : (zeroValue 20).run Tryz.prog w = .ok .nilIface w := by simp [zeroValue, typeInfo, hi, hz2]
  have hfk : (Instr.findKey 41 (.int .i64 k) []).run Tryz.prog w = .ok none w := MapKept.run_findKey hk rfl
  have hgo : (getObj mb).run Tryz.prog w = .ok (.map #[] c) w := MapKept.run_getObj_map h
  unfold Instr.lookup
  simp only [Sem.run_bind, run_underlying hu, Result.andThen_ok, hgo, Sem.run_pure, Array.isEmpty_empty, hck, Array.toList_empty, hfk, hzv]
  rfl

theorem setEC (p l : Nat) (a b c d e : Value) (w : World) (h : Blk w p #[a, b, c, d, e] 116) : Calls Tryz.prog 54 #[.pointer (some ⟨p, 0, none⟩), .int .i64 l] w fun r w' => r = .returned (.tuple #[]) ∧ Blk w' p #[a, .int .i64 l, c, d, e] 116 ∧ Frm (fun k => k = p) w w' := by
  have c1 := h.cell 1
  have f1 := h.free 1
  simp at c1
  have hs := h.set 1 (.int .i64 l)
  have HS := Lib.hid hs
  have hf : Frm (fun k => k = p) w (w.setCell ⟨p, 1, none⟩ (.int .i64 l)) := (Frm.refl (fun k => k = p) w).setCell (p := ⟨p, 1, none⟩) (.inl rfl) _
  have HF := Lib.hid hf
  clear h hs hf
  go_enter Tryz.func54, Tryz.ntmps54
  go_wp2
  go_end0
  exact ⟨rfl, HS.out, HF.out⟩
theorem setMode (p l : Nat) (a b c d e : Value) (w : World) (h : Blk w p #[a, b, c, d, e] 116) : Calls Tryz.prog 55 #[.pointer (some ⟨p, 0, none⟩), .int .i64 l] w fun r w' => r = .returned (.tuple #[]) ∧ Blk w' p #[.int .i64 l, b, c, d, e] 116 ∧ Frm (fun k => k = p) w w' := by
  have c1 := h.cell 0
  have f1 := h.free 0
  simp at c1
  have hs := h.set 0 (.int .i64 l)
  have HS := Lib.hid hs
  have hf : Frm (fun k => k = p) w (w.setCell ⟨p, 0, none⟩ (.int .i64 l)) := (Frm.refl (fun k => k = p) w).setCell (p := ⟨p, 0, none⟩) (.inl rfl) _
  have HF := Lib.hid hf
  clear h hs hf
  go_enter Tryz.func55, Tryz.ntmps55
  go_wp2
  go_end0
  exact ⟨rfl, HS.out, HF.out⟩
theorem setVersion (p l : Nat) (a b c d e : Value) (w : World) (h : Blk w p #[a, b, c, d, e] 116) : Calls Tryz.prog 56 #[.pointer (some ⟨p, 0, none⟩), .pointer (some ⟨l, 0, none⟩)] w fun r w' => r = .returned (.tuple #[]) ∧ Blk w' p #[a, b, .pointer (some ⟨l, 0, none⟩), d, e] 116 ∧ Frm (fun k => k = p) w w' := by
  have c1 := h.cell 2
  have f1 := h.free 2
  simp at c1
  have hs := h.set 2 (.pointer (some ⟨l, 0, none⟩))
  have HS := Lib.hid hs
  have hf : Frm (fun k => k = p) w (w.setCell ⟨p, 2, none⟩ (.pointer (some ⟨l, 0, none⟩))) := (Frm.refl (fun k => k = p) w).setCell (p := ⟨p, 2, none⟩) (.inl rfl) _
  have HF := Lib.hid hf
  clear h hs hf
  go_enter Tryz.func56, Tryz.ntmps56
  go_wp2
  go_end0
  exact ⟨rfl, HS.out, HF.out⟩
theorem setMask (p l : Nat) (a b c d e : Value) (w : World) (h : Blk w p #[a, b, c, d, e] 116) : Calls Tryz.prog 61 #[.pointer (some ⟨p, 0, none⟩), .int .i64 l] w fun r w' => r = .returned (.tuple #[]) ∧ Blk w' p #[a, b, c, .int .i64 l, e] 116 ∧ Frm (fun k => k = p) w w' := by
  have c1 := h.cell 3
  have f1 := h.free 3
  simp at c1
  have hs := h.set 3 (.int .i64 l)
  have HS := Lib.hid hs
  have hf : Frm (fun k => k = p) w (w.setCell ⟨p, 3, none⟩ (.int .i64 l)) := (Frm.refl (fun k => k = p) w).setCell (p := ⟨p, 3, none⟩) (.inl rfl) _
  have HF := Lib.hid hf
  clear h hs hf
  go_enter Tryz.func61, Tryz.ntmps61
  go_wp2
  go_end0
  exact ⟨rfl, HS.out, HF.out⟩
theorem setMatrix (p l : Nat) (a b c d e : Value) (w : World) (h : Blk w p #[a, b, c, d, e] 116) : Calls Tryz.prog 63 #[.pointer (some ⟨p, 0, none⟩), .pointer (some ⟨l, 0, none⟩)] w fun r w' => r = .returned (.tuple #[]) ∧ Blk w' p #[a, b, c, d, .pointer (some ⟨l, 0, none⟩)] 116 ∧ Frm (fun k => k = p) w w' := by
  have c1 := h.cell 4
  have f1 := h.free 4
  simp at c1
  have hs := h.set 4 (.pointer (some ⟨l, 0, none⟩))
  have HS := Lib.hid hs
  have hf : Frm (fun k => k = p) w (w.setCell ⟨p, 4, none⟩ (.pointer (some ⟨l, 0, none⟩))) := (Frm.refl (fun k => k = p) w).setCell (p := ⟨p, 4, none⟩) (.inl rfl) _
  have HF := Lib.hid hf
  clear h hs hf
  go_enter Tryz.func63, Tryz.ntmps63
  go_wp2
  go_end0
  exact ⟨rfl, HS.out, HF.out⟩
theorem qrMatrix (p : Nat) (v : Value) (w : World) (h : w.cell? ⟨p, 4, none⟩ = some v) : Calls Tryz.prog 11 #[.pointer (some ⟨p, 0, none⟩)] w fun r w' => r = .returned v ∧ w = w' := by
  go_enter Tryz.func11, Tryz.ntmps11
  go_wp2
  go_ret
  exact ⟨rfl, rfl⟩
theorem qrVersion (p : Nat) (v : Value) (w : World) (h : w.cell? ⟨p, 2, none⟩ = some v) : Calls Tryz.prog 12 #[.pointer (some ⟨p, 0, none⟩)] w fun r w' => r = .returned v ∧ w = w' := by
  go_enter Tryz.func12, Tryz.ntmps12
  go_wp2
  go_ret
  exact ⟨rfl, rfl⟩
theorem qrMask (p : Nat) (v : Value) (w : World) (h : w.cell? ⟨p, 3, none⟩ = some v) : Calls Tryz.prog 14 #[.pointer (some ⟨p, 0, none⟩)] w fun r w' => r = .returned v ∧ w = w' := by
  go_enter Tryz.func14, Tryz.ntmps14
  go_wp2
  go_ret
  exact ⟨rfl, rfl⟩
theorem qrEC (p : Nat) (v : Value) (w : World) (h : w.cell? ⟨p, 1, none⟩ = some v) : Calls Tryz.prog 15 #[.pointer (some ⟨p, 0, none⟩)] w fun r w' => r = .returned v ∧ w = w' := by
  go_enter Tryz.func15, Tryz.ntmps15
  go_wp2
  go_ret
  exact ⟨rfl, rfl⟩
theorem qrMode (p : Nat) (v : Value) (w : World) (h : w.cell? ⟨p, 0, none⟩ = some v) : Calls Tryz.prog 17 #[.pointer (some ⟨p, 0, none⟩)] w fun r w' => r = .returned v ∧ w = w' := by
  go_enter Tryz.func17, Tryz.ntmps17
  go_wp2
  go_ret
  exact ⟨rfl, rfl⟩
theorem ecBits (l : Nat) (w : World) : Calls Tryz.prog 16 #[.int .i64 l] w fun e w' => e = .returned (.int .i64 l) ∧ w = w' := by
  go_enter Tryz.func16, Tryz.ntmps16
  go_wp2
  go_ret
  exact ⟨rfl, rfl⟩
theorem newQR (w : World) : Calls Tryz.prog 53 #[] w fun e w' => e = .returned (.pointer (some ⟨w.heap.size, 0, none⟩)) ∧ (∃ a b c e, Blk w' w.heap.size #[a, b, c, .int .i64 (-1), e] 116) ∧ Kept w w' := by
  go_enter Tryz.func53, Tryz.ntmps53
  go_wp2
  go_ret
  exact ⟨rfl, ⟨_, _, _, _, Blk.new _ _ _⟩, (Frm.refl _ _).alloc _⟩
theorem noMask (w : World) : Calls Tryz.prog 59 #[.int .i64 (-1)] w fun e w' => e = .returned (.bool false) ∧ w = w' := by
  go_enter Tryz.func59, Tryz.ntmps59
  go_wp2
  go_ret
  exact ⟨rfl, rfl⟩
end Go.Proofs.YtnpkihobbcglcaaGreatDoor

/- K2: What the encoder makes of a text: the plain statement. -/
namespace Go.Proofs.YtnpkihobbcglcaaGreatDoor
open Go Go.RowKit

def nbAt (v l : Nat) : Nat := nbOf (ecAt v (lvIx l)).2
def ecOf (v l : Nat) : Nat := (ecAt v (lvIx l)).1
def dqAt (v l : Nat) : Nat := dataCw v l / nbAt v l
def rAt (v l : Nat) : Nat := dataCw v l % nbAt v l
theorem block_ok1 : ∀ v, v < 8 → 1 ≤ v → ∀ l, l < 4 → totalCw v = nbAt v l * (dqAt v l + ecOf v l) + rAt v l ∧ dataCw v l = nbAt v l * dqAt v l + rAt v l ∧ rAt v l < nbAt v l ∧ nbAt v l ≤ 10 := by decide +kernel
theorem block_ok2 : ∀ v, v < 8 → 1 ≤ v → ∀ l, l < 4 → 1 ≤ dqAt v l ∧ dqAt v l ≤ 200 ∧ 1 ≤ ecOf v l ∧ ecOf v l < 31 := by decide +kernel
theorem block_ok3 : ∀ v, v < 8 → 1 ≤ v → ∀ l, l < 4 → dataCw v l ≤ 200 ∧ 8 * totalCw v ≤ cellsOf v := by decide +kernel

theorem txtBits_len (m : Nat) (xs : List Nat) : (txtBits m xs).length ≤ 8 * xs.length := by
  have h1 : ∀ (xs : List Nat), (numBits xs).length ≤ 8 * xs.length := by
    intro xs
    induction xs using numBits.induct with
    | case1 a b c r ih => simp only [numBits, List.length_append, topBits_length, List.length_cons]; omega
    | case2 a b => simp [numBits, topBits_length]
    | case3 a => simp [numBits, topBits_length]
    | case4 => simp [numBits]
  have h2 : ∀ (xs : List Nat), (alpBits xs).length ≤ 8 * xs.length := by
    intro xs
    induction xs using alpBits.induct with
    | case1 a b r ih => simp only [alpBits, List.length_append, topBits_length, List.length_cons]; omega
    | case2 a => simp [alpBits, topBits_length]
    | case3 => simp [alpBits]
  unfold txtBits
  split
  · exact h1 xs
  · split
    · exact h2 xs
    · rw [bytBits_len]; omega

/-- The bits of the message: mode, count, text. -/
def msgBits (m : Nat) (xs : List Nat) : List Bool := topBits m 4 4 ++ topBits xs.length (ccb m) (ccb m) ++ txtBits m xs

/-- A text, a level, and what the encoder makes of them. -/
structure Coded (xs : List Nat) (l v m k : Nat) (tl : List Bool) (L : List Pair) : Prop where
  mode : Suits m xs
  ver : 1 ≤ v ∧ v ≤ 7
  mask : k < 8
  zero : Zero4 tl
  len : (msgBits m xs ++ tl).length = 8 * dataCw v l
  blocks : L.length = nbAt v l
  good : GoodL (msgBits m xs ++ tl) (nbAt v l) (dqAt v l) (rAt v l) (ecOf v l) L
  all : (interBits L).length = 8 * totalCw v

theorem Suits.mode {m : Nat} {xs : List Nat} (h : Suits m xs) : IsMode m := by
  rcases h with ⟨h, _⟩ | ⟨h, _⟩ | h
  · exact .inl h
  · exact .inr (.inl h)
  · exact .inr (.inr h)
end Go.Proofs.YtnpkihobbcglcaaGreatDoor

/- L3: The message's bits read again. No program in sight. -/
namespace Go.Proofs.YtnpkihobbcglcaaGreatDoor
theorem drop_top (v n k : Nat) (ys : List Bool) : (topBits v n n ++ ys).drop (n + k) = ys.drop k := by
  have : n + k = (topBits v n n).length + k := by rw [topBits_length]
  conv => lhs; rw [this]
  rw [List.drop_length_add_append]
theorem take_top (v n : Nat) (ys : List Bool) (h : v < 2 ^ n) : nval ((topBits v n n ++ ys).take n) = v := by
  rw [List.take_append_of_le_length (by rw [topBits_length]; exact Nat.le_refl _), List.take_of_length_le (by rw [topBits_length]; exact Nat.le_refl _), nval_top v n h]

theorem num_drop (tl : List Bool) : ∀ (k : Nat) (xs : List Nat), 3 * k ≤ xs.length → (numBits xs ++ tl).drop (10 * k) = numBits (xs.drop (3 * k)) ++ tl
  | 0, xs, _ => rfl
  | k + 1, a :: b :: c :: r, h => by
    simp only [numBits, List.append_assoc]
    rw [show 10 * (k + 1) = 10 + 10 * k by omega, drop_top, num_drop tl k r (by simp only [List.length_cons] at h; omega)]
    rfl
  | k + 1, [a, b], h => by simp only [List.length_cons, List.length_nil] at h; omega
  | k + 1, [a], h => by simp only [List.length_cons, List.length_nil] at h; omega
  | k + 1, [], h => by simp only [List.length_nil] at h; omega
theorem alp_drop (tl : List Bool) : ∀ (k : Nat) (xs : List Nat), 2 * k ≤ xs.length → (alpBits xs ++ tl).drop (11 * k) = alpBits (xs.drop (2 * k)) ++ tl
  | 0, xs, _ => rfl
  | k + 1, a :: b :: r, h => by
    simp only [alpBits, List.append_assoc]
    rw [show 11 * (k + 1) = 11 + 11 * k by omega, drop_top, alp_drop tl k r (by simp only [List.length_cons] at h; omega)]
    rfl
  | k + 1, [a], h => by simp only [List.length_cons, List.length_nil] at h; omega
  | k + 1, [], h => by simp only [List.length_nil] at h; omega
theorem byt_drop (tl : List Bool) : ∀ (k : Nat) (xs : List Nat), k ≤ xs.length → (bytBits xs ++ tl).drop (8 * k) = bytBits (xs.drop k) ++ tl
  | 0, xs, _ => rfl
  | k + 1, a :: r, h => by
    simp only [bytBits, List.append_assoc]
    rw [show 8 * (k + 1) = 8 + 8 * k by omega, drop_top, byt_drop tl k r (by simp only [List.length_cons] at h; omega)]
    rfl
  | k + 1, [], h => by simp only [List.length_nil] at h; omega

theorem rd_pre (pre ys : List Bool) (q n : Nat) : rd (pre ++ ys) (pre.length + q) n = nval ((ys.drop q).take n) := by
  unfold rd; rw [List.drop_length_add_append]

/-- Three digits, two, one. -/
theorem num_three (pre tl : List Bool) (xs : List Nat) (k : Nat) (hk : 3 * k + 2 < xs.length) (hd : ∀ k, k < xs.length → IsDigit (xs.getD k 0)) :
    rd (pre ++ (numBits xs ++ tl)) (pre.length + 10 * k) 10 = (xs.getD (3 * k) 0 - 48) * 100 + (xs.getD (3 * k + 1) 0 - 48) * 10 + (xs.getD (3 * k + 2) 0 - 48) := by
  rw [rd_pre, num_drop tl k xs (by omega), drop_cons xs (3 * k) (by omega), drop_cons xs (3 * k + 1) (by omega), drop_cons xs (3 * k + 2) (by omega)]
  simp only [numBits, List.append_assoc]
  have h1 := hd (3 * k) (by omega)
  have h2 := hd (3 * k + 1) (by omega)
  have h3 := hd (3 * k + 2) (by omega)
  unfold IsDigit at h1 h2 h3
  exact take_top _ _ _ (by omega)
theorem num_two (pre tl : List Bool) (xs : List Nat) (k : Nat) (hk : 3 * k + 2 = xs.length) (hd : ∀ k, k < xs.length → IsDigit (xs.getD k 0)) :
    rd (pre ++ (numBits xs ++ tl)) (pre.length + 10 * k) 7 = (xs.getD (3 * k) 0 - 48) * 10 + (xs.getD (3 * k + 1) 0 - 48) := by
  rw [rd_pre, num_drop tl k xs (by omega), drop_cons xs (3 * k) (by omega), drop_cons xs (3 * k + 1) (by omega), List.drop_of_length_le (by omega : xs.length ≤ 3 * k + 1 + 1)]
  simp only [numBits]
  have h1 := hd (3 * k) (by omega)
  have h2 := hd (3 * k + 1) (by omega)
  unfold IsDigit at h1 h2
  exact take_top _ _ _ (by omega)
theorem num_one (pre tl : List Bool) (xs : List Nat) (k : Nat) (hk : 3 * k + 1 = xs.length) (hd : ∀ k, k < xs.length → IsDigit (xs.getD k 0)) :
    rd (pre ++ (numBits xs ++ tl)) (pre.length + 10 * k) 4 = xs.getD (3 * k) 0 - 48 := by
  rw [rd_pre, num_drop tl k xs (by omega), drop_cons xs (3 * k) (by omega), List.drop_of_length_le (by omega : xs.length ≤ 3 * k + 1)]
  simp only [numBits]
  have h1 := hd (3 * k) (by omega)
  unfold IsDigit at h1
  exact take_top _ _ _ (by omega)
theorem alphaCode_rng (c : Nat) : alphaCode c = -1 ∨ 0 ≤ alphaCode c ∧ alphaCode c < 45 := by
  unfold alphaCode
  repeat' split
  all_goals omega
theorem alp_two (pre tl : List Bool) (xs : List Nat) (k : Nat) (hk : 2 * k + 1 < xs.length) :
    rd (pre ++ (alpBits xs ++ tl)) (pre.length + 11 * k) 11 = (alphaCode (xs.getD (2 * k) 0)).toNat * 45 + (alphaCode (xs.getD (2 * k + 1) 0)).toNat := by
  rw [rd_pre, alp_drop tl k xs (by omega), drop_cons xs (2 * k) (by omega), drop_cons xs (2 * k + 1) (by omega)]
  simp only [alpBits, List.append_assoc]
  have h1 := alphaCode_rng (xs.getD (2 * k) 0)
  have h2 := alphaCode_rng (xs.getD (2 * k + 1) 0)
  exact take_top _ _ _ (by omega)
theorem alp_one (pre tl : List Bool) (xs : List Nat) (k : Nat) (hk : 2 * k + 1 = xs.length) :
    rd (pre ++ (alpBits xs ++ tl)) (pre.length + 11 * k) 6 = (alphaCode (xs.getD (2 * k) 0)).toNat := by
  rw [rd_pre, alp_drop tl k xs (by omega), drop_cons xs (2 * k) (by omega), List.drop_of_length_le (by omega : xs.length ≤ 2 * k + 1)]
  simp only [alpBits]
  have h1 := alphaCode_rng (xs.getD (2 * k) 0)
  exact take_top _ _ _ (by omega)
theorem byt_one (pre tl : List Bool) (xs : List Nat) (k : Nat) (hk : k < xs.length) (hb : xs.getD k 0 < 256) :
    rd (pre ++ (bytBits xs ++ tl)) (pre.length + 8 * k) 8 = xs.getD k 0 := by
  rw [rd_pre, byt_drop tl k xs (by omega), drop_cons xs k hk]
  simp only [bytBits, List.append_assoc]
  exact take_top _ _ _ (by omega)

theorem num_len : ∀ (xs : List Nat), (numBits xs).length = 10 * (xs.length / 3) + (if xs.length % 3 = 2 then 7 else if xs.length % 3 = 1 then 4 else 0)
  | a :: b :: c :: r => by
    have := num_len r
    simp only [numBits, List.length_append, topBits_length, List.length_cons]
    rw [this]
    repeat' split
    all_goals omega
  | [a, b] => by simp [numBits, topBits_length]
  | [a] => by simp [numBits, topBits_length]
  | [] => by simp [numBits]
theorem alp_len : ∀ (xs : List Nat), (alpBits xs).length = 11 * (xs.length / 2) + 6 * (xs.length % 2)
  | a :: b :: r => by
    have := alp_len r
    simp only [alpBits, List.length_append, topBits_length, List.length_cons]
    omega
  | [a] => by simp [alpBits, topBits_length]
  | [] => by simp [alpBits]

/-- The alphanumeric characters by their codes. -/
def alphaChar (i : Nat) : Nat := if i < 10 then i + 48 else if i < 36 then i + 55 else if i = 36 then 32 else if i = 37 then 36 else if i = 38 then 37 else if i = 39 then 42 else if i = 40 then 43 else if i = 41 then 45 else if i = 42 then 46 else if i = 43 then 47 else 58
theorem alphaChar_code (c : Nat) (h : alphaCode c ≠ -1) : alphaChar (alphaCode c).toNat = c := by
  by_cases hc : c < 96
  · revert h; revert c; decide +kernel
  · exact absurd (alphaCode_high c (by omega)) h

/-- The head of the message. -/
theorem rd_mode (m : Nat) (xs : List Nat) (tl : List Bool) (hm : IsMode m) : rd (msgBits m xs ++ tl) 0 4 = m := by
  unfold msgBits rd
  rw [List.drop_zero, List.append_assoc, List.append_assoc]
  refine take_top _ _ _ ?_
  rcases hm with rfl | rfl | rfl <;> decide
theorem rd_count (m : Nat) (xs : List Nat) (tl : List Bool) (_hm : IsMode m) (hn : xs.length < 256) : rd (msgBits m xs ++ tl) 4 (ccb m) = xs.length := by
  unfold msgBits rd
  rw [List.append_assoc, List.append_assoc, show 4 = 4 + 0 by rfl, drop_top, List.drop_zero]
  refine take_top _ _ _ ?_
  have h8 : 8 ≤ ccb m := by
    unfold ccb
    repeat' split
    all_goals omega
  have : (2 : Nat) ^ 8 ≤ 2 ^ ccb m := Nat.pow_le_pow_right (by omega) h8
  omega
theorem msg_pre (m : Nat) (xs : List Nat) (tl : List Bool) : ∃ pre, pre.length = 4 + ccb m ∧ msgBits m xs ++ tl = pre ++ (txtBits m xs ++ tl) :=
  ⟨topBits m 4 4 ++ topBits xs.length (ccb m) (ccb m), by simp [topBits_length], by unfold msgBits; rw [List.append_assoc]⟩
theorem nval_zero (l : List Bool) (h : ∀ j, l.getD j false = false) : nval l = 0 := by
  induction l with
  | nil => rfl
  | cons b l ih =>
    have h0 := h 0
    simp at h0
    subst h0
    have h2 : ∀ j, l.getD j false = false := fun j => by have := h (j + 1); simpa using this
    have : nval (false :: l) = nval ([false] ++ l) := rfl
    rw [this, nval_append, ih h2]
    simp [nval]
theorem rd_end (us tl : List Bool) (hz : Zero4 tl) : rd (us ++ tl) us.length 4 = 0 := by
  have := rd_pre us tl 0 4
  rw [Nat.add_zero, List.drop_zero] at this
  rw [this]
  refine nval_zero _ (fun j => ?_)
  by_cases hj : j < 4
  · rw [List.getD_eq_getElem?_getD, List.getElem?_take_of_lt hj, ← List.getD_eq_getElem?_getD]; exact hz j hj
  · rw [List.getD_eq_getElem?_getD, List.getElem?_eq_none (by simp; omega)]; rfl
theorem bytesFrom_add (bs : List Bool) (o a b : Nat) : bytesFrom bs o (a + b) = bytesFrom bs o a ++ bytesFrom bs (o + 8 * a) b := by
  induction b with
  | zero => simp [bytesFrom]
  | succ b ih =>
    have e1 : bytesFrom bs o (a + (b + 1)) = bytesFrom bs o (a + b) ++ [byteAt bs (o + 8 * (a + b))] := by simp [bytesFrom, ← Nat.add_assoc, List.range_succ]
    have e2 : bytesFrom bs (o + 8 * a) (b + 1) = bytesFrom bs (o + 8 * a) b ++ [byteAt bs (o + 8 * a + 8 * b)] := by simp [bytesFrom, List.range_succ]
    rw [e1, e2, ih, List.append_assoc, show o + 8 * (a + b) = o + 8 * a + 8 * b by omega]
theorem bytesFrom_get (bs : List Bool) (o n i : Nat) (hi : i < n) (hl : o + 8 * n ≤ bs.length) : (bytesFrom bs o n).getD i 0 = rd bs (o + 8 * i) 8 := by
  rw [← rd_byte bs (o + 8 * i) (by omega)]
  simp [bytesFrom, List.getD_eq_getElem?_getD, hi]
end Go.Proofs.YtnpkihobbcglcaaGreatDoor
