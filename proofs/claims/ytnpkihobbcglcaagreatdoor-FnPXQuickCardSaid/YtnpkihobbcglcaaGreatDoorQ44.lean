/- Decoding 29: QRDecode (8). Plain: the format and the version stand in the modules. The law FnPXQuick: the walk. -/
import Derived.Test.YtnpkihobbcglcaaGreatDoorQ41
import Derived.Test.YtnpkihobbcglcaaGreatDoorQ42
import Derived.Test.YtnpkihobbcglcaaGreatDoorQ43
set_option linter.unusedSimpArgs false
set_option linter.unusedVariables false

/- U29: Decoding 29: QRDecode (8). -/
namespace Go.Proofs.YtnpkihobbcglcaaGreatDoor
open Go Go.RowKit

set_option maxRecDepth 100000 in
set_option maxHeartbeats 8000000 in
theorem qrDecode (S : Value) (R : List (List Bool)) (v k m lv t : Nat) (xs : List Nat) (tl pad : List Bool) (L : List Pair) (w : World)
    (hS : SliceC w S R) (hR : Readable R lv v m k t xs tl pad L) (hlv : lv < 4) (hx1 : 1 ≤ xs.length) (hxl : xs.length ≤ 60) (hby : Bytes xs) :
    Calls Tryz.prog 8 #[S] w fun r w' => ∃ o1 n1 c1 o2 n2 c2 ls x4 x5 x6 x7, r = .returned (.tuple #[.agg #[.string (txtOf xs), .slice o1 n1 c1, .slice o2 n2 c2, .string ls, .int .i64 x4, .int .i64 x5, .int .i64 x6, .int .i64 x7], .bool true]) ∧ Kept w w' := by
  have HALL := Lib.hid (fun d rs f e l z o w1 hd hS => decodeBools S R d rs f e l z o v k m lv t xs tl pad L w1 hd hS hR hlv hx1 hxl hby)
  have HS := Lib.hid hS
  clear hS hR
  go_enter Tryz.func8, Tryz.ntmps8
  go_wp2_with fail
  have hob := Blk.new w #[.string { data := #[] }, .slice none 0 0, .slice none 0 0, .string { data := #[] }, .int .i64 0, .int .i64 0, .int .i64 0, .int .i64 0] 35
  have ka : Kept w (w.alloc (.cells #[.string { data := #[] }, .slice none 0 0, .slice none 0 0, .string { data := #[] }, .int .i64 0, .int .i64 0, .int .i64 0, .int .i64 0] 35)) := (Frm.refl _ _).alloc _
  generalize w.alloc (.cells #[.string { data := #[] }, .slice none 0 0, .slice none 0 0, .string { data := #[] }, .int .i64 0, .int .i64 0, .int .i64 0, .int .i64 0] 35) = w1 at *
  generalize hob0 : w.heap.size = ob at *
  have HND := Lib.hid (newDecoder w1)
  have HOB := Lib.hid hob
  have HOB0 := Lib.hid hob0
  have KA := Lib.hid ka
  clear hob hob0 ka
  with_reducible refine HND.out.mono ?_
  rintro _ w2 ⟨d, rs, f, e, l, z, o, rfl, hd, k2⟩
  have K2 := Lib.hid (KA.out.trans k2)
  have HCALL := Lib.hid (HALL.out d rs f e l z o w2 hd (HS.out.kept K2.out))
  have HOB2 := Lib.hid (HOB.out.frm k2 (fun h => h))
  clear k2 hd KA HOB HALL HS HND
  dsimp only
  go_wp2_with fail
  with_reducible refine HCALL.out.mono ?_
  rintro _ w3 ⟨rp, rfl, hr, k3⟩
  have HHO := Lib.hid (handOut rp xs w3 hx1 hxl hr)
  have K3 := Lib.hid (K2.out.trans k3)
  have HOB3 := Lib.hid (HOB2.out.frm k3 (fun h => h))
  clear hr k3 K2 HOB2 HCALL
  dsimp only
  go_wp2_with fail
  with_reducible refine HHO.out.mono ?_
  rintro _ w4 ⟨o1, n1, c1, o2, n2, c2, ls, x4, x5, x6, x7, rfl, k4⟩
  have hob := HOB3.out.frm k4 (fun h => h)
  have K4 := Lib.hid (K3.out.trans k4)
  have q0 := hob.cell 0
  have q1 := hob.cell 1
  have q2 := hob.cell 2
  have q3 := hob.cell 3
  have q4 := hob.cell 4
  have q5 := hob.cell 5
  have q6 := hob.cell 6
  have q7 := hob.cell 7
  simp only [List.getElem?_toArray, List.getElem?_cons_zero, List.getElem?_cons_succ] at q0 q1 q2 q3 q4 q5 q6 q7
  have f0 := hob.free 0
  have f1 := hob.free 1
  have f2 := hob.free 2
  have f3 := hob.free 3
  have f4 := hob.free 4
  have f5 := hob.free 5
  have f6 := hob.free 6
  have f7 := hob.free 7
  have HOB4 := Lib.hid hob
  clear hob k4 K3 HOB3 HHO
  dsimp only
  go_wp2_with fail
  have hob := ((((((((HOB4.out.set 0 (.string (txtOf xs))).set 1 (.slice o1 n1 c1)).set 2 (.slice o2 n2 c2)).set 3 (.string ls)).set 4 (.int .i64 x4)).set 5 (.int .i64 x5)).set 6 (.int .i64 x6)).set 7 (.int .i64 x7))
  have hfo : Frm (fun b => b = ob) w4 ((((((((w4.setCell ⟨ob, 0, none⟩ (.string (txtOf xs))).setCell ⟨ob, 1, none⟩ (.slice o1 n1 c1)).setCell ⟨ob, 2, none⟩ (.slice o2 n2 c2)).setCell ⟨ob, 3, none⟩ (.string ls)).setCell ⟨ob, 4, none⟩ (.int .i64 x4)).setCell ⟨ob, 5, none⟩ (.int .i64 x5)).setCell ⟨ob, 6, none⟩ (.int .i64 x6)).setCell ⟨ob, 7, none⟩ (.int .i64 x7)) := ((((((((Frm.refl (fun b => b = ob) w4).setCell (p := ⟨ob, 0, none⟩) (.inl rfl) _).setCell (p := ⟨ob, 1, none⟩) (.inl rfl) _).setCell (p := ⟨ob, 2, none⟩) (.inl rfl) _).setCell (p := ⟨ob, 3, none⟩) (.inl rfl) _).setCell (p := ⟨ob, 4, none⟩) (.inl rfl) _).setCell (p := ⟨ob, 5, none⟩) (.inl rfl) _).setCell (p := ⟨ob, 6, none⟩) (.inl rfl) _).setCell (p := ⟨ob, 7, none⟩) (.inl rfl) _
  generalize ((((((((w4.setCell ⟨ob, 0, none⟩ (.string (txtOf xs))).setCell ⟨ob, 1, none⟩ (.slice o1 n1 c1)).setCell ⟨ob, 2, none⟩ (.slice o2 n2 c2)).setCell ⟨ob, 3, none⟩ (.string ls)).setCell ⟨ob, 4, none⟩ (.int .i64 x4)).setCell ⟨ob, 5, none⟩ (.int .i64 x5)).setCell ⟨ob, 6, none⟩ (.int .i64 x6)).setCell ⟨ob, 7, none⟩ (.int .i64 x7)) = wf at hob hfo ⊢
  have hob2 : Blk wf ob #[.string (txtOf xs), .slice o1 n1 c1, .slice o2 n2 c2, .string ls, .int .i64 x4, .int .i64 x5, .int .i64 x6, .int .i64 x7] 35 := hob
  have hlv : (loadVar 35 ⟨ob, 0, none⟩).run Tryz.prog wf = .ok (.agg #[.string (txtOf xs), .slice o1 n1 c1, .slice o2 n2 c2, .string ls, .int .i64 x4, .int .i64 x5, .int .i64 x6, .int .i64 x7]) wf := by
    obtain ⟨fs, hfs⟩ := struct35
    exact run_loadVar_row wf ob 35 35 _ (0, 0) _ hob2 hfs rfl (by rw [size35]; rfl)
  refine bodyPost_ret (results_cell2 rfl _ _ _ ⟨ob, 0, none⟩ rfl _ hlv) rfl ?_
  refine ⟨_, _, _, _, _, _, _, _, _, _, _, rfl, K4.out.step hfo ?_⟩
  rintro b hb rfl
  have := HOB0.out
  omega
end Go.Proofs.YtnpkihobbcglcaaGreatDoor

/- L5: Plain: the format and the version stand in the modules. -/
namespace Go.Proofs.YtnpkihobbcglcaaGreatDoor
open Go Go.RowKit

def isOn (g : Grid) (x y : Nat) : Bool := decide (gget g x y = 1)
def full8 (g : Grid) : Bool := (List.range 9).all fun i => (i == 6 || (gget g i 8 != -1 && gget g 8 i != -1))
def full2 (g : Grid) (n : Nat) : Bool := (List.range 8).all fun i => (gget g (n - 8 + i) 8 != -1 && (i == 7 || gget g 8 (n - 1 - i) != -1))
def fullV (g : Grid) : Bool := (List.range 3).all fun i => (List.range 6).all fun k => gget g (36 - i) (5 - k) != -1
def chk (g : Grid) (v t : Nat) : Bool := full8 g && full2 g (dim v) && (fmt1 (isOn g) == fmtTab.getD t 0) && (fmt2 (isOn g) (dim v) == fmtTab.getD t 0) && (v != 7 || (fullV g && (verN (isOn g) 6 == 31892)))
theorem chk1 : ∀ t, t < 32 → chk (baseG 1 t) 1 t = true := by decide +kernel
theorem chk2 : ∀ t, t < 32 → chk (baseG 2 t) 2 t = true := by decide +kernel
theorem chk3 : ∀ t, t < 32 → chk (baseG 3 t) 3 t = true := by decide +kernel
theorem chk4 : ∀ t, t < 32 → chk (baseG 4 t) 4 t = true := by decide +kernel
theorem chk5 : ∀ t, t < 32 → chk (baseG 5 t) 5 t = true := by decide +kernel
theorem chk6 : ∀ t, t < 32 → chk (baseG 6 t) 6 t = true := by decide +kernel
theorem chk7 : ∀ t, t < 32 → chk (baseG 7 t) 7 t = true := by decide +kernel
theorem chk_any (v t : Nat) (h1 : 1 ≤ v) (h7 : v ≤ 7) (ht : t < 32) : chk (baseG v t) v t = true := by
  obtain rfl | rfl | rfl | rfl | rfl | rfl | rfl : v = 1 ∨ v = 2 ∨ v = 3 ∨ v = 4 ∨ v = 5 ∨ v = 6 ∨ v = 7 := by omega
  · exact chk1 t ht
  · exact chk2 t ht
  · exact chk3 t ht
  · exact chk4 t ht
  · exact chk5 t ht
  · exact chk6 t ht
  · exact chk7 t ht

theorem cpN_congr (g g' : Nat → Bool) : ∀ (K v : Nat), (∀ k, k < K → g k = g' k) → cpN g K v = cpN g' K v
  | 0, _, _ => rfl
  | K + 1, v, h => by
    show 2 * cpN g K v + (g K).toNat = 2 * cpN g' K v + (g' K).toNat
    rw [cpN_congr g g' K v (fun k hk => h k (by omega)), h K (by omega)]
theorem verN_congr (f f' : Nat → Nat → Bool) : ∀ (k : Nat), k ≤ 6 → (∀ i k, i < 3 → k < 6 → f (36 - i) (5 - k) = f' (36 - i) (5 - k)) → verN f k = verN f' k
  | 0, _, _ => rfl
  | k + 1, hk, h => by
    show cpN (fun i => f (36 - i) (5 - k)) 3 (verN f k) = cpN (fun i => f' (36 - i) (5 - k)) 3 (verN f' k)
    rw [verN_congr f f' k (by omega) h]
    exact cpN_congr _ _ 3 _ (fun i hi => h i k hi (by omega))
theorem fmt1_congr (f f' : Nat → Nat → Bool) (h : ∀ i, i < 9 → i ≠ 6 → f i 8 = f' i 8 ∧ f 8 i = f' 8 i) : fmt1 f = fmt1 f' := by
  unfold fmt1
  rw [(h 7 (by omega) (by omega)).1, (h 8 (by omega) (by omega)).1, (h 7 (by omega) (by omega)).2, cpN_congr (fun i => f i 8) (fun i => f' i 8) 6 0 (fun i hi => (h i (by omega) (by omega)).1)]
  exact cpN_congr _ _ 6 _ (fun j hj => (h (5 - j) (by omega) (by omega)).2)
theorem fmt2_congr (f f' : Nat → Nat → Bool) (n : Nat) (h : ∀ i, i < 8 → f (n - 8 + i) 8 = f' (n - 8 + i) 8 ∧ (i ≠ 7 → f 8 (n - 1 - i) = f' 8 (n - 1 - i))) : fmt2 f n = fmt2 f' n := by
  unfold fmt2
  rw [cpN_congr (fun j => f 8 (n - 1 - j)) (fun j => f' 8 (n - 1 - j)) 7 0 (fun j hj => (h j (by omega)).2 (by omega))]
  exact cpN_congr _ _ 8 _ (fun i hi => (h i hi).1)

/-- The modules of the matrix. -/
theorem mat_get (v l k : Nat) (bits : List Bool) (h1 : 1 ≤ v) (h7 : v ≤ 7) :
    Sq (dim v) (matG v l k bits) ∧ (∀ x y, gget (baseG v (l * 8 + k)) x y ≠ -1 → gget (matG v l k bits) x y = gget (baseG v (l * 8 + k)) x y) ∧
    ∀ T, T < zN (dim v) → gget (baseG v (l * 8 + k)) (zX (dim v) T) (zY (dim v) T) = -1 → gget (matG v l k bits) (zX (dim v) T) (zY (dim v) T) = bit01 (bits.getD (zCnt (baseG v (l * 8 + k)) (dim v) T) false ^^ maskBit k (zX (dim v) T) (zY (dim v) T)) := by
  unfold matG
  rw [dataAll_flat bits k (dim v) (by unfold dim; omega)]
  have := zig_fill bits k (dim v) (baseG v (l * 8 + k)) (by unfold dim; omega) (by unfold dim; omega) (baseG_same v (l * 8 + k) h1 h7).sq (zN (dim v)) (Nat.le_refl _) _ rfl
  exact ⟨this.2.1, this.2.2.1, this.2.2.2.1⟩
theorem bitOf_mods (g : Grid) (n x y : Nat) (hx : x < n) (hy : y < n) : bitOf (modsOf g n n) x y = isOn g x y := by
  have e1 : (modsOf g n n).getD y [] = modRow g n y := by
    unfold modsOf
    rw [List.getD_eq_getElem?_getD, List.getElem?_map, List.getElem?_range hy]
    rfl
  unfold bitOf isOn
  rw [e1]
  unfold modRow
  rw [List.getD_eq_getElem?_getD, List.getElem?_map, List.getElem?_range hx]
  rfl
theorem getD_pad (bs : List Bool) (p i : Nat) : (bs ++ List.replicate p false).getD i false = bs.getD i false := by
  rw [List.getD_eq_getElem?_getD, List.getD_eq_getElem?_getD]
  by_cases h : i < bs.length
  · rw [List.getElem?_append_left h]
  · rw [List.getElem?_append_right (by omega), List.getElem?_eq_none (l := bs) (by omega), List.getElem?_replicate]
    split <;> rfl
theorem isOn_bit (g : Grid) (x y : Nat) (b : Bool) (h : gget g x y = bit01 b) : isOn g x y = b := by
  unfold isOn; rw [h]; cases b <;> decide

theorem mods_readable {xs : List Nat} {lv v m k : Nat} {tl : List Bool} {L : List Pair} (h : Coded xs lv v m k tl L) (hl : lv < 4) :
    Readable (modsOf (matG v lv k (interBits L)) (dim v) (dim v)) lv v m k (lv * 8 + k) xs tl (List.replicate (cellsOf v - 8 * totalCw v) false) L := by
  obtain ⟨v1, v7⟩ := h.ver
  have hk := h.mask
  obtain ⟨s1, s2, s3⟩ := mat_get v lv k (interBits L) v1 v7
  have hc := chk_any v (lv * 8 + k) v1 v7 (by omega)
  have hn : 21 ≤ dim v := by unfold dim; omega
  have hsame : ∀ x y, x < dim v → y < dim v → gget (baseG v (lv * 8 + k)) x y ≠ -1 → bitOf (modsOf (matG v lv k (interBits L)) (dim v) (dim v)) x y = isOn (baseG v (lv * 8 + k)) x y := fun x y hx hy hne => by
    rw [bitOf_mods _ _ _ _ hx hy]; unfold isOn; rw [s2 x y hne]
  generalize hG : baseG v (lv * 8 + k) = G at *
  unfold chk at hc
  simp only [Bool.and_eq_true, Bool.or_eq_true, beq_iff_eq, bne_iff_ne, ne_eq] at hc
  obtain ⟨⟨⟨⟨c1, c2⟩, c3⟩, c4⟩, c5⟩ := hc
  have e1 : ∀ i, i < 9 → i ≠ 6 → gget G i 8 ≠ -1 ∧ gget G 8 i ≠ -1 := fun i hi h6 => by
    have := List.all_eq_true.1 c1 i (List.mem_range.2 hi)
    simpa [h6] using this
  have e2 : ∀ i, i < 8 → gget G (dim v - 8 + i) 8 ≠ -1 ∧ (i ≠ 7 → gget G 8 (dim v - 1 - i) ≠ -1) := fun i hi => by
    have := List.all_eq_true.1 c2 i (List.mem_range.2 hi)
    simp only [Bool.and_eq_true, Bool.or_eq_true, beq_iff_eq, bne_iff_ne, ne_eq] at this
    exact ⟨this.1, fun h7 => this.2.resolve_left h7⟩
  have hall := h.all
  have hcl := (block_ok3 v (by omega) v1 lv hl).2
  refine ⟨h, modsOf_len _ _ _, fun y hy => ?_, fun hv7 => ?_, ?_, ?_, ?_, fun T hT he => ?_⟩
  · unfold modsOf modRow
    rw [List.getD_eq_getElem?_getD, List.getElem?_map, List.getElem?_range hy]
    simp
  · subst hv7
    obtain ⟨f1, f2⟩ := c5.resolve_left (by simp)
    rw [← f2]
    refine verN_congr _ _ 6 (Nat.le_refl _) (fun i k hi hk => hsame _ _ (by unfold dim; omega) (by unfold dim; omega) ?_)
    have := List.all_eq_true.1 (List.all_eq_true.1 f1 i (List.mem_range.2 hi)) k (List.mem_range.2 hk)
    simpa using this
  · rw [← c3]
    exact fmt1_congr _ _ (fun i hi h6 => ⟨hsame _ _ (by omega) (by omega) (e1 i hi h6).1, hsame _ _ (by omega) (by omega) (e1 i hi h6).2⟩)
  · rw [← c4]
    exact fmt2_congr _ _ _ (fun i hi => ⟨hsame _ _ (by omega) (by omega) (e2 i hi).1, fun h7 => hsame _ _ (by omega) (by omega) ((e2 i hi).2 h7)⟩)
  · rw [List.length_append, List.length_replicate, hall]; omega
  · obtain ⟨zx, zy⟩ := zig_lt (dim v) T (by omega) (by unfold dim; omega) hT
    rw [hG] at he
    rw [bitOf_mods _ _ _ _ zx zy, isOn_bit _ _ _ _ (s3 T hT he), getD_pad, hG]
    simp
end Go.Proofs.YtnpkihobbcglcaaGreatDoor

/- W1: The law FnPXQuick: the walk. -/
namespace Go.Proofs.YtnpkihobbcglcaaGreatDoor
open Go Go.RowKit

theorem txt_sb (t : ByteArray) : txtOf (sb t) = t := by
  unfold txtOf sb
  rw [List.map_map]
  have : (UInt8.ofNat ∘ UInt8.toNat) = id := by funext x; simp
  rw [this, List.map_id]
theorem sb_bytes (t : ByteArray) : Bytes (sb t) := by
  intro c hc
  unfold sb at hc
  obtain ⟨x, _, rfl⟩ := List.mem_map.1 hc
  exact x.toNat_lt

set_option maxRecDepth 100000 in
set_option maxHeartbeats 8000000 in
theorem fnPXQuick (h3 : Rule3) (s : ByteArray) (kind lv sc a0 a1 a2 a3 li ar : Nat) (w : World) (hk : kind < 256) (hlv : lv < 256) (hsc : sc < 256) (h0 : a0 < 256) (h1 : a1 < 256) (h2 : a2 < 256) (hh3 : a3 < 256) (hli : li < 256) (har : ar < 256) :
    Calls Tryz.prog 3 #[.string s, .int .u8 kind, .int .u8 lv, .int .u8 sc, .agg #[.int .u8 a0, .int .u8 a1, .int .u8 a2, .int .u8 a3], .int .u8 li, .int .u8 ar] w fun e w' => e = .returned (.bool true) ∧ Kept w w' := by
  have hll : lv % 4 < 4 := Nat.mod_lt _ (by omega)
  have HENC := Lib.hid (fun t w' h1 h2 => qrEncode h3 t (lv % 4) w' hll h1 h2)
  have HSEEN := Lib.hid (fun g cap n R w' hS hn hr hn1 hn2 => pxSeen g cap n sc a0 a1 a2 a3 li ar R w' hS hn hr hn1 hn2 hsc h0 h1 h2 hh3 hli har)
  have HASC := Lib.hid (fun w' => qrAscii s kind w' hk)
  have HLV := Lib.hid (fun w' => qrLevel lv w' hlv)
  clear h3
  generalize lv % 4 = l at *
  by_cases hbig : s.size > 2147483647
  · have hd : decide ((2147483647 : Int) < s.size) = true := by simp; omega
    go_enter Tryz.func3, Tryz.ntmps3
    go_wp2
    go_ret
    exact ⟨rfl, (Frm.refl _ _).alloc _⟩
  · have hd : decide ((2147483647 : Int) < s.size) = false := by simp; omega
    clear hbig
    go_enter Tryz.func3, Tryz.ntmps3
    go_wp2_with fail
    have hb := Blk.new w #[.int .u8 a0, .int .u8 a1, .int .u8 a2, .int .u8 a3] 22
    have ka : Kept w (w.alloc (.cells #[.int .u8 a0, .int .u8 a1, .int .u8 a2, .int .u8 a3] 22)) := (Frm.refl _ _).alloc _
    generalize w.alloc (.cells #[.int .u8 a0, .int .u8 a1, .int .u8 a2, .int .u8 a3] 22) = w1 at *
    generalize w.heap.size = g at *
    have HB := Lib.hid hb
    have KA := Lib.hid ka
    clear ka
    have HA1 := Lib.hid (HASC.out w1)
    clear hb HASC
    with_reducible refine HA1.out.mono ?_
    rintro _ w2 ⟨t, rfl, ht1, ht2, k2⟩
    have HLV2 := Lib.hid (HLV.out w2)
    have HEN := Lib.hid (HENC.out t w2 ht1 ht2)
    have HB2 := Lib.hid (HB.out.frm k2 (fun h => h))
    have K2 := Lib.hid (KA.out.trans k2)
    clear k2 HB HA1 HLV HENC
    dsimp only
    go_wp2_with fail
    with_reducible refine HLV2.out.mono ?_
    rintro _ _ ⟨rfl, rfl⟩
    dsimp only
    go_wp2_with fail
    with_reducible refine HEN.out.mono ?_
    rintro _ w3 ⟨v, m, k, tl, L, S, rfl, hS, hcod, k3⟩
    obtain ⟨v1, v7⟩ := hcod.ver
    have hrd := mods_readable hcod hll
    have hlen := hrd.len
    have hrow := hrd.row
    generalize hR : modsOf (matG v l k (interBits L)) (dim v) (dim v) = R at *
    have hSv : ∃ sg cap, S = .slice (some ⟨sg, 0, none⟩) (dim v) cap := by
      rcases hS with ⟨e, _⟩ | ⟨sg, cap, vs, e, _⟩
      · rw [e] at hlen; simp [dim] at hlen; omega
      · exact ⟨sg, cap, by rw [e, hlen]⟩
    obtain ⟨sg, cap, rfl⟩ := hSv
    have HS := Lib.hid hS
    have HRD := Lib.hid hrd
    have HLEN := Lib.hid hlen
    have HROW := Lib.hid hrow
    have hdim : 1 ≤ dim v ∧ dim v ≤ 45 := by unfold dim; omega
    have HB3 := Lib.hid (HB2.out.frm k3 (fun h => h))
    have K3 := Lib.hid (K2.out.trans k3)
    clear hS hcod k3 hrd hlen hrow hR HLV2 HEN HB2 v1 v7
    generalize dim v = n at *
    have hb4 := HB3.out.alloc (.cells #[.int .i64 v, .int .i64 k, .int .i64 l, .int .i64 m, .slice (some ⟨sg, 0, none⟩) n cap] 26)
    have k4 : Kept w3 (w3.alloc (.cells #[.int .i64 v, .int .i64 k, .int .i64 l, .int .i64 m, .slice (some ⟨sg, 0, none⟩) n cap] 26)) := (Frm.refl _ _).alloc _
    have q0 := hb4.cell 0
    have q1 := hb4.cell 1
    have q2 := hb4.cell 2
    have q3 := hb4.cell 3
    simp only [List.getElem?_toArray, List.getElem?_cons_zero, List.getElem?_cons_succ] at q0 q1 q2 q3
    have K4 := Lib.hid (K3.out.trans k4)
    have HSN := Lib.hid (HSEEN.out sg cap n R _ (HS.out.kept k4) HLEN.out HROW.out hdim.1 hdim.2)
    clear hb4 k4 HS HLEN HROW HSEEN HB3
    dsimp only
    go_wp2_with fail
    with_reducible refine HSN.out.mono ?_
    rintro _ w5 ⟨S2, rfl, hS2, k5⟩
    have HQD := Lib.hid (qrDecode S2 R v k m l (l * 8 + k) (sb t) tl _ L w5 hS2 HRD.out hll (by rw [sb_len]; exact ht1) (by rw [sb_len]; exact ht2) (sb_bytes t))
    rw [txt_sb] at HQD
    have K5 := Lib.hid (K4.out.trans k5)
    clear k5
    clear q0 q1 q2 q3 hS2 HSN HRD
    dsimp only
    go_wp2_with fail
    with_reducible refine HQD.out.mono ?_
    rintro _ w6 ⟨o1, n1, c1, o2, n2, c2, ls, x4, x5, x6, x7, rfl, k6⟩
    have K6 := Lib.hid (K5.out.trans k6)
    clear k6
    dsimp only
    go_wp2_with fail
    go_ret
    exact ⟨rfl, K6.out.alloc _⟩
end Go.Proofs.YtnpkihobbcglcaaGreatDoor
