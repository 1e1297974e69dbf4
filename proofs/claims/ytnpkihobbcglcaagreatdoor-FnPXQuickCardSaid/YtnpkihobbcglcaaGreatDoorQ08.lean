/- The contracts of ByteMatrix's methods. The contracts of ByteMatrix's methods, 2: a new one; all of it set. The fixed patterns laid into a matrix, 1: finders, their separators, alignment patterns. -/
import Derived.Test.YtnpkihobbcglcaaGreatDoorQ01
import Derived.Test.YtnpkihobbcglcaaGreatDoorQ03
import Derived.Test.YtnpkihobbcglcaaGreatDoorQ04
import Derived.Test.YtnpkihobbcglcaaGreatDoorQ07
import Derived.BigQuiet
import Derived.Deep.QuietTactic
set_option linter.unusedSimpArgs false
set_option linter.unusedVariables false

/- M1: The contracts of ByteMatrix's methods. -/
namespace Go.Proofs.YtnpkihobbcglcaaGreatDoor
open Go Go.RowKit

def rowVals (r n : Nat) : List Value := (List.range n).map fun y => Value.slice (some ⟨r + 1 + y, 0, none⟩) n n
/-- The object at p is a matrix of n rows of n; its rows lie behind the block r. -/
structure BM (w : World) (p r n : Nat) (g : Grid) : Prop where
  obj : Blk w p #[.slice (some ⟨r, 0, none⟩) n n, .int .i64 n, .int .i64 n] 123
  tab : Blk w r (rowVals r n).toArray 124
  row : ∀ y, y < n → Ints w (r + 1 + y) .i8 57 (g.getD y [])
  sq : Sq n g
  sep : p < r ∨ r + n < p
  small : n ≤ 1000

/-- What belongs to the matrix's rows. -/
def InM (r n : Nat) (k : Nat) : Prop := r < k ∧ k ≤ r + n
theorem BM.frm {S : Nat → Prop} {w w' : World} {p r n : Nat} {g : Grid} (h : BM w p r n g) (hf : Frm S w w') (hp : ¬ S p) (hr : ¬ S r) (hm : ∀ k, InM r n k → ¬ S k) : BM w' p r n g :=
  ⟨h.obj.frm hf hp, h.tab.frm hf hr, fun y hy => (h.row y hy).frm hf (hm _ ⟨by omega, by omega⟩), h.sq, h.sep, h.small⟩
theorem BM.kept {w w' : World} {p r n : Nat} {g : Grid} (h : BM w p r n g) (hf : Kept w w') : BM w' p r n g := h.frm hf (fun h => h) (fun h => h) (fun _ _ h => h)
theorem BM.notIn {w : World} {p r n : Nat} {g : Grid} (h : BM w p r n g) {b : Nat} (hb : w.heap.size ≤ b) : ¬ InM r n b := by
  rintro ⟨h1, h2⟩
  have := (h.row (n - 1) (by omega)).lt
  omega
theorem BM.tabCell {w : World} {p r n : Nat} {g : Grid} (h : BM w p r n g) (y : Nat) (hy : y < n) : w.cell? ⟨r, y, none⟩ = some (.slice (some ⟨r + 1 + y, 0, none⟩) n n) := by
  rw [h.tab.cell]; simp [rowVals, hy]
theorem BM.set {w : World} {p r n : Nat} {g : Grid} (h : BM w p r n g) (x y : Nat) (v : Int) (hy : y < n) : BM (w.setCell ⟨r + 1 + y, x, none⟩ (.int .i8 v)) p r n (gset g x y v) := by
  have hs := h.sep
  refine ⟨h.obj.setOther (show p ≠ r + 1 + y by omega) _, h.tab.setOther (show r ≠ r + 1 + y by omega) _, fun k hk => ?_, h.sq.set x y v, h.sep, h.small⟩
  by_cases e : k = y
  · subst e; rw [gset_row_same h.sq x k v hy]; exact (h.row k hy).set x v
  · rw [gset_row_other g x y k v e]; exact (h.row k hk).setOther (show r + 1 + k ≠ r + 1 + y by omega) _

theorem bmGet (p r n : Nat) (g : Grid) (x y : Int) (w : World) (h : BM w p r n g) (hx0 : 0 ≤ x) (hx : x < n) (hy0 : 0 ≤ y) (hy : y < n) :
    Calls Tryz.prog 21 #[.pointer (some ⟨p, 0, none⟩), .int .i64 x, .int .i64 y] w fun e w' => e = .returned (.int .i8 (gget g x.toNat y.toNat)) ∧ w = w' := by
  obtain ⟨X, rfl⟩ := Int.eq_ofNat_of_zero_le hx0
  obtain ⟨Y, rfl⟩ := Int.eq_ofNat_of_zero_le hy0
  have hY : Y < n := by omega
  have hX : X < n := by omega
  have hs := h.small
  have c0 := h.obj.cell 0
  simp at c0
  have c1 := h.tabCell Y hY
  have c2 := (h.row Y hY).cell X (by rw [h.sq.wid Y hY]; exact hX)
  have HG : Hid (gget g X Y = (g.getD Y []).getD X 0) := rfl
  generalize hz : (g.getD Y []).getD X 0 = z at *
  have hz' := Lib.hid hz
  clear h hz
  go_enter Tryz.func21, Tryz.ntmps21
  go_wp2
  go_ret
  refine ⟨?_, rfl⟩
  rw [Int.toNat_natCast, Int.toNat_natCast, HG.out]
  rfl

theorem bmSet (p r n : Nat) (g : Grid) (x y v : Int) (w : World) (h : BM w p r n g) (hx0 : 0 ≤ x) (hx : x < n) (hy0 : 0 ≤ y) (hy : y < n) :
    Calls Tryz.prog 177 #[.pointer (some ⟨p, 0, none⟩), .int .i64 x, .int .i64 y, .int .i8 v] w fun e w' => e = .returned (.tuple #[]) ∧ BM w' p r n (gset g x.toNat y.toNat v) ∧ Frm (InM r n) w w' := by
  obtain ⟨X, rfl⟩ := Int.eq_ofNat_of_zero_le hx0
  obtain ⟨Y, rfl⟩ := Int.eq_ofNat_of_zero_le hy0
  have hY : Y < n := by omega
  have hX : X < n := by omega
  have hs := h.small
  have c0 := h.obj.cell 0
  simp at c0
  have c1 := h.tabCell Y hY
  have c2 := (h.row Y hY).cell X (by rw [h.sq.wid Y hY]; exact hX)
  have f2 := (h.row Y hY).free X
  have H := Lib.hid h
  clear h
  go_enter Tryz.func177, Tryz.ntmps177
  go_wp2
  go_end0
  rw [Int.toNat_natCast, Int.toNat_natCast]
  exact ⟨rfl, H.out.set X Y v hY, (Frm.refl _ _).setCell (.inl ⟨by show r < r + 1 + Y; omega, by show r + 1 + Y ≤ r + n; omega⟩) _⟩

theorem bmSetBool (p r n : Nat) (g : Grid) (x y : Int) (b : Bool) (w : World) (h : BM w p r n g) (hx0 : 0 ≤ x) (hx : x < n) (hy0 : 0 ≤ y) (hy : y < n) :
    Calls Tryz.prog 141 #[.pointer (some ⟨p, 0, none⟩), .int .i64 x, .int .i64 y, .bool b] w fun e w' => e = .returned (.tuple #[]) ∧ BM w' p r n (gset g x.toNat y.toNat (if b then 1 else 0)) ∧ Frm (InM r n) w w' := by
  obtain ⟨X, rfl⟩ := Int.eq_ofNat_of_zero_le hx0
  obtain ⟨Y, rfl⟩ := Int.eq_ofNat_of_zero_le hy0
  have hY : Y < n := by omega
  have hX : X < n := by omega
  have hs := h.small
  have c0 := h.obj.cell 0
  simp at c0
  have c1 := h.tabCell Y hY
  have c2 := (h.row Y hY).cell X (by rw [h.sq.wid Y hY]; exact hX)
  have f2 := (h.row Y hY).free X
  have H := Lib.hid h
  clear h
  cases b <;>
  · go_enter Tryz.func141, Tryz.ntmps141
    go_wp2
    go_end0
    exact ⟨rfl, H.out.set X Y _ hY, (Frm.refl _ _).setCell (.inl ⟨by show r < r + 1 + Y; omega, by show r + 1 + Y ≤ r + n; omega⟩) _⟩
end Go.Proofs.YtnpkihobbcglcaaGreatDoor

/- M2: The contracts of ByteMatrix's methods, 2: a new one; all of it set. -/
namespace Go.Proofs.YtnpkihobbcglcaaGreatDoor
open Go Go.RowKit

/-- The rows' table when k rows are made. -/
def someRows (r n k : Nat) : List Value := (List.range k).map (fun y => Value.slice (some ⟨r + 1 + y, 0, none⟩) n n) ++ List.replicate (n - k) (.slice none 0 0)
theorem someRows_step (r n k : Nat) (hk : k < n) : (someRows r n k).set k (.slice (some ⟨r + 1 + k, 0, none⟩) n n) = someRows r n (k + 1) := by
  unfold someRows
  obtain ⟨d, hd⟩ : ∃ d, n - k = d + 1 := ⟨n - k - 1, by omega⟩
  rw [List.set_append_right _ _ (by simp), hd, show n - (k + 1) = d by omega, List.range_succ]
  simp [List.replicate_succ]
theorem someRows_all (r n : Nat) : someRows r n n = rowVals r n := by simp [someRows, rowVals]
theorem someRows_get (r n k : Nat) (hk : k < n) : (someRows r n k)[k]? = some (.slice none 0 0) := by
  unfold someRows
  rw [List.getElem?_append_right (by simp)]
  simp [List.getElem?_replicate]; omega
theorem Ints.zeros (w : World) (k : IntKind) (T : TypeId) (n : Nat) : Ints (w.alloc (.cells (Array.replicate n (Value.int k 0)) T)) w.heap.size k T (List.replicate n 0) := by
  have := Ints.new w k T (List.replicate n 0)
  simpa using this

set_option maxHeartbeats 1000000 in
theorem newByteMatrix (n : Nat) (w : World) (hn : n ≤ 1000) :
    Calls Tryz.prog 58 #[.int .i64 (n : Int), .int .i64 (n : Int)] w fun e w' => ∃ p r, e = .returned (.pointer (some ⟨p, 0, none⟩)) ∧ BM w' p r n (fullGrid n 0) ∧ Kept w w' ∧ w.heap.size ≤ p ∧ w.heap.size ≤ r := by
  have hm1 := run_make_one 121 124 (.slice none 0 0) 24 Tryz.underlying121 info124 rfl n (by omega) (by omega)
  have hm2 := run_make_one 124 57 (.int .i8 0) 1 Tryz.underlying124 info57 rfl n (by omega) (by omega)
  go_enter Tryz.func58, Tryz.ntmps58
  go_wp2
  go_loopw [6] (fun i wr => ∃ k : Nat, k ≤ n ∧ i = .int .i64 k ∧ Blk wr w.heap.size (someRows w.heap.size n k).toArray 124 ∧ (∀ y, y < k → Ints wr (w.heap.size + 1 + y) .i8 57 (List.replicate n 0)) ∧ wr.heap.size = w.heap.size + 1 + k ∧ Kept w wr) (fun i _ => n - (intOf i).toNat)
  case atStart =>
    exact ⟨0, Nat.zero_le _, rfl, by simpa [someRows] using Blk.new w (Array.replicate n (Value.slice none 0 0)) 124, fun y hy => by omega, by simp, (Frm.refl _ _).alloc _⟩
  case round =>
    obtain ⟨k, hk, rfl, hb, hr, hz, hf⟩ := hrel
    have HR := Lib.hid hr
    have HF := Lib.hid hf
    have HZ := Lib.hid hz
    clear hr hf hz
    by_cases hlt : k < n
    · have c0 : (wr.alloc (.cells (Array.replicate n (Value.int .i8 0)) 57)).cell? ⟨w.heap.size, k, none⟩ = some (.slice none 0 0) := by
        rw [Blk.cell (hb.alloc _)]; simpa using someRows_get w.heap.size n k hlt
      have f0 := (hb.alloc (.cells (Array.replicate n (Value.int .i8 0)) 57)).free k
      have HB := Lib.hid hb
      clear hb
      go_wp2
      have hz := HZ.out
      refine ⟨⟨k + 1, by omega, by go_num, ?_, fun y hy => ?_, by simp; omega, (HF.out.alloc _).setCell (.inr (Nat.le_refl _)) _⟩, by simp [intOf]; omega⟩
      · have := (HB.out.alloc (.cells (Array.replicate n (Value.int .i8 0)) 57)).set k (.slice (some ⟨wr.heap.size, 0, none⟩) n n)
        rw [List.setIfInBounds_toArray, hz, show w.heap.size + 1 + k = w.heap.size + 1 + k from rfl, someRows_step _ _ _ hlt] at this
        rw [hz]; exact this
      · by_cases e : y = k
        · subst e
          have := (Ints.zeros wr .i8 57 n).setOther (a := ⟨w.heap.size, y, none⟩) (show wr.heap.size ≠ w.heap.size by omega) (.slice (some ⟨wr.heap.size, 0, none⟩) n n)
          rw [← hz]; exact this
        · exact ((HR.out y (by omega)).alloc _).setOther (show w.heap.size + 1 + y ≠ w.heap.size by omega) _
    · obtain rfl : n = k := by omega
      have HB := Lib.hid hb
      clear hb
      go_wp2
      go_ret
      have hz := HZ.out
      refine ⟨wr.heap.size, w.heap.size, rfl, ⟨?_, ?_, fun y hy => ?_, fullGrid_sq _ _, by omega, hn⟩, (HF.out.alloc _), by omega, by omega⟩
      · exact Blk.new wr _ _
      · have := HB.out.alloc (.cells #[Value.slice (some ⟨w.heap.size, 0, none⟩) n n, .int .i64 n, .int .i64 n] 123)
        rw [someRows_all] at this; exact this
      · have := (HR.out y hy).alloc (.cells #[Value.slice (some ⟨w.heap.size, 0, none⟩) n n, .int .i64 n, .int .i64 n] 123)
        rw [show (fullGrid n 0).getD y [] = List.replicate n 0 by simp [fullGrid, List.getD_eq_getElem?_getD, hy]]
        exact this
set_option maxHeartbeats 1000000 in
theorem bmClear (p r n : Nat) (g : Grid) (v : Int) (w : World) (h : BM w p r n g) :
    Calls Tryz.prog 134 #[.pointer (some ⟨p, 0, none⟩), .int .i8 v] w fun e w' => e = .returned (.tuple #[]) ∧ BM w' p r n (fullGrid n v) ∧ Frm (InM r n) w w' := by
  have c0 := h.obj.cell 0
  simp at c0
  have hs := h.small
  have hf : clearG n v g = fullGrid n v := clearG_full v g h.sq
  have H := Lib.hid h
  have HF := Lib.hid hf
  clear h hf
  go_enter Tryz.func134, Tryz.ntmps134
  go_wp2
  go_loopw [11, 4, 22, 5] (fun i _ _ _ wr => ∃ k : Nat, k ≤ n ∧ i = .int .i64 k ∧ BM wr p r n (iterN (fun y g => clearRow n y v g) k g) ∧ Frm (InM r n) w wr) (fun i _ _ _ _ => n - (intOf i).toNat)
  case atStart => exact ⟨0, Nat.zero_le _, rfl, H.out, Frm.refl _ _⟩
  case round =>
    obtain ⟨k, hk, rfl, hb, hfr⟩ := hrel
    by_cases hlt : k < n
    · have d0 := hb.obj.cell 0
      simp at d0
      have d1 := hb.tabCell k hlt
      have HB := Lib.hid hb
      have HFR := Lib.hid hfr
      clear hb hfr
      go_wp2
      go_loopw [22, 5] (fun j _ wx => ∃ m : Nat, m ≤ n ∧ j = .int .i64 m ∧ BM wx p r n (iterN (fun x g => gset g x k v) m (iterN (fun y g => clearRow n y v g) k g)) ∧ Frm (InM r n) w wx) (fun j _ _ => n - (intOf j).toNat)
      case atStart => exact ⟨0, Nat.zero_le _, rfl, HB.out, HFR.out⟩
      case round =>
        obtain ⟨m, hm, rfl, hb, hfr⟩ := hrel
        by_cases hlm : m < n
        · have a0 := hb.obj.cell 0
          simp at a0
          have a1 := hb.tabCell k hlt
          have a2 := (hb.row k hlt).cell m (by rw [hb.sq.wid k hlt]; exact hlm)
          have a3 := (hb.row k hlt).free m
          have HX := Lib.hid hb
          have HY := Lib.hid hfr
          clear hb hfr
          go_wp2
          refine ⟨⟨m + 1, by omega, by go_num, HX.out.set m k v hlt, HY.out.setCell (.inl ⟨by show r < r + 1 + k; omega, by show r + 1 + k ≤ r + n; omega⟩) _⟩, by simp [intOf]; omega⟩
        · obtain rfl : n = m := by omega
          have HX := Lib.hid hb
          have HY := Lib.hid hfr
          clear hb hfr
          go_wp2
          refine ⟨⟨k + 1, by omega, by go_num, HX.out, HY.out⟩, by simp [intOf]; omega⟩
    · obtain rfl : n = k := by omega
      have HX := Lib.hid hb
      have HY := Lib.hid hfr
      clear hb hfr
      go_wp2
      go_end0
      refine ⟨rfl, ?_, HY.out⟩
      rw [← HF.out]; exact HX.out
end Go.Proofs.YtnpkihobbcglcaaGreatDoor

/- M3: The fixed patterns laid into a matrix, 1: finders, their separators, alignment patterns. -/
namespace Go.Proofs.YtnpkihobbcglcaaGreatDoor
open Go Go.RowKit

set_option maxHeartbeats 2000000 in
theorem embedPdp (p r n : Nat) (g : Grid) (X Y : Int) (w : World) (h : BM w p r n g) (hX0 : 0 ≤ X) (hY0 : 0 ≤ Y) (hX : X + 7 ≤ n) (hY : Y + 7 ≤ n) :
    Calls Tryz.prog 174 #[.int .i64 X, .int .i64 Y, .pointer (some ⟨p, 0, none⟩)] w fun e w' => e = .returned (.tuple #[]) ∧ BM w' p r n (patG pdpAt 7 X.toNat Y.toNat 7 g) ∧ Frm (InM r n) w w' := by
  obtain ⟨X, rfl⟩ := Int.eq_ofNat_of_zero_le hX0
  obtain ⟨Y, rfl⟩ := Int.eq_ofNat_of_zero_le hY0
  simp only [Int.toNat_natCast]
  have hs := h.small
  have H := Lib.hid h
  clear h hX0 hY0
  go_enter Tryz.func174, Tryz.ntmps174
  go_wp2
  go_loopw [6, 7, 8] (fun i _ _ wr => ∃ k : Nat, k ≤ 7 ∧ i = .int .i64 k ∧ BM wr p r n (patG pdpAt 7 X Y k g) ∧ Frm (InM r n) w wr) (fun i _ _ _ => 7 - (intOf i).toNat)
  case atStart => exact ⟨0, Nat.zero_le _, rfl, H.out, Frm.refl _ _⟩
  case round =>
    obtain ⟨k, hk, rfl, hb, hfr⟩ := hrel
    have HB := Lib.hid hb
    have HFR := Lib.hid hfr
    clear hb hfr
    by_cases hlt : k < 7
    · go_wp2_with fail
      refine (pdp_any wr).mono ?_
      rintro e w1 ⟨⟨tb, rfl, htb1, htb2, htab⟩, hkept⟩
      obtain ⟨b, hb1, hb2, hb3⟩ := htab k (by have : k = 0 ∨ k = 1 ∨ k = 2 ∨ k = 3 ∨ k = 4 ∨ k = 5 ∨ k = 6 := by omega
                                              simp; omega)
      have hlen : (pdpRows.getD k []).length = 7 := by
        have : k = 0 ∨ k = 1 ∨ k = 2 ∨ k = 3 ∨ k = 4 ∨ k = 5 ∨ k = 6 := by omega
        rcases this with rfl | rfl | rfl | rfl | rfl | rfl | rfl <;> rfl
      rw [hlen] at hb2
      have HB3 := Lib.hid hb3
      have HLEN := Lib.hid hlen
      have HB1 := Lib.hid (HB.out.kept hkept)
      have HFR1 := Lib.hid (HFR.out.trans hkept.toFrm)
      have HWR := Lib.hid (show wr.heap.size ≤ w1.heap.size from hkept.size)
      clear hkept htab hb3 hlen
      have HN := Lib.hid (HB.out.notIn (show wr.heap.size ≤ b from hb1))
      go_wp2
      go_loopw [8] (fun j wx => ∃ m : Nat, m ≤ 7 ∧ j = .int .i64 m ∧ BM wx p r n (patRow pdpAt X Y k m (patG pdpAt 7 X Y k g)) ∧ Frm (InM r n) w wx ∧ Ints wx b .i8 57 (pdpRows.getD k [])) (fun j _ => 7 - (intOf j).toNat)
      case atStart => exact ⟨0, Nat.zero_le _, rfl, HB1.out, HFR1.out, HB3.out⟩
      case round =>
        obtain ⟨m, hm, rfl, hb, hfr, hi⟩ := hrel
        by_cases hlm : m < 7
        · have hc := hi.cell m (by rw [HLEN.out]; exact hlm)
          obtain ⟨z, hz⟩ : ∃ z, pdpAt k m = z := ⟨_, rfl⟩
          rw [show (pdpRows.getD k []).getD m 0 = z from hz] at hc
          have HC := Lib.hid hz
          clear hz
          have HX := Lib.hid hb
          have HY := Lib.hid hfr
          have HI := Lib.hid hi
          clear hb hfr hi
          go_wp2_with fail
          refine (bmSet p r n _ _ _ _ _ HX.out (by omega) (by omega) (by omega) (by omega)).mono ?_
          rintro e w2 ⟨rfl, h1, h2⟩
          have H1 := Lib.hid h1
          have H2 := Lib.hid h2
          clear h1 h2
          go_wp2
          refine ⟨⟨m + 1, by omega, by go_num, ?_, HY.out.trans H2.out, HI.out.frm H2.out HN.out⟩, by simp [intOf]; omega⟩
          have := H1.out
          rw [show ((X : Int) + m).toNat = X + m by omega, show ((Y : Int) + k).toNat = Y + k by omega, ← HC.out] at this
          exact this
        · obtain rfl : m = 7 := by omega
          have HX := Lib.hid hb
          have HY := Lib.hid hfr
          clear hb hfr hi
          go_wp2
          exact ⟨⟨k + 1, by omega, by go_num, HX.out, HY.out⟩, by simp [intOf]; omega⟩
    · obtain rfl : k = 7 := by omega
      go_wp2
      go_end0
      exact ⟨rfl, HB.out, HFR.out⟩
set_option maxHeartbeats 2000000 in
theorem embedPap (p r n : Nat) (g : Grid) (X Y : Int) (w : World) (h : BM w p r n g) (hX0 : 0 ≤ X) (hY0 : 0 ≤ Y) (hX : X + 5 ≤ n) (hY : Y + 5 ≤ n) :
    Calls Tryz.prog 179 #[.int .i64 X, .int .i64 Y, .pointer (some ⟨p, 0, none⟩)] w fun e w' => e = .returned (.tuple #[]) ∧ BM w' p r n (patG papAt 5 X.toNat Y.toNat 5 g) ∧ Frm (InM r n) w w' := by
  obtain ⟨X, rfl⟩ := Int.eq_ofNat_of_zero_le hX0
  obtain ⟨Y, rfl⟩ := Int.eq_ofNat_of_zero_le hY0
  simp only [Int.toNat_natCast]
  have hs := h.small
  have H := Lib.hid h
  clear h hX0 hY0
  go_enter Tryz.func179, Tryz.ntmps179
  go_wp2
  go_loopw [6, 7, 8] (fun i _ _ wr => ∃ k : Nat, k ≤ 5 ∧ i = .int .i64 k ∧ BM wr p r n (patG papAt 5 X Y k g) ∧ Frm (InM r n) w wr) (fun i _ _ _ => 5 - (intOf i).toNat)
  case atStart => exact ⟨0, Nat.zero_le _, rfl, H.out, Frm.refl _ _⟩
  case round =>
    obtain ⟨k, hk, rfl, hb, hfr⟩ := hrel
    have HB := Lib.hid hb
    have HFR := Lib.hid hfr
    clear hb hfr
    by_cases hlt : k < 5
    · go_wp2_with fail
      refine (pap_any wr).mono ?_
      rintro e w1 ⟨⟨tb, rfl, htb1, htb2, htab⟩, hkept⟩
      obtain ⟨b, hb1, hb2, hb3⟩ := htab k (by have : k = 0 ∨ k = 1 ∨ k = 2 ∨ k = 3 ∨ k = 4 := by omega
                                              simp; omega)
      have hlen : (papRows.getD k []).length = 5 := by
        have : k = 0 ∨ k = 1 ∨ k = 2 ∨ k = 3 ∨ k = 4 := by omega
        rcases this with rfl | rfl | rfl | rfl | rfl <;> rfl
      rw [hlen] at hb2
      have HB3 := Lib.hid hb3
      have HLEN := Lib.hid hlen
      have HB1 := Lib.hid (HB.out.kept hkept)
      have HFR1 := Lib.hid (HFR.out.trans hkept.toFrm)
      have HWR := Lib.hid (show wr.heap.size ≤ w1.heap.size from hkept.size)
      clear hkept htab hb3 hlen
      have HN := Lib.hid (HB.out.notIn (show wr.heap.size ≤ b from hb1))
      go_wp2
      go_loopw [8] (fun j wx => ∃ m : Nat, m ≤ 5 ∧ j = .int .i64 m ∧ BM wx p r n (patRow papAt X Y k m (patG papAt 5 X Y k g)) ∧ Frm (InM r n) w wx ∧ Ints wx b .i8 57 (papRows.getD k [])) (fun j _ => 5 - (intOf j).toNat)
      case atStart => exact ⟨0, Nat.zero_le _, rfl, HB1.out, HFR1.out, HB3.out⟩
      case round =>
        obtain ⟨m, hm, rfl, hb, hfr, hi⟩ := hrel
        by_cases hlm : m < 5
        · have hc := hi.cell m (by rw [HLEN.out]; exact hlm)
          obtain ⟨z, hz⟩ : ∃ z, papAt k m = z := ⟨_, rfl⟩
          rw [show (papRows.getD k []).getD m 0 = z from hz] at hc
          have HC := Lib.hid hz
          clear hz
          have HX := Lib.hid hb
          have HY := Lib.hid hfr
          have HI := Lib.hid hi
          clear hb hfr hi
          go_wp2_with fail
          refine (bmSet p r n _ _ _ _ _ HX.out (by omega) (by omega) (by omega) (by omega)).mono ?_
          rintro e w2 ⟨rfl, h1, h2⟩
          have H1 := Lib.hid h1
          have H2 := Lib.hid h2
          clear h1 h2
          go_wp2
          refine ⟨⟨m + 1, by omega, by go_num, ?_, HY.out.trans H2.out, HI.out.frm H2.out HN.out⟩, by simp [intOf]; omega⟩
          have := H1.out
          rw [show ((X : Int) + m).toNat = X + m by omega, show ((Y : Int) + k).toNat = Y + k by omega, ← HC.out] at this
          exact this
        · obtain rfl : m = 5 := by omega
          have HX := Lib.hid hb
          have HY := Lib.hid hfr
          clear hb hfr hi
          go_wp2
          exact ⟨⟨k + 1, by omega, by go_num, HX.out, HY.out⟩, by simp [intOf]; omega⟩
    · obtain rfl : k = 5 := by omega
      go_wp2
      go_end0
      exact ⟨rfl, HB.out, HFR.out⟩
end Go.Proofs.YtnpkihobbcglcaaGreatDoor
