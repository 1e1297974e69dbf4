/- Decoding 23: the result's object; the level's name. Decoding 24: the stream of bits parsed. The law's own small functions: the text (qrAscii). -/
import Derived.Test.YtnpkihobbcglcaaGreatDoorQ23
import Derived.Test.YtnpkihobbcglcaaGreatDoorQ40
import Derived.Laws.IdiomStrings
import Derived.Deep.RegionHeld3
set_option linter.unusedSimpArgs false
set_option linter.unusedVariables false

/- U23: Decoding 23: the result's object; the level's name. -/
namespace Go.Proofs.YtnpkihobbcglcaaGreatDoor
open Go Go.RowKit

def txtOf (xs : List Nat) : ByteArray := ⟨(xs.map UInt8.ofNat).toArray⟩
theorem text_run (xs : List Nat) (hb : Bytes xs) (g cap : Nat) (w : World) (hc : ∀ j, j < xs.length → w.cell? ⟨g, j, none⟩ = some (.int .u8 (xs.getD j 0 : Nat))) :
    (convert 32 9 (.slice (some ⟨g, 0, none⟩) xs.length cap)).run Tryz.prog w = .ok (.string (txtOf xs)) w := by
  have h := run_convert_bytes_back (P := Tryz.prog) w 32 9 5 ⟨g, 0, none⟩ cap (xs.map UInt8.ofNat) (by kernel_rfl) (by kernel_rfl) (by kernel_rfl) (fun j hj => by
    rw [addr_add, List.getElem_map]
    have hj' : j < xs.length := by simpa using hj
    rw [hc j hj', List.getD_eq_getElem?_getD, List.getElem?_eq_getElem hj']
    have := hb _ (List.getElem_mem hj')
    simp only [Option.getD_some]
    exact congrArg (fun z : Nat => some (Value.int .u8 (z : Int))) (UInt8.toNat_ofNat_of_lt this).symm)
  rw [List.length_map] at h
  exact h

theorem levelName (l : Nat) (w : World) (hl : l < 4) : Calls Tryz.prog 229 #[.int .i64 l] w fun e w' => (∃ s, e = .returned (.string s)) ∧ w = w' := by
  have hl2 : l = 0 ∨ l = 1 ∨ l = 2 ∨ l = 3 := by omega
  rcases hl2 with rfl | rfl | rfl | rfl
  all_goals
    go_enter Tryz.func229, Tryz.ntmps229
    go_wp2
    go_ret
    exact ⟨⟨_, rfl⟩, rfl⟩

theorem newResult (a c D : Nat) (t s : ByteArray) (o2 : Option Addr) (n2 c2 : Nat) (x y z : Int) (w : World) (hD : D ≤ 1000) :
    Calls Tryz.prog 228 #[.slice (some ⟨a, 0, none⟩) D c, .string t, .slice o2 n2 c2, .string s, .int .i64 x, .int .i64 y, .int .i64 z] w fun e w' => ∃ u5 u6 u7, e = .returned (.pointer (some ⟨w.heap.size, 0, none⟩)) ∧
      Blk w' w.heap.size #[.slice (some ⟨a, 0, none⟩) D c, .int .i64 (8 * D : Nat), .string t, .slice o2 n2 c2, .string s, .int .i64 u5, u6, u7, .int .i64 y, .int .i64 x, .int .i64 z] 192 ∧ Kept w w' := by
  go_enter Tryz.func228, Tryz.ntmps228
  go_wp2
  have hb := Blk.new w #[.slice (some ⟨a, 0, none⟩) D c, .int .i64 (8 * D : Nat), .string t, .slice o2 n2 c2, .string s, .int .i64 0, .int .i64 0, .nilIface, .int .i64 y, .int .i64 x, .int .i64 z] 192
  have ka : Kept w (w.alloc (.cells #[.slice (some ⟨a, 0, none⟩) D c, .int .i64 (8 * D : Nat), .string t, .slice o2 n2 c2, .string s, .int .i64 0, .int .i64 0, .nilIface, .int .i64 y, .int .i64 x, .int .i64 z] 192)) := (Frm.refl _ _).alloc _
  go_ret
  exact ⟨_, _, _, rfl, hb, ka⟩
end Go.Proofs.YtnpkihobbcglcaaGreatDoor

/- U24: Decoding 24: the stream of bits parsed. -/
namespace Go.Proofs.YtnpkihobbcglcaaGreatDoor
open Go Go.RowKit

/-- The decoder's result. -/
def DRes (w : World) (p : Nat) (xs : List Nat) : Prop := ∃ s D c o n2 c2 t u4 u5 u6 u7 u8 u9 u10,
  Blk w p #[.slice (some ⟨s, 0, none⟩) D c, .int .i64 u4, .string (txtOf xs), .slice o n2 c2, .string t, .int .i64 u5, u6, u7, .int .i64 u8, .int .i64 u9, .int .i64 u10] 192 ∧
  (∃ rs, D = rs.length ∧ Nats w s .u8 5 rs ∧ 1 ≤ D ∧ D ≤ 1000) ∧ (∃ L, (Segs w 0 (.slice o n2 c2) L ∨ (L = [] ∧ Value.slice o n2 c2 = .slice none 0 0)) ∧ (L = [] ∨ L = [xs]))
theorem DRes.kept {w w' : World} {p : Nat} {xs : List Nat} (h : DRes w p xs) (hf : Kept w w') : DRes w' p xs := by
  obtain ⟨s, D, c, o, n2, c2, t, u4, u5, u6, u7, u8, u9, u10, h1, ⟨rs, h2, h3, h4, h5⟩, L, h6, h7⟩ := h
  exact ⟨s, D, c, o, n2, c2, t, u4, u5, u6, u7, u8, u9, u10, h1.frm hf (fun h => h), ⟨rs, h2, h3.frm hf (fun h => h), h4, h5⟩, L, h6.imp (fun k => k.frm hf (fun _ e => e.elim)) (fun k => k), h7⟩

theorem Segs.low {w : World} {lo : Nat} {v : Value} {L : List (List Nat)} (h : Segs w lo v L) : Segs w 0 v L := by
  obtain ⟨g, cap, vs, h1, h2, h3, h4⟩ := h
  refine ⟨g, cap, vs, h1, h2, Nat.zero_le _, fun j xs hj => ?_⟩
  obtain ⟨b, h5, h6, h7⟩ := h4 j xs hj
  exact ⟨b, h5, h6, Nat.zero_le _⟩
theorem DRes.make {w w3 w4 w5 : World} {q s D c p n2 c2 : Nat} {xs rs : List Nat} {o : Option Addr} {ls : ByteArray} {u4 u5 x y z : Int} {u6 u7 : Value} (hq : w.heap.size = q) (hrs : Nats w s .u8 5 rs) (hrl : rs.length = D) (hD1 : 1 ≤ D) (hD : D ≤ 1000)
    (k3 : Kept w w3) (f4 : Frm (SegF q (q + 1)) w3 w4) (k5 : Kept w4 w5)
    (hb : Blk w5 p #[.slice (some ⟨s, 0, none⟩) D c, .int .i64 u4, .string (txtOf xs), .slice o n2 c2, .string ls, .int .i64 u5, u6, u7, .int .i64 x, .int .i64 y, .int .i64 z] 192)
    (hs : ∃ L, (Segs w4 (q + 1) (.slice o n2 c2) L ∨ (L = [] ∧ Value.slice o n2 c2 = .slice none 0 0)) ∧ (L = [] ∨ L = [xs])) : DRes w5 p xs ∧ Kept w w5 := by
  have k : Kept w w5 := ((((k3.mono (S' := SegF q (q + 1)) (fun _ _ e => e.elim)).trans f4).trans (k5.mono (fun _ _ e => e.elim))).mono (fun k hk e => by unfold SegF at e; omega))
  obtain ⟨L, h1, h2⟩ := hs
  exact ⟨⟨s, D, c, o, n2, c2, ls, u4, u5, u6, u7, x, y, z, hb, ⟨rs, hrl.symm, hrs.frm k (fun h => h), hD1, hD⟩, L, h1.imp (fun e => (e.frm k5 (fun _ e => e.elim)).low) (fun e => e), h2⟩, k⟩

set_option maxRecDepth 100000 in
set_option maxHeartbeats 16000000 in
theorem parseStream (s c D pv l v m : Nat) (xs rs : List Nat) (tl : List Bool) (w : World) (hB : (msgBits m xs ++ tl).length = 8 * D) (hz : Zero4 tl) (hm : Suits m xs) (hby : Bytes xs) (hx1 : 1 ≤ xs.length) (hxl : xs.length ≤ 60)
    (hl : l < 4) (h1 : 1 ≤ v) (h7 : v ≤ 7) (hpv : w.cell? ⟨pv, 0, none⟩ = some (.int .i64 v)) (hrs : Nats w s .u8 5 rs) (hrl : rs.length = D) (hrb : ∀ i, i < D → rs.getD i 0 = rd (msgBits m xs ++ tl) (8 * i) 8) (hD1 : 1 ≤ D) (hD : D ≤ 1000) :
    Calls Tryz.prog 189 #[.slice (some ⟨s, 0, none⟩) D c, .pointer (some ⟨pv, 0, none⟩), .int .i64 l, .map none] w fun e w' => ∃ p, e = .returned (.tuple #[.pointer (some ⟨p, 0, none⟩), .nilIface]) ∧ DRes w' p xs ∧ Kept w w' := by
  have hmode := hm.mode
  have hcell : ∀ i, i < D → w.cell? ⟨s, i, none⟩ = some (.int .u8 (rd (msgBits m xs ++ tl) (8 * i) 8 : Nat)) := fun i hi => by
    rw [hrs.cell i (by omega), hrb i hi]
  have hsrc := newSource8 s c D (msgBits m xs ++ tl) w hcell hrs.lt
  have hrm := rd_mode m xs tl hmode
  have hrc := rd_count m xs tl hmode (by omega)
  have hre := rd_end (msgBits m xs) tl hz
  obtain ⟨pre, hpl, hpe⟩ := msg_pre m xs tl
  have hml : (msgBits m xs).length = 4 + ccb m + (txtBits m xs).length := by
    unfold msgBits; simp only [List.length_append, topBits_length]
  have hcb : 8 ≤ ccb m ∧ ccb m ≤ 10 := by rcases hmode with rfl | rfl | rfl <;> decide
  have htb : (msgBits m xs).length + tl.length = 8 * D := by rw [← hB, List.length_append]
  rw [hpe] at hsrc hrm hrc hre hB hrb
  rw [hml] at hre htb
  have hs0 := hrs.lt
  generalize hq : w.heap.size = q at *
  have hqq : q < q + 1 := Nat.lt_succ_self q
  have hnumE : m = 1 → numBits xs = txtBits m xs := fun h => by unfold txtBits; rw [if_pos h]
  have halpE : m = 2 → alpBits xs = txtBits m xs := fun h => by unfold txtBits; rw [if_neg (by omega), if_pos h]
  have hbytE : m = 4 → bytBits xs = txtBits m xs := fun h => by unfold txtBits; rw [if_neg (by omega), if_neg (by omega)]
  obtain ⟨P1, hP1⟩ : ∃ P1, P1 = 4 + ccb m + (txtBits m xs).length := ⟨_, rfl⟩
  have hnum : m = 1 → ∀ (rv : Value) (wx : World), BSrc wx q s c D (pre ++ (txtBits m xs ++ tl)) (4 + ccb m) → RB wx (q + 1) rv [] → q + 1 ≤ wx.heap.size →
      Calls Tryz.prog 224 #[.pointer (some ⟨q, 0, none⟩), rv, .int .i64 (xs.length : Nat)] wx fun e w' => ∃ rv', e = .returned (.tuple #[rv', .nilIface]) ∧ RB w' (q + 1) rv' xs ∧ BSrc w' q s c D (pre ++ (txtBits m xs ++ tl)) P1 ∧ Frm (SegF q (q + 1)) wx w' := fun hm1 rv wx hb hr hlo => by
    have := decodeNum q s c D (q + 1) pre tl xs [] rv wx (by rw [hnumE hm1, hpl]; exact hb) (by rw [hnumE hm1]; exact hB) hD hr (by simp) hqq (by omega) hlo (by rcases hm with h | h | h; exact h.2; omega; omega) hxl
    rw [hnumE hm1, List.nil_append, hpl, ← hP1] at this
    exact this
  have halp : m = 2 → ∀ (rv : Value) (wx : World), BSrc wx q s c D (pre ++ (txtBits m xs ++ tl)) (4 + ccb m) → RB wx (q + 1) rv [] → q + 1 ≤ wx.heap.size →
      Calls Tryz.prog 225 #[.pointer (some ⟨q, 0, none⟩), rv, .int .i64 (xs.length : Nat), .bool false] wx fun e w' => ∃ rv', e = .returned (.tuple #[rv', .nilIface]) ∧ RB w' (q + 1) rv' xs ∧ BSrc w' q s c D (pre ++ (txtBits m xs ++ tl)) P1 ∧ Frm (SegF q (q + 1)) wx w' := fun hm1 rv wx hb hr hlo => by
    have := decodeAlp q s c D (q + 1) pre tl xs [] rv wx (by rw [halpE hm1, hpl]; exact hb) (by rw [halpE hm1]; exact hB) hD hr (by simp) hqq (by omega) hlo (by rcases hm with h | h | h; omega; exact h.2; omega) hxl
    rw [halpE hm1, List.nil_append, hpl, ← hP1] at this
    exact this
  have hbyt : m = 4 → ∀ (rv sv v3 v5 : Value) (wx : World), BSrc wx q s c D (pre ++ (txtBits m xs ++ tl)) (4 + ccb m) → RB wx (q + 1) rv [] → Segs wx (q + 1) sv [] → q + 1 ≤ wx.heap.size →
      Calls Tryz.prog 226 #[.pointer (some ⟨q, 0, none⟩), rv, .int .i64 (xs.length : Nat), v3, sv, v5] wx fun e w' => ∃ rv' sv', e = .returned (.tuple #[rv', sv', .nilIface]) ∧ RB w' (q + 1) rv' xs ∧ Segs w' (q + 1) sv' [xs] ∧ BSrc w' q s c D (pre ++ (txtBits m xs ++ tl)) P1 ∧ Frm (SegF q (q + 1)) wx w' := fun hm1 rv sv v3 v5 wx hb hr hsg hlo => by
    have := decodeByt q s c D (q + 1) pre tl xs [] rv sv v3 v5 wx (by rw [hbytE hm1, hpl]; exact hb) (by rw [hbytE hm1]; exact hB) hD hr (by simp) hsg hqq (by omega) hlo (fun k hk => by
      rw [List.getD_eq_getElem?_getD, List.getElem?_eq_getElem hk]; exact hby _ (List.getElem_mem hk)) hx1 hxl
    rw [hbytE hm1, List.nil_append, hpl, ← hP1] at this
    exact this
  rw [← hP1] at hre htb
  have hP4 : 4 + ccb m ≤ P1 := by omega
  have hcc := fun (wx : World) (h : wx.cell? ⟨pv, 0, none⟩ = some (.int .i64 v)) => countBits m v pv wx hmode h h1 h7
  have hmk : ∀ m, m = 0 ∨ m = 1 ∨ m = 2 ∨ m = 4 → ∀ wx, Calls Tryz.prog 220 #[.int .i64 (m : Nat)] wx fun e w' => e = .returned (.tuple #[.int .i64 (m : Nat), .nilIface]) ∧ wx = w' := fun m hm wx => mode_ok m wx hm
  have hrd := fun pos n wx hb hn1 hn2 hp => readBits q s c D pos n (pre ++ (txtBits m xs ++ tl)) wx hb hB hD hn1 hn2 hp
  have hav := fun pos wx hb hp => available q s c D pos (pre ++ (txtBits m xs ++ tl)) wx hb hD hp
  have hpq : pv < q := by rw [← hq]; exact World.block_lt_of_cell? _ _ hpv
  generalize htl : tl.length = T at *
  generalize pre ++ (txtBits m xs ++ tl) = BB at *
  clear hm hz hpe hml hnumE halpE hbytE hP1 hpl htl hcell pre
  have HNUM := Lib.hid hnum
  have HALP := Lib.hid halp
  have HBYT := Lib.hid hbyt
  have HCC := Lib.hid hcc
  have HMK := Lib.hid hmk
  have HRD := Lib.hid hrd
  have HAV := Lib.hid hav
  have HRM := Lib.hid hrm
  have HRC := Lib.hid hrc
  have HRE := Lib.hid hre
  have HRB := Lib.hid hrb
  have HRS := Lib.hid hrs
  have HSRC := Lib.hid hsrc
  have HPV := Lib.hid hpv
  have HQ := Lib.hid hq
  have HRL := Lib.hid hrl
  have HBL := Lib.hid hB
  clear hnum halp hbyt hcc hmk hrd hav hrm hrc hre hrb hrs hsrc hpv hq hrl hB
  go_enter Tryz.func189, Tryz.ntmps189
  go_wp2_with fail
  with_reducible refine HSRC.out.mono ?_
  rintro _ w1 ⟨rfl, hb1, k1⟩
  have HB1 := Lib.hid hb1
  have HK1 := Lib.hid k1
  clear hb1 k1 HSRC
  have hmk1 : (Instr.makeSlice 32 (.int .i64 0) (.int .i64 50)).run Tryz.prog w1 = .ok (.slice (some ⟨w1.heap.size, 0, none⟩) 0 50) (w1.alloc (.cells (Array.replicate 50 (.int .u8 0)) 5)) := run_make_cap 32 5 (.int .u8 0) 1 (by kernel_rfl) info5 rfl 0 50 (by omega) (by omega) (by omega) w1
  have hr1 := Row.made (Blk.new w1 (Array.replicate 50 (.int .u8 0)) 5) (by simp [maxLen])
  have ka1 : Kept w1 (w1.alloc (.cells (Array.replicate 50 (.int .u8 0)) 5)) := (Frm.refl _ _).alloc _
  have hs1 : w1.heap.size < (w1.alloc (.cells (Array.replicate 50 (.int .u8 0)) 5)).heap.size := (Blk.new w1 (Array.replicate 50 (.int .u8 0)) 5).lt
  generalize w1.alloc (.cells (Array.replicate 50 (.int .u8 0)) 5) = w2 at *
  have hmk2 : (Instr.makeSlice 33 (.int .i64 0) (.int .i64 1)).run Tryz.prog w2 = .ok (.slice (some ⟨w2.heap.size, 0, none⟩) 0 1) (w2.alloc (.cells (Array.replicate 1 (.slice none 0 0)) 32)) := run_make_cap 33 32 (.slice none 0 0) 24 (by kernel_rfl) info32 rfl 0 1 (by omega) (by omega) (by omega) w2
  have hr2 := Row.made (Blk.new w2 (Array.replicate 1 (.slice none 0 0)) 32) (by simp [maxLen])
  have ka2 : Kept w2 (w2.alloc (.cells (Array.replicate 1 (.slice none 0 0)) 32)) := (Frm.refl _ _).alloc _
  generalize w2.alloc (.cells (Array.replicate 1 (.slice none 0 0)) 32) = w3 at *
  have hq1 : q + 1 ≤ w1.heap.size := HB1.out.obj.lt
  have hrbs : RB w3 (q + 1) (.slice (some ⟨w1.heap.size, 0, none⟩) 0 50) [] := ⟨_, _, rfl, by simpa [natVals] using hr1.kept ka2, by omega⟩
  have hsgs : Segs w3 (q + 1) (.slice (some ⟨w2.heap.size, 0, none⟩) 0 1) [] := ⟨_, _, [], rfl, by simpa using hr2, by omega, fun j xs hj => by simp at hj⟩
  have hb3 := HB1.out.kept (ka1.trans ka2)
  have hk3 := HK1.out.trans (ka1.trans ka2)
  generalize Value.slice (some ⟨w1.heap.size, 0, none⟩) 0 50 = rv0 at *
  generalize Value.slice (some ⟨w2.heap.size, 0, none⟩) 0 1 = sv0 at *
  have HMK1 := Lib.hid hmk1
  have HMK2 := Lib.hid hmk2
  have HRBS := Lib.hid hrbs
  have HSGS := Lib.hid hsgs
  have HB3 := Lib.hid hb3
  have HK3 := Lib.hid hk3
  clear hr1 ka1 hs1 hr2 ka2 hrbs hsgs hb3 hk3 HB1 HK1 hq1
  dsimp only
  go_wp2_with fail
  clear hmk1 hmk2 HMK1 HMK2 w1 w2
  have hlo3 : q + 1 ≤ w3.heap.size := HB3.out.obj.lt
  go_loopw [11, 12, 13, 14, 16, 17, 18, 19, 20, 21, 22, 23, 24, 25, 26, 27, 28, 29, 30] (fun v11 v12 v13 v14 v16 v17 v18 v19 v20 _ _ _ _ _ _ _ _ _ _ wr =>
      v13 = .int .i64 (-1) ∧ v14 = .int .i64 (-1) ∧ v16 = .pointer none ∧ v17 = .bool false ∧ v18 = .bool false ∧ v19 = .bool false ∧ Frm (SegF q (q + 1)) w3 wr ∧
      ((v20 = .int .i64 0 ∧ RB wr (q + 1) v11 [] ∧ Segs wr (q + 1) v12 [] ∧ BSrc wr q s c D BB 0) ∨
       (v20 = .int .i64 m ∧ RB wr (q + 1) v11 xs ∧ ((∃ g cap, v12 = .slice (some ⟨g, 0, none⟩) 0 cap) ∨ Segs wr (q + 1) v12 [xs]) ∧ BSrc wr q s c D BB P1)))
    (fun _ _ _ _ _ _ _ _ v20 _ _ _ _ _ _ _ _ _ _ _ => if intOf v20 = 0 then 1 else 0)
  case atStart => exact ⟨rfl, rfl, rfl, rfl, rfl, rfl, Frm.refl _ _, .inl ⟨rfl, HRBS.out, HSGS.out, HB3.out⟩⟩
  case round =>
    clear HRBS HSGS HB3
    obtain ⟨rfl, rfl, rfl, rfl, rfl, rfl, hf, ⟨rfl, hr, hsg, hb⟩ | ⟨rfl, hr, hsg, hb⟩⟩ := hrel
    · have hlw : q + 1 ≤ wr.heap.size := Nat.le_trans hlo3 hf.size
      have ha := HAV.out 0 wr hb (by omega)
      have d4 : decide (((8 * D - 0 : Nat) : Int) < 4) = false := by simp; omega
      have HA := Lib.hid ha
      have HF := Lib.hid hf
      have HR := Lib.hid hr
      have HSG := Lib.hid hsg
      have HB := Lib.hid hb
      clear ha hf hr hsg hb
      go_wp2_with fail
      with_reducible refine HA.out.mono ?_
      rintro _ w4 ⟨rfl, k4⟩
      have hb4 := HB.out.kept k4
      have hc4 := HRD.out 0 4 w4 hb4 (by omega) (by omega) (by omega)
      rw [HRM.out] at hc4
      simp only [Int.cast_ofNat_Int] at hc4
      have HC4 := Lib.hid hc4
      have HR4 := Lib.hid (HR.out.frm k4 (fun _ e => e.elim))
      have HSG4 := Lib.hid (HSG.out.frm k4 (fun _ e => e.elim))
      have HF4 := Lib.hid (HF.out.trans (k4.mono (S' := SegF q (q + 1)) (fun _ _ e => e.elim)))
      clear k4 hb4 hc4 HA HF HR HSG HB
      dsimp only
      go_wp2_with fail
      with_reducible refine HC4.out.mono ?_
      rintro _ w5 ⟨rfl, hb5, hf5⟩
      have HR5 := Lib.hid (HR4.out.frm hf5 (fun _ e => by omega))
      have HSG5 := Lib.hid (HSG4.out.frm hf5 (fun _ e => by omega))
      have HF5 := Lib.hid (segTrans HF4.out hf5)
      have HB5 := Lib.hid hb5
      have hm5 := HMK.out m (by rcases hmode with h | h | h <;> omega) w5
      have HM5 := Lib.hid hm5
      clear hb5 hf5 hm5 HC4 HF4 HR4 HSG4
      dsimp only
      go_wp2_with fail
      with_reducible refine HM5.out.mono ?_
      rintro _ _ ⟨rfl, rfl⟩
      have hpv5 : w5.cell? ⟨pv, 0, none⟩ = some (.int .i64 v) := by
        have h3 := cell_kept HPV.out HK3.out
        rw [HF5.out.cell (World.block_lt_of_cell? _ _ h3) (by unfold SegF; simp only []; omega)]
        exact h3
      have hcc := HCC.out w5 hpv5
      have HCC5 := Lib.hid hcc
      clear HM5 hpv5 hcc
      have hcb1 := hcb.1
      have hcb2 := hcb.2
      generalize hcbg : ccb m = cb at *
      have HCBG := Lib.hid hcbg
      clear hcb hcbg
      rcases hmode with rfl | rfl | rfl
      · have HCC6 : RowKit.Hid (Calls Tryz.prog 92 #[.int .i64 1, .pointer (some ⟨pv, 0, none⟩)] w5 fun e w' => e = .returned (.int .i64 (cb : Nat)) ∧ Kept w5 w') := HCC5
        clear HCC5
        dsimp only
        go_wp2_with fail
        with_reducible refine HCC6.out.mono ?_
        rintro _ w6 ⟨rfl, k6⟩
        have hb6 := HB5.out.kept k6
        have hc6 := HRD.out (0 + 4) cb w6 hb6 (by omega) (by omega) (by omega)
        rw [Nat.zero_add, HRC.out] at hc6
        have HR6 := Lib.hid (HR5.out.frm k6 (fun _ e => e.elim))
        have HSG6 := Lib.hid (HSG5.out.frm k6 (fun _ e => e.elim))
        have HF6 := Lib.hid (HF5.out.trans (k6.mono (S' := SegF q (q + 1)) (fun _ _ e => e.elim)))
        have HC6 := Lib.hid hc6
        clear k6 hb6 hc6 HCC6 HF5 HB5 HR5 HSG5
        dsimp only
        go_wp2_with fail
        with_reducible refine HC6.out.mono ?_
        rintro _ w7 ⟨rfl, hb7, hf7⟩
        have HR7 := Lib.hid (HR6.out.frm hf7 (fun _ e => by omega))
        have HSG7 := Lib.hid (HSG6.out.frm hf7 (fun _ e => by omega))
        have HF7 := Lib.hid (segTrans HF6.out hf7)
        have hlo7 : q + 1 ≤ w7.heap.size := Nat.le_trans hlo3 HF7.out.size
        have hc7 := HNUM.out trivial _ w7 hb7 HR7.out hlo7
        have HC7 := Lib.hid hc7
        clear hb7 hf7 hc7 HC6 HF6 HR6 HSG6
        dsimp only
        go_wp2_with fail
        with_reducible refine HC7.out.mono ?_
        rintro _ w8 ⟨rv', rfl, hr8, hb8, hf8⟩
        have HR8 := Lib.hid hr8
        have HB8 := Lib.hid hb8
        have hsv0 : ∃ g cap, u12 = .slice (some ⟨g, 0, none⟩) 0 cap := by obtain ⟨g, cap, _, e, _⟩ := HSG7.out; exact ⟨g, cap, e⟩
        have HSG8 := Lib.hid hsv0
        clear hsv0
        have HF8 := Lib.hid (HF7.out.trans hf8)
        clear hr8 hb8 hf8 HC7 HF7 HR7 HSG7
        dsimp only
        go_wp2
        exact ⟨⟨rfl, rfl, rfl, rfl, rfl, rfl, HF8.out, .inr ⟨rfl, HR8.out, .inl HSG8.out, HB8.out⟩⟩, by simp [intOf]⟩
      · have HCC6 : RowKit.Hid (Calls Tryz.prog 92 #[.int .i64 2, .pointer (some ⟨pv, 0, none⟩)] w5 fun e w' => e = .returned (.int .i64 (cb : Nat)) ∧ Kept w5 w') := HCC5
        clear HCC5
        dsimp only
        go_wp2_with fail
        with_reducible refine HCC6.out.mono ?_
        rintro _ w6 ⟨rfl, k6⟩
        have hb6 := HB5.out.kept k6
        have hc6 := HRD.out (0 + 4) cb w6 hb6 (by omega) (by omega) (by omega)
        rw [Nat.zero_add, HRC.out] at hc6
        have HR6 := Lib.hid (HR5.out.frm k6 (fun _ e => e.elim))
        have HSG6 := Lib.hid (HSG5.out.frm k6 (fun _ e => e.elim))
        have HF6 := Lib.hid (HF5.out.trans (k6.mono (S' := SegF q (q + 1)) (fun _ _ e => e.elim)))
        have HC6 := Lib.hid hc6
        clear k6 hb6 hc6 HCC6 HF5 HB5 HR5 HSG5
        dsimp only
        go_wp2_with fail
        with_reducible refine HC6.out.mono ?_
        rintro _ w7 ⟨rfl, hb7, hf7⟩
        have HR7 := Lib.hid (HR6.out.frm hf7 (fun _ e => by omega))
        have HSG7 := Lib.hid (HSG6.out.frm hf7 (fun _ e => by omega))
        have HF7 := Lib.hid (segTrans HF6.out hf7)
        have hlo7 : q + 1 ≤ w7.heap.size := Nat.le_trans hlo3 HF7.out.size
        have hc7 := HALP.out trivial _ w7 hb7 HR7.out hlo7
        have HC7 := Lib.hid hc7
        clear hb7 hf7 hc7 HC6 HF6 HR6 HSG6
        dsimp only
        go_wp2_with fail
        with_reducible refine HC7.out.mono ?_
        rintro _ w8 ⟨rv', rfl, hr8, hb8, hf8⟩
        have HR8 := Lib.hid hr8
        have HB8 := Lib.hid hb8
        have hsv0 : ∃ g cap, u12 = .slice (some ⟨g, 0, none⟩) 0 cap := by obtain ⟨g, cap, _, e, _⟩ := HSG7.out; exact ⟨g, cap, e⟩
        have HSG8 := Lib.hid hsv0
        clear hsv0
        have HF8 := Lib.hid (HF7.out.trans hf8)
        clear hr8 hb8 hf8 HC7 HF7 HR7 HSG7
        dsimp only
        go_wp2
        exact ⟨⟨rfl, rfl, rfl, rfl, rfl, rfl, HF8.out, .inr ⟨rfl, HR8.out, .inl HSG8.out, HB8.out⟩⟩, by simp [intOf]⟩
      · have HCC6 : RowKit.Hid (Calls Tryz.prog 92 #[.int .i64 4, .pointer (some ⟨pv, 0, none⟩)] w5 fun e w' => e = .returned (.int .i64 (cb : Nat)) ∧ Kept w5 w') := HCC5
        clear HCC5
        dsimp only
        go_wp2_with fail
        with_reducible refine HCC6.out.mono ?_
        rintro _ w6 ⟨rfl, k6⟩
        have hb6 := HB5.out.kept k6
        have hc6 := HRD.out (0 + 4) cb w6 hb6 (by omega) (by omega) (by omega)
        rw [Nat.zero_add, HRC.out] at hc6
        have HR6 := Lib.hid (HR5.out.frm k6 (fun _ e => e.elim))
        have HSG6 := Lib.hid (HSG5.out.frm k6 (fun _ e => e.elim))
        have HF6 := Lib.hid (HF5.out.trans (k6.mono (S' := SegF q (q + 1)) (fun _ _ e => e.elim)))
        have HC6 := Lib.hid hc6
        clear k6 hb6 hc6 HCC6 HF5 HB5 HR5 HSG5
        dsimp only
        go_wp2_with fail
        with_reducible refine HC6.out.mono ?_
        rintro _ w7 ⟨rfl, hb7, hf7⟩
        have HR7 := Lib.hid (HR6.out.frm hf7 (fun _ e => by omega))
        have HSG7 := Lib.hid (HSG6.out.frm hf7 (fun _ e => by omega))
        have HF7 := Lib.hid (segTrans HF6.out hf7)
        have hlo7 : q + 1 ≤ w7.heap.size := Nat.le_trans hlo3 HF7.out.size
        have hc7 := HBYT.out trivial _ _ (.pointer none) (.map none) w7 hb7 HR7.out HSG7.out hlo7
        have HC7 := Lib.hid hc7
        clear hb7 hf7 hc7 HC6 HF6 HR6 HSG6
        dsimp only
        go_wp2_with fail
        with_reducible refine HC7.out.mono ?_
        rintro _ w8 ⟨rv', sv', rfl, hr8, hsg8, hb8, hf8⟩
        have HR8 := Lib.hid hr8
        have HB8 := Lib.hid hb8
        have HSG8 := Lib.hid (hsg8)
        have HF8 := Lib.hid (HF7.out.trans hf8)
        clear hr8 hsg8 hb8 hf8 HC7 HF7 HR7 HSG7
        dsimp only
        go_wp2
        exact ⟨⟨rfl, rfl, rfl, rfl, rfl, rfl, HF8.out, .inr ⟨rfl, HR8.out, .inr HSG8.out, HB8.out⟩⟩, by simp [intOf]⟩
    · clear HNUM HALP HBYT HCC HRM HRC
      have ha := HAV.out P1 wr hb (by omega)
      rw [show 8 * D - P1 = T by omega] at ha
      have HA := Lib.hid ha
      have HF := Lib.hid hf
      have HR := Lib.hid hr
      have HSG := Lib.hid hsg
      have HB := Lib.hid hb
      have dm : decide ((m : Int) = 0) = false := by rcases hmode with h | h | h <;> simp [h]
      clear ha hf hr hsg hb hcb hP4 hmode
      rcases HSG.out with ⟨g, cap, rfl⟩ | hseg
      · clear HSG
        by_cases hT : T < 4
        · have d4 : decide ((T : Int) < 4) = true := by simp; omega
          go_wp2_with fail
          with_reducible refine HA.out.mono ?_
          rintro _ w4 ⟨rfl, k4⟩
          have hr4 := HR.out.frm k4 (fun _ e => e.elim)
          have HF4 := Lib.hid (HF.out.trans (k4.mono (S' := SegF q (q + 1)) (fun _ _ e => e.elim)))
          clear k4 HA HF HR HB
          obtain ⟨rg, rcap, rfl, hrow, hrlo⟩ := hr4
          have HTX := Lib.hid (fun (w' : World) (hk : Kept w4 w') => (show (convert 32 9 (.slice (some ⟨rg, 0, none⟩) xs.length rcap)).run Tryz.prog w' = .ok (.string (txtOf xs)) w' from
            text_run xs hby rg rcap w' (fun j hj => by
              rw [(hrow.kept hk).cell j hj]
              simp [natVals, List.getD_eq_getElem?_getD, List.getElem?_eq_getElem hj])))
          have hk0 : Kept w4 w4 := Frm.refl _ _
          clear hrow
          dsimp only
          go_wp2_with fail
          go_region_held3 (fun w' => Kept w4 w' ∧ (convert 32 9 (.slice (some ⟨rg, 0, none⟩) xs.length rcap)).run Tryz.prog w' = .ok (.string (txtOf xs)) w')
            (first | assumption | exact ⟨hk0, HTX.out _ hk0⟩ | exact ⟨(Frm.refl _ _).drew, HTX.out _ (Frm.refl _ _).drew⟩ | exact ⟨Frm.trans (b := w4.drew) (Frm.refl _ _).drew (by assumption), HTX.out _ (Frm.trans (b := w4.drew) (Frm.refl _ _).drew (by assumption))⟩)
            (first
              | (go_at_call 229; with_reducible refine (levelName l _ hl).mono ?_; rintro _ _ ⟨⟨ls, rfl⟩, rfl⟩)
              | (go_at_call 228; with_reducible refine (newResult s c D _ _ none 0 0 _ _ _ _ hD).mono ?_; rintro _ w5 ⟨u5, u6, u7, rfl, hbn, k5⟩))
          all_goals
            go_wp2
            go_ret2
            exact ⟨w4.heap.size, rfl, DRes.make HQ.out HRS.out HRL.out hD1 hD HK3.out HF4.out (Frm.trans (b := w4.drew) (Frm.refl _ _).drew k5) hbn ⟨[], .inr ⟨rfl, rfl⟩, .inl rfl⟩⟩
        · have d4 : decide ((T : Int) < 4) = false := by simp; omega
          go_wp2_with fail
          with_reducible refine HA.out.mono ?_
          rintro _ w2 ⟨rfl, k4⟩
          have hb2 := HB.out.kept k4
          have hc2 := HRD.out P1 4 w2 hb2 (by omega) (by omega) (by omega)
          rw [HRE.out] at hc2
          simp only [Int.cast_ofNat_Int] at hc2
          have HC2 := Lib.hid hc2
          have HR2 := Lib.hid (HR.out.frm k4 (fun _ e => e.elim))
          have HF2 := Lib.hid (HF.out.trans (k4.mono (S' := SegF q (q + 1)) (fun _ _ e => e.elim)))
          clear k4 HA HF HR HB hb2 hc2
          dsimp only
          go_wp2_with fail
          with_reducible refine HC2.out.mono ?_
          rintro _ w4 ⟨rfl, hb5, hf5⟩
          have hr4 := HR2.out.frm hf5 (fun _ e => by omega)
          have HF4 := Lib.hid (segTrans HF2.out hf5)
          have hm5 := HMK.out 0 (.inl rfl) w4
          simp only [Int.cast_ofNat_Int] at hm5
          have HM5 := Lib.hid hm5
          clear hb5 hf5 hm5 HC2 HF2 HR2
          dsimp only
          go_wp2_with fail
          with_reducible refine HM5.out.mono ?_
          rintro _ _ ⟨rfl, rfl⟩
          obtain ⟨rg, rcap, rfl, hrow, hrlo⟩ := hr4
          have HTX := Lib.hid (fun (w' : World) (hk : Kept w4 w') => (show (convert 32 9 (.slice (some ⟨rg, 0, none⟩) xs.length rcap)).run Tryz.prog w' = .ok (.string (txtOf xs)) w' from
            text_run xs hby rg rcap w' (fun j hj => by
              rw [(hrow.kept hk).cell j hj]
              simp [natVals, List.getD_eq_getElem?_getD, List.getElem?_eq_getElem hj])))
          have hk0 : Kept w4 w4 := Frm.refl _ _
          clear hrow
          dsimp only
          go_wp2_with fail
          go_region_held3 (fun w' => Kept w4 w' ∧ (convert 32 9 (.slice (some ⟨rg, 0, none⟩) xs.length rcap)).run Tryz.prog w' = .ok (.string (txtOf xs)) w')
            (first | assumption | exact ⟨hk0, HTX.out _ hk0⟩ | exact ⟨(Frm.refl _ _).drew, HTX.out _ (Frm.refl _ _).drew⟩ | exact ⟨Frm.trans (b := w4.drew) (Frm.refl _ _).drew (by assumption), HTX.out _ (Frm.trans (b := w4.drew) (Frm.refl _ _).drew (by assumption))⟩)
            (first
              | (go_at_call 229; with_reducible refine (levelName l _ hl).mono ?_; rintro _ _ ⟨⟨ls, rfl⟩, rfl⟩)
              | (go_at_call 228; with_reducible refine (newResult s c D _ _ none 0 0 _ _ _ _ hD).mono ?_; rintro _ w5 ⟨u5, u6, u7, rfl, hbn, k5⟩))
          all_goals
            go_wp2
            go_ret2
            exact ⟨w4.heap.size, rfl, DRes.make HQ.out HRS.out HRL.out hD1 hD HK3.out HF4.out (Frm.trans (b := w4.drew) (Frm.refl _ _).drew k5) hbn ⟨[], .inr ⟨rfl, rfl⟩, .inl rfl⟩⟩
      · clear HSG
        by_cases hT : T < 4
        · have d4 : decide ((T : Int) < 4) = true := by simp; omega
          go_wp2_with fail
          with_reducible refine HA.out.mono ?_
          rintro _ w4 ⟨rfl, k4⟩
          have hr4 := HR.out.frm k4 (fun _ e => e.elim)
          have HF4 := Lib.hid (HF.out.trans (k4.mono (S' := SegF q (q + 1)) (fun _ _ e => e.elim)))
          have HSG4 := Lib.hid (hseg.frm k4 (fun _ e => e.elim))
          clear hseg
          obtain ⟨g, cap, _, hv12, _⟩ := HSG4.out
          simp only [List.length_singleton] at hv12
          subst hv12
          clear k4 HA HF HR HB
          obtain ⟨rg, rcap, rfl, hrow, hrlo⟩ := hr4
          have HTX := Lib.hid (fun (w' : World) (hk : Kept w4 w') => (show (convert 32 9 (.slice (some ⟨rg, 0, none⟩) xs.length rcap)).run Tryz.prog w' = .ok (.string (txtOf xs)) w' from
            text_run xs hby rg rcap w' (fun j hj => by
              rw [(hrow.kept hk).cell j hj]
              simp [natVals, List.getD_eq_getElem?_getD, List.getElem?_eq_getElem hj])))
          have hk0 : Kept w4 w4 := Frm.refl _ _
          clear hrow
          dsimp only
          go_wp2_with fail
          go_region_held3 (fun w' => Kept w4 w' ∧ (convert 32 9 (.slice (some ⟨rg, 0, none⟩) xs.length rcap)).run Tryz.prog w' = .ok (.string (txtOf xs)) w')
            (first | assumption | exact ⟨hk0, HTX.out _ hk0⟩ | exact ⟨(Frm.refl _ _).drew, HTX.out _ (Frm.refl _ _).drew⟩ | exact ⟨Frm.trans (b := w4.drew) (Frm.refl _ _).drew (by assumption), HTX.out _ (Frm.trans (b := w4.drew) (Frm.refl _ _).drew (by assumption))⟩)
            (first
              | (go_at_call 229; with_reducible refine (levelName l _ hl).mono ?_; rintro _ _ ⟨⟨ls, rfl⟩, rfl⟩)
              | (go_at_call 228; with_reducible refine (newResult s c D _ _ (some ⟨g, 0, none⟩) 1 cap _ _ _ _ hD).mono ?_; rintro _ w5 ⟨u5, u6, u7, rfl, hbn, k5⟩))
          all_goals
            go_wp2
            go_ret2
            exact ⟨w4.heap.size, rfl, DRes.make HQ.out HRS.out HRL.out hD1 hD HK3.out HF4.out (Frm.trans (b := w4.drew) (Frm.refl _ _).drew k5) hbn ⟨[xs], .inl HSG4.out, .inr rfl⟩⟩
        · have d4 : decide ((T : Int) < 4) = false := by simp; omega
          go_wp2_with fail
          with_reducible refine HA.out.mono ?_
          rintro _ w2 ⟨rfl, k4⟩
          have hb2 := HB.out.kept k4
          have hc2 := HRD.out P1 4 w2 hb2 (by omega) (by omega) (by omega)
          rw [HRE.out] at hc2
          simp only [Int.cast_ofNat_Int] at hc2
          have HC2 := Lib.hid hc2
          have HR2 := Lib.hid (HR.out.frm k4 (fun _ e => e.elim))
          have HF2 := Lib.hid (HF.out.trans (k4.mono (S' := SegF q (q + 1)) (fun _ _ e => e.elim)))
          have HSG2 := Lib.hid (hseg.frm k4 (fun _ e => e.elim))
          clear hseg
          clear k4 HA HF HR HB hb2 hc2
          dsimp only
          go_wp2_with fail
          with_reducible refine HC2.out.mono ?_
          rintro _ w4 ⟨rfl, hb5, hf5⟩
          have hr4 := HR2.out.frm hf5 (fun _ e => by omega)
          have HF4 := Lib.hid (segTrans HF2.out hf5)
          have hm5 := HMK.out 0 (.inl rfl) w4
          simp only [Int.cast_ofNat_Int] at hm5
          have HM5 := Lib.hid hm5
          have HSG4 := Lib.hid (HSG2.out.frm hf5 (fun _ e => by omega))
          clear HSG2
          obtain ⟨g, cap, _, hv12, _⟩ := HSG4.out
          simp only [List.length_singleton] at hv12
          subst hv12
          clear hb5 hf5 hm5 HC2 HF2 HR2
          dsimp only
          go_wp2_with fail
          with_reducible refine HM5.out.mono ?_
          rintro _ _ ⟨rfl, rfl⟩
          obtain ⟨rg, rcap, rfl, hrow, hrlo⟩ := hr4
          have HTX := Lib.hid (fun (w' : World) (hk : Kept w4 w') => (show (convert 32 9 (.slice (some ⟨rg, 0, none⟩) xs.length rcap)).run Tryz.prog w' = .ok (.string (txtOf xs)) w' from
            text_run xs hby rg rcap w' (fun j hj => by
              rw [(hrow.kept hk).cell j hj]
              simp [natVals, List.getD_eq_getElem?_getD, List.getElem?_eq_getElem hj])))
          have hk0 : Kept w4 w4 := Frm.refl _ _
          clear hrow
          dsimp only
          go_wp2_with fail
          go_region_held3 (fun w' => Kept w4 w' ∧ (convert 32 9 (.slice (some ⟨rg, 0, none⟩) xs.length rcap)).run Tryz.prog w' = .ok (.string (txtOf xs)) w')
            (first | assumption | exact ⟨hk0, HTX.out _ hk0⟩ | exact ⟨(Frm.refl _ _).drew, HTX.out _ (Frm.refl _ _).drew⟩ | exact ⟨Frm.trans (b := w4.drew) (Frm.refl _ _).drew (by assumption), HTX.out _ (Frm.trans (b := w4.drew) (Frm.refl _ _).drew (by assumption))⟩)
            (first
              | (go_at_call 229; with_reducible refine (levelName l _ hl).mono ?_; rintro _ _ ⟨⟨ls, rfl⟩, rfl⟩)
              | (go_at_call 228; with_reducible refine (newResult s c D _ _ (some ⟨g, 0, none⟩) 1 cap _ _ _ _ hD).mono ?_; rintro _ w5 ⟨u5, u6, u7, rfl, hbn, k5⟩))
          all_goals
            go_wp2
            go_ret2
            exact ⟨w4.heap.size, rfl, DRes.make HQ.out HRS.out HRL.out hD1 hD HK3.out HF4.out (Frm.trans (b := w4.drew) (Frm.refl _ _).drew k5) hbn ⟨[xs], .inl HSG4.out, .inr rfl⟩⟩
end Go.Proofs.YtnpkihobbcglcaaGreatDoor

/- N2: The law's own small functions: the text (qrAscii). -/
namespace Go.Proofs.YtnpkihobbcglcaaGreatDoor
open Go Go.RowKit

/-- Bytes so far: nil, or a row that grows. -/
def RowB (w : World) (lo : Nat) (v : Value) (r : List Nat) : Prop := (r = [] ∧ v = .slice none 0 0) ∨ ∃ b c, lo ≤ b ∧ v = .slice (some ⟨b, 0, none⟩) r.length c ∧ Row w 5 b r.length c (natVals .u8 r)
theorem RowB.kept {w w' : World} {lo : Nat} {v : Value} {r : List Nat} (h : RowB w lo v r) (hf : Kept w w') : RowB w' lo v r := by
  rcases h with h | ⟨b, c, h0, h1, h2⟩
  · exact .inl h
  · exact .inr ⟨b, c, h0, h1, h2.kept hf⟩
theorem RowB.push {w : World} {lo : Nat} {v : Value} {r : List Nat} (h : RowB w lo v r) (hlo : lo ≤ w.heap.size) (X : Int) (x : Nat) (hX : X = x) (hl : r.length ≤ 1000) :
    ∃ b' c' w', (Builtin.append_ #[32, 32] 32 #[v, .slice (some ⟨w.heap.size, 0, none⟩) 1 1]).run Tryz.prog (w.alloc (.cells #[.int .u8 X] 5)) = .ok (.slice (some ⟨b', 0, none⟩) (r.length + 1) c') w' ∧ RowB w' lo (.slice (some ⟨b', 0, none⟩) (r.length + 1) c') (r ++ [x]) ∧
      ∀ z, Kept z w → z.heap.size ≤ lo → Kept z w' := by
  subst hX
  have hlen : (r ++ [x]).length = r.length + 1 := by simp
  rcases h with ⟨rfl, rfl⟩ | ⟨b, c, h0, rfl, h2⟩
  · obtain ⟨g', cap', w', hr, hrow, hk, hgn⟩ := run_append_nil1 32 32 5 (.int .u8 0) 1 (by kernel_rfl) info5 rfl (w := w) (.int .u8 x) rfl (by omega)
    exact ⟨g', cap', w', hr, .inr ⟨g', cap', by omega, rfl, hrow⟩, fun z hz _ => hz.trans hk⟩
  · obtain ⟨g', cap', w', hr, hrow, hf, hg'⟩ := run_append_row1 32 32 5 (.int .u8 0) 1 (by kernel_rfl) info5 rfl h2 (.int .u8 x) rfl (by unfold maxLen; omega) (by omega)
    refine ⟨g', cap', w', hr, .inr ⟨g', cap', by omega, by rw [hlen], ?_⟩, fun z hz hzl => hz.step hf (fun k hk e => by omega)⟩
    rw [hlen]; simpa [natVals] using hrow

theorem Bytes.push {ys : List Nat} {x : Nat} (h : Bytes ys) (hx : x < 256) : Bytes (ys ++ [x]) := by
  intro c hc
  rcases List.mem_append.1 hc with h1 | h1
  · exact h c h1
  · simp at h1; omega

set_option maxRecDepth 100000 in
set_option maxHeartbeats 8000000 in
theorem qrAscii (s : ByteArray) (c : Nat) (w : World) (hc : c < 256) : Calls Tryz.prog 4 #[.string s, .int .u8 c, .int .i64 60] w fun e w' => ∃ t : ByteArray, e = .returned (.string t) ∧ 1 ≤ t.size ∧ t.size ≤ 60 ∧ Kept w w' := by
  go_enter Tryz.func4, Tryz.ntmps4
  go_wp2_with fail
  go_loopw [7, 8] (fun v7 v8 wr => ∃ (k : Nat) (ys : List Nat), k ≤ s.size ∧ k ≤ 60 ∧ v8 = .int .i64 k ∧ ys.length = k ∧ RowB wr w.heap.size v7 ys ∧ Bytes ys ∧ (k = 0 → v7 = .slice none 0 0) ∧ Kept w wr) (fun _ v8 _ => 60 - (intOf v8).toNat)
  case atStart => exact ⟨0, [], Nat.zero_le _, by omega, rfl, rfl, .inl ⟨rfl, rfl⟩, fun c hc => by simp at hc, fun _ => rfl, Frm.refl _ _⟩
  case round =>
    obtain ⟨k, ys, hk, hk60, rfl, hyl, hrow, hby, hv70, hkw⟩ := hrel
    by_cases hlt : k < s.size ∧ k < 60
    · obtain ⟨hlt, hk6⟩ := hlt
      have d1 : decide ((k : Int) < s.size) = true := by simp; omega
      have d2 : decide ((k : Int) < 60) = true := by simp; omega
      have hsb := sb_get s k hlt
      have hcl := sb_lt s k
      generalize hcc : (sb s).getD k 0 = x at hsb hcl
      clear hcc
      have e1 : (c : Int).tmod 3 = ((c % 3 : Nat) : Int) := by rw [Int.tmod_eq_emod_of_nonneg (by omega)]; omega
      have e2 : (x : Int).tmod 10 = ((x % 10 : Nat) : Int) := by rw [Int.tmod_eq_emod_of_nonneg (by omega)]; omega
      have e3 : (x : Int).tmod 45 = ((x % 45 : Nat) : Int) := by rw [Int.tmod_eq_emod_of_nonneg (by omega)]; omega
      have e4 : (x : Int).tmod 95 = ((x % 95 : Nat) : Int) := by rw [Int.tmod_eq_emod_of_nonneg (by omega)]; omega
      have HROW := Lib.hid hrow
      have HBY := Lib.hid hby
      have HKW := Lib.hid hkw
      have HYL := Lib.hid hyl
      clear hrow hby hkw hyl hv70
      have HYL0 := HYL.out
      obtain h0 | h0 | h0 : c % 3 = 0 ∨ c % 3 = 1 ∨ c % 3 = 2 := by omega
      · obtain ⟨b', c', w', hrun, hrow', hkz⟩ := HROW.out.push HKW.out.size (48 + (x : Int) % 10) (48 + x % 10) (by omega) (by omega)
        have HRUN := Lib.hid hrun
        have HR2 := Lib.hid hrow'
        have HK2 := Lib.hid (hkz w HKW.out (Nat.le_refl _))
        have HB2 := Lib.hid (HBY.out.push (x := (48 + x % 10)) (by omega))
        clear hrun hrow' hkz HROW HKW HBY
        go_wp2_with (at_builtin; refine wpList_append_run rfl (.tmp 32) (.tmp 38) 32 32 rfl _ _ rfl rfl _ _ HRUN.out ?_)
        exact ⟨⟨k + 1, _, by omega, by omega, by go_num, by rw [List.length_append, HYL.out]; rfl, by have h := HR2.out; rw [HYL.out] at h; exact h, HB2.out, fun h => by omega, HK2.out⟩, by simp [intOf]; omega⟩
      · have HAB := Lib.hid (qrAlphaByte ((x : Int) % 45) wr)
        go_wp2_with fail
        with_reducible refine HAB.out.mono ?_
        rintro _ _ ⟨⟨y, rfl, hy⟩, rfl⟩
        dsimp only
        obtain ⟨b', c', w', hrun, hrow', hkz⟩ := HROW.out.push HKW.out.size (y : Int) y rfl (by omega)
        have HRUN := Lib.hid hrun
        have HR2 := Lib.hid hrow'
        have HK2 := Lib.hid (hkz w HKW.out (Nat.le_refl _))
        have HB2 := Lib.hid (HBY.out.push hy)
        clear hrun hrow' hkz HROW HKW HBY
        go_wp2_with (at_builtin; refine wpList_append_run rfl (.tmp 42) (.tmp 49) 32 32 rfl _ _ rfl rfl _ _ HRUN.out ?_)
        exact ⟨⟨k + 1, _, by omega, by omega, by go_num, by rw [List.length_append, HYL.out]; rfl, by have h := HR2.out; rw [HYL.out] at h; exact h, HB2.out, fun h => by omega, HK2.out⟩, by simp [intOf]; omega⟩
      · obtain ⟨b', c', w', hrun, hrow', hkz⟩ := HROW.out.push HKW.out.size (32 + (x : Int) % 95) (32 + x % 95) (by omega) (by omega)
        have HRUN := Lib.hid hrun
        have HR2 := Lib.hid hrow'
        have HK2 := Lib.hid (hkz w HKW.out (Nat.le_refl _))
        have HB2 := Lib.hid (HBY.out.push (x := (32 + x % 95)) (by omega))
        clear hrun hrow' hkz HROW HKW HBY
        go_wp2_with (at_builtin; refine wpList_append_run rfl (.tmp 22) (.tmp 28) 32 32 rfl _ _ rfl rfl _ _ HRUN.out ?_)
        exact ⟨⟨k + 1, _, by omega, by omega, by go_num, by rw [List.length_append, HYL.out]; rfl, by have h := HR2.out; rw [HYL.out] at h; exact h, HB2.out, fun h => by omega, HK2.out⟩, by simp [intOf]; omega⟩
    · have hd : (decide ((k : Int) < s.size) = true ∧ decide ((k : Int) < 60) = false) ∨ decide ((k : Int) < s.size) = false := by simp; omega
      clear hlt
      by_cases hk0 : k = 0
      · subst hk0
        have hys : ys = [] := List.eq_nil_of_length_eq_zero hyl
        subst hys
        have hv7 := hv70 rfl
        subst hv7
        have hs0 : s.size = 0 := by
          rcases hd with ⟨_, d2⟩ | d1
          · simp at d2
          · simpa using d1
        clear hd
        go_wp2
        go_ret
        exact ⟨_, rfl, by decide, by decide, hkw⟩
      · clear hv70
        have hex : ∃ b c, u7 = .slice (some ⟨b, 0, none⟩) ys.length c ∧ Row wr 5 b ys.length c (natVals .u8 ys) := by
          rcases hrow with ⟨h, _⟩ | ⟨b, c, _, h, hr⟩
          · rw [h] at hyl; simp at hyl; omega
          · exact ⟨b, c, h, hr⟩
        obtain ⟨b, c, rfl, hr⟩ := hex
        have htx : (convert 32 9 (.slice (some ⟨b, 0, none⟩) ys.length c)).run Tryz.prog wr = .ok (.string (txtOf ys)) wr := by
          refine text_run ys hby b c _ (fun j hj => ?_)
          rw [hr.cell j hj]
          simp [natVals, List.getD_eq_getElem?_getD, List.getElem?_eq_getElem hj]
        have hts : (txtOf ys).size = k := by simp [txtOf, ByteArray.size, hyl]
        rw [hyl] at htx ⊢
        have HKW := Lib.hid hkw
        have HTS := Lib.hid hts
        have hkd : decide ((k : Int) = 0) = false := by simp; omega
        clear hrow hr hkw hts hby hyl
        have hd2 : (k < s.size ∧ k = 60) ∨ k = s.size := by
          rcases hd with ⟨d1, d2⟩ | d1
          · simp at d1 d2; omega
          · simp at d1; omega
        clear hd
        rcases hd2 with ⟨d1, d2⟩ | d1
        · have d3 : decide ((k : Int) < s.size) = true := by simp; omega
          have d4 : decide ((k : Int) < 60) = false := by simp; omega
          clear d1 d2
          go_wp2
          all_goals go_ret
          all_goals exact ⟨_, rfl, by rw [HTS.out]; omega, by rw [HTS.out]; omega, HKW.out⟩
        · subst d1
          have d3 : decide ((s.size : Int) < s.size) = false := by simp
          go_wp2
          go_ret
          exact ⟨_, rfl, by rw [HTS.out]; omega, by rw [HTS.out]; omega, HKW.out⟩
end Go.Proofs.YtnpkihobbcglcaaGreatDoor
