/- PXTaken: the walk. pxSeen: what is seen of a picture of modules is the modules. pxSeen: the walk. -/
import Derived.Test.YtnpkihobbcglcaaGreatDoorQ32
set_option linter.unusedSimpArgs false
set_option linter.unusedVariables false

/- Y8: PXTaken: the walk. -/
namespace Go.Proofs.YtnpkihobbcglcaaGreatDoor
open Go Go.RowKit

/-- A row that grows: nil while it is empty. -/
def RowV (w : World) (lo : Nat) (v : Value) (r : List Bool) : Prop := (r = [] ∧ v = .slice none 0 0) ∨ ∃ b c, lo ≤ b ∧ v = .slice (some ⟨b, 0, none⟩) r.length c ∧ Row w 4 b r.length c (r.map Value.bool)
theorem RowV.kept {w w' : World} {lo : Nat} {v : Value} {r : List Bool} (h : RowV w lo v r) (hf : Kept w w') : RowV w' lo v r := by
  rcases h with h | ⟨b, c, h0, h1, h2⟩
  · exact .inl h
  · exact .inr ⟨b, c, h0, h1, h2.kept hf⟩
theorem RowV.push {w : World} {lo : Nat} {v : Value} {r : List Bool} (h : RowV w lo v r) (hlo : lo ≤ w.heap.size) (x : Bool) (hl : r.length ≤ 1000) :
    ∃ b' c' w', (Builtin.append_ #[56, 56] 56 #[v, .slice (some ⟨w.heap.size, 0, none⟩) 1 1]).run Tryz.prog (w.alloc (.cells #[.bool x] 4)) = .ok (.slice (some ⟨b', 0, none⟩) (r.length + 1) c') w' ∧ RowV w' lo (.slice (some ⟨b', 0, none⟩) (r.length + 1) c') (r ++ [x]) ∧
      ∀ z, Kept z w → z.heap.size ≤ lo → Kept z w' := by
  have hlen : (r ++ [x]).length = r.length + 1 := by simp
  rcases h with ⟨rfl, rfl⟩ | ⟨b, c, h0, rfl, h2⟩
  · obtain ⟨g', cap', w', hr, hrow, hk, hgn⟩ := run_append_nil1 56 56 4 (.bool false) 1 (by kernel_rfl) info4 rfl (w := w) (.bool x) rfl (by omega)
    exact ⟨g', cap', w', hr, .inr ⟨g', cap', by omega, rfl, hrow⟩, fun z hz _ => hz.trans hk⟩
  · obtain ⟨g', cap', w', hr, hrow, hf, hg'⟩ := run_append_row1 56 56 4 (.bool false) 1 (by kernel_rfl) info4 rfl h2 (.bool x) rfl (by unfold maxLen; omega) (by omega)
    refine ⟨g', cap', w', hr, .inr ⟨g', cap', by omega, by rw [hlen], ?_⟩, fun z hz hzl => hz.step hf (fun k hk e => by omega)⟩
    rw [hlen]; simpa using hrow

/-- The modules taken out of rows of pixels. -/
def takenRow (R : List (List Bool)) (s m0 k n : Nat) : List Bool := (List.range n).map fun x => (R.getD k []).getD (m0 + s * x + s / 2) false
def takenR (R : List (List Bool)) (s m0 m2 n k : Nat) : List (List Bool) := (List.range k).map fun y => takenRow R s m0 (m2 + s * y + s / 2) n
theorem takenRow_succ (R : List (List Bool)) (s m0 k n : Nat) : takenRow R s m0 k (n + 1) = takenRow R s m0 k n ++ [(R.getD k []).getD (m0 + s * n + s / 2) false] := by simp [takenRow, List.range_succ]
theorem takenR_succ (R : List (List Bool)) (s m0 m2 n k : Nat) : takenR R s m0 m2 n (k + 1) = takenR R s m0 m2 n k ++ [takenRow R s m0 (m2 + s * k + s / 2) n] := by simp [takenR, List.range_succ]
theorem takenRow_len (R : List (List Bool)) (s m0 k n : Nat) : (takenRow R s m0 k n).length = n := by simp [takenRow]
theorem takenR_len (R : List (List Bool)) (s m0 m2 n k : Nat) : (takenR R s m0 m2 n k).length = k := by simp [takenR]

set_option maxRecDepth 100000 in
set_option maxHeartbeats 8000000 in
theorem pxTaken (g W H n s m0 m1 m2 m3 : Nat) (R : List (List Bool)) (w : World) (hS : SliceOf w (.slice (some ⟨g, 0, none⟩) H H) R) (hRl : R.length = H) (hRr : ∀ y, y < H → (R.getD y []).length = W) (hn1 : 1 ≤ n) (hn2 : n ≤ 45) (hs1 : 1 ≤ s) (hs2 : s ≤ 4)
    (hW : m0 + s * n ≤ W) (hH : m2 + s * n ≤ H) (hWb : W ≤ 400) (hHb : H ≤ 400) :
    Calls Tryz.prog 27 #[.slice (some ⟨g, 0, none⟩) H H, .int .i64 s, .agg #[.int .i64 m0, .int .i64 m1, .int .i64 m2, .int .i64 m3], .int .i64 n, .int .i64 n] w fun e w' => ∃ S, e = .returned (.tuple #[S, .bool true]) ∧ SliceC w' S (takenR R s m0 m2 n n) ∧ Kept w w' := by
  have hat : ∀ y, y < H → ∃ b, w.cell? ⟨g, y, none⟩ = some (.slice (some ⟨b, 0, none⟩) W W) ∧ Bools w b (R.getD y []) := by
    intro y hy
    rcases hS with ⟨_, h⟩ | ⟨g', cap', vs, h, h2, h3⟩
    · cases h
    · cases h
      obtain ⟨b, hb1, hb2⟩ := h3 y (R.getD y []) (by rw [List.getD_eq_getElem?_getD, List.getElem?_eq_getElem (by omega)]; rfl)
      rw [hRr y hy] at hb1
      exact ⟨b, by rw [h2.cell y (by omega)]; exact hb1, hb2⟩
  have HAT := Lib.hid hat
  have HRR := Lib.hid hRr
  have hbnd : ∀ k, k < n → s * k + s / 2 < s * n := fun k hk => by
    have : s * (k + 1) ≤ s * n := Nat.mul_le_mul_left _ (by omega)
    rw [Nat.mul_succ] at this
    omega
  have HBND := Lib.hid hbnd
  have hZ : s * n ≤ 180 := Nat.le_trans (Nat.mul_le_mul hs2 hn2) (by omega)
  have hmb := Blk.new w #[.int .i64 m0, .int .i64 m1, .int .i64 m2, .int .i64 m3] 59
  have ka : Kept w (w.alloc (.cells #[.int .i64 m0, .int .i64 m1, .int .i64 m2, .int .i64 m3] 59)) := (Frm.refl _ _).alloc _
  have e2 : (s : Int).tdiv 2 = ((s / 2 : Nat) : Int) := (Int.ofNat_tdiv s 2).symm
  have hsq : s / 2 ≤ 2 := by omega
  generalize hq : s / 2 = sq at e2 hsq
  have HQ := Lib.hid hq
  clear hat hRr hbnd hS hq
  go_enter Tryz.func27, Tryz.ntmps27
  go_wp2_with fail
  generalize w.alloc (.cells #[.int .i64 m0, .int .i64 m1, .int .i64 m2, .int .i64 m3] 59) = w0 at *
  generalize hmbk : w.heap.size = mb at *
  have HMB := Lib.hid hmbk
  have HM := Lib.hid hmb
  have hlo : w.heap.size ≤ w0.heap.size := ka.size
  clear hmbk hmb
  go_loopw [12, 13, 14, 15, 16, 17] (fun S yv _ _ _ _ wr => ∃ (y : Nat), y ≤ n ∧ yv = .int .i64 y ∧ SliceC wr S (takenR R s m0 m2 n y) ∧ (∀ k, S.ownBlock = some k → w0.heap.size ≤ k) ∧ Kept w0 wr) (fun _ yv _ _ _ _ _ => n - (intOf yv).toNat)
  case atStart => exact ⟨0, Nat.zero_le _, rfl, SliceC.nil _, fun k hk => by simp [Value.ownBlock] at hk, Frm.refl _ _⟩
  case round =>
    obtain ⟨y, hy, rfl, hsl, hown, kw⟩ := hrel
    have HSL := Lib.hid hsl
    have HOWN := Lib.hid hown
    have KW := Lib.hid kw
    have hm2 := HM.out.frm kw (fun h => h)
    have c0 := hm2.cell 0
    have c2 := hm2.cell 2
    simp only [List.getElem?_toArray, List.getElem?_cons_zero, List.getElem?_cons_succ] at c0 c2
    clear hsl hown kw hm2
    by_cases hyn : y < n
    · have hd : decide ((y : Int) < n) = true := by simp; omega
      have hb := HBND.out y hyn
      rw [HQ.out] at hb
      have hts := takenR_succ R s m0 m2 n y
      rw [HQ.out] at hts
      obtain ⟨Z, hz⟩ : ∃ Z, s * y = Z := ⟨_, rfl⟩
      rw [hz] at hb hts
      have hzi : (s : Int) * y = Z := by rw [← hz, Int.natCast_mul]
      have hkH : m2 + Z + sq < H := by omega
      obtain ⟨rb, rc, rbl⟩ := HAT.out (m2 + Z + sq) hkH
      have hrl := HRR.out (m2 + Z + sq) hkH
      have hg2 : decide ((H : Int) ≤ (m2 : Int) + Z + sq) = false := by simp; omega
      generalize hk : m2 + Z + sq = k at *
      have hki : (m2 : Int) + Z + sq = k := by omega
      have hg3 : decide (H ≤ k) = false := by simp; omega
      have hg4 : decide ((H : Int) ≤ k) = false := by simp; omega
      have HTS := Lib.hid hts
      have HZ := Lib.hid hz
      have HK := Lib.hid hk
      clear hts hz hk hb
      have HRC := Lib.hid rc
      have HRB := Lib.hid rbl
      have HKW0 := Lib.hid (ka.trans KW.out)
      clear rc rbl
      go_wp2_with fail
      go_loopw [15, 16, 17] (fun rv xv _ wx => ∃ x : Nat, x ≤ n ∧ xv = .int .i64 x ∧ RowV wx wr.heap.size rv (takenRow R s m0 k x) ∧ Kept wr wx) (fun _ xv _ _ => n - (intOf xv).toNat)
      case atStart => exact ⟨0, Nat.zero_le _, rfl, .inl ⟨rfl, rfl⟩, Frm.refl _ _⟩
      case round =>
        obtain ⟨x, hx, rfl, hrv, kx⟩ := hrel
        by_cases hxn : x < n
        · have hdx : decide ((x : Int) < n) = true := by simp; omega
          have hbx := HBND.out x hxn
          rw [HQ.out] at hbx
          have htx := takenRow_succ R s m0 k x
          rw [HQ.out] at htx
          have hrvl := takenRow_len R s m0 k x
          obtain ⟨Y, hY⟩ : ∃ Y, s * x = Y := ⟨_, rfl⟩
          rw [hY] at hbx htx
          have hYi : (s : Int) * x = Y := by rw [← hY, Int.natCast_mul]
          have hiW : m0 + Y + sq < W := by omega
          have hkk := HKW0.out.trans kx
          have crc := cell_kept HRC.out hkk
          have crb := (HRB.out.frm hkk (fun h => h)).cell (m0 + Y + sq) (by rw [hrl]; exact hiW)
          have c0x := cell_kept c0 kx
          obtain ⟨b', c', w5, hrun, hrow, hkp⟩ := hrv.push (x := (R.getD k []).getD (m0 + Y + sq) false) kx.size (by rw [hrvl]; omega)
          rw [← htx, hrvl] at hrow
          rw [hrvl] at hrun
          have k5 := hkp _ kx (Nat.le_refl _)
          have hgx : decide ((W : Int) ≤ (m0 : Int) + Y + sq) = false := by simp; omega
          generalize (R.getD k []).getD (m0 + Y + sq) false = bv at *
          generalize hi : m0 + Y + sq = i at *
          have hii : (m0 : Int) + Y + sq = i := by omega
          have hg6 : decide (W ≤ i) = false := by simp; omega
          have hg7 : decide ((W : Int) ≤ i) = false := by simp; omega
          have HRUN := Lib.hid hrun
          have HROW := Lib.hid hrow
          have K5 := Lib.hid k5
          clear hrun hrow k5 hkp hrv hbx htx hrvl hY hi kx hkk
          go_wp2_with (at_builtin; refine wpList_append_run rfl (.tmp 57) (.tmp 65) 56 56 rfl _ _ rfl rfl _ _ HRUN.out ?_)
          exact ⟨⟨x + 1, by omega, by go_num, HROW.out, K5.out⟩, by simp [intOf]; omega⟩
        · obtain rfl : x = n := by omega
          have hdx : decide ((x : Int) < x) = false := by simp
          have hlr : (takenRow R s m0 k x).length = x := takenRow_len _ _ _ _ _
          rcases hrv with ⟨h0, -⟩ | ⟨b, c, hb0, rfl, hrow⟩
          · rw [h0] at hlr; simp at hlr; omega
          · have hlm : (takenR R s m0 m2 x y).length = y := takenR_len _ _ _ _ _ _
            obtain ⟨g', cap', w5, hrun, hsl5, f5, hg5⟩ := (HSL.out.kept kx).push hrow (by rw [hlm]; omega)
            rw [hlr, hlm] at hrun
            rw [hlm] at hsl5
            rw [← HTS.out] at hsl5
            have k5 : Kept w0 w5 := (KW.out.trans kx).step f5 (by
              intro b hb hob
              have := HOWN.out b hob
              omega)
            have hgz : w0.heap.size ≤ g' := by
              rcases hg5 with h | h
              · exact HOWN.out g' h
              · have := (KW.out.trans kx).size; omega
            rw [hlr] at *
            have HRUN := Lib.hid hrun
            have HSL5 := Lib.hid hsl5
            have K5 := Lib.hid k5
            have HGZ := Lib.hid hgz
            clear hrun hsl5 f5 hg5 hlr hlm k5 kx hgz hrow
            go_wp2_with (at_builtin; refine wpList_append_run rfl (.tmp 67) (.tmp 69) 24 24 rfl _ _ rfl rfl _ _ HRUN.out ?_)
            exact ⟨⟨y + 1, by omega, by go_num, HSL5.out, fun k hk => by simp [Value.ownBlock] at hk; have := HGZ.out; omega, K5.out⟩, by simp [intOf]; omega⟩
    · obtain rfl : y = n := by omega
      have hd : decide ((y : Int) < y) = false := by simp
      go_wp2
      go_ret2
      exact ⟨_, rfl, HSL.out, ka.trans KW.out⟩
end Go.Proofs.YtnpkihobbcglcaaGreatDoor

/- Y9: pxSeen: what is seen of a picture of modules is the modules. -/
namespace Go.Proofs.YtnpkihobbcglcaaGreatDoor
open Go Go.RowKit

def pixN (s m0 m2 n light : Nat) (R : List (List Bool)) (W k : Nat) : List Nat := (List.range k).map fun t => pixAt s m0 m2 n light R (t % W) (t / W)
theorem pixN_len (s m0 m2 n light : Nat) (R : List (List Bool)) (W k : Nat) : (pixN s m0 m2 n light R W k).length = k := by simp [pixN]
theorem pixN_vals (s m0 m2 n light : Nat) (R : List (List Bool)) (W k : Nat) : pixRow s m0 m2 n light R W k = natVals .u8 (pixN s m0 m2 n light R W k) := by
  simp [pixRow, pixN, natVals, pixVal, Function.comp_def]
theorem pixN_get (s m0 m2 n light : Nat) (R : List (List Bool)) (W k i : Nat) (hi : i < k) : (pixN s m0 m2 n light R W k).getD i 0 = pixAt s m0 m2 n light R (i % W) (i / W) := by
  simp [pixN, List.getD_eq_getElem?_getD, hi]
theorem pixN_two (s m0 m2 n light : Nat) (R : List (List Bool)) (W k i : Nat) : (pixN s m0 m2 n light R W k).getD i 0 = 0 ∨ (pixN s m0 m2 n light R W k).getD i 0 = light := by
  by_cases hi : i < k
  · rw [pixN_get _ _ _ _ _ _ _ _ _ hi]
    unfold pixAt
    split
    · exact .inl rfl
    · exact .inr rfl
  · left; rw [List.getD_eq_getElem?_getD, List.getElem?_eq_none (by rw [pixN_len]; omega)]; rfl
theorem crop_part (page part : List Nat) (W left top pw : Nat) (h : ∀ i, i < part.length → page.getD (pgIx W left top pw i) 0 = part.getD i 0) : cropL page W left top pw part.length = part := by
  apply List.ext_getElem
  · rw [cropL_len]
  · intro i h1 h2
    simp only [cropL, List.getElem_map, List.getElem_range]
    rw [h i h2, List.getD_eq_getElem?_getD, List.getElem?_eq_getElem h2]
    rfl
theorem taken_back (s m0 m2 n light W H : Nat) (R : List (List Bool)) (hR : R.length = n) (hr : ∀ y, y < n → (R.getD y []).length = n) (hs : 1 ≤ s) (hW : m0 + s * n ≤ W) (hH : m2 + s * n ≤ H) (hl : light ≠ 0) :
    takenR ((List.range H).map (rowF (fun a k => decide ((pixN s m0 m2 n light R W (H * W)).getD (k * W + a) 0 = 0)) W)) s m0 m2 n n = R := by
  have hb : ∀ k, k < n → s * k + s / 2 < s * n := fun k hk => by
    have : s * (k + 1) ≤ s * n := Nat.mul_le_mul_left _ (by omega)
    rw [Nat.mul_succ] at this
    omega
  apply List.ext_getElem
  · rw [takenR_len, hR]
  · intro y h1 h2
    have hy : y < n := by rw [takenR_len] at h1; exact h1
    have hRy : R.getD y [] = R[y] := by rw [List.getD_eq_getElem?_getD, List.getElem?_eq_getElem h2]; rfl
    have hry := hr y hy
    rw [hRy] at hry
    have h3 := hb y hy
    simp only [takenR, List.getElem_map, List.getElem_range]
    apply List.ext_getElem
    · rw [takenRow_len, hry]
    · intro x h4 h5
      have hx : x < n := by rw [takenRow_len] at h4; exact h4
      have h6 := hb x hx
      simp only [takenRow, List.getElem_map, List.getElem_range]
      have e1 : ((List.range H).map (rowF (fun a k => decide ((pixN s m0 m2 n light R W (H * W)).getD (k * W + a) 0 = 0)) W)).getD (m2 + s * y + s / 2) [] = rowF (fun a k => decide ((pixN s m0 m2 n light R W (H * W)).getD (k * W + a) 0 = 0)) W (m2 + s * y + s / 2) := by
        simp [List.getD_eq_getElem?_getD, show m2 + s * y + s / 2 < H by omega]
      have e2 : (rowF (fun a k => decide ((pixN s m0 m2 n light R W (H * W)).getD (k * W + a) 0 = 0)) W (m2 + s * y + s / 2)).getD (m0 + s * x + s / 2) false = decide ((pixN s m0 m2 n light R W (H * W)).getD ((m2 + s * y + s / 2) * W + (m0 + s * x + s / 2)) 0 = 0) := by
        simp [rowF, List.getD_eq_getElem?_getD, show m0 + s * x + s / 2 < W by omega]
      rw [e1, e2]
      have hk : m2 + s * y + s / 2 < H := by omega
      have hi : m0 + s * x + s / 2 < W := by omega
      have q1 : (m2 + s * y + s / 2 - m2) / s = y := by
        rw [show m2 + s * y + s / 2 - m2 = s * y + s / 2 by omega, Nat.mul_add_div (by omega), Nat.div_eq_of_lt (show s / 2 < s by omega)]; omega
      have q2 : (m0 + s * x + s / 2 - m0) / s = x := by
        rw [show m0 + s * x + s / 2 - m0 = s * x + s / 2 by omega, Nat.mul_add_div (by omega), Nat.div_eq_of_lt (show s / 2 < s by omega)]; omega
      have hlt : (m2 + s * y + s / 2) * W + (m0 + s * x + s / 2) < H * W := by
        have : (m2 + s * y + s / 2 + 1) * W ≤ H * W := Nat.mul_le_mul_right _ (by omega)
        rw [Nat.succ_mul] at this
        omega
      rw [pixN_get _ _ _ _ _ _ _ _ _ hlt]
      have q3 : ((m2 + s * y + s / 2) * W + (m0 + s * x + s / 2)) / W = m2 + s * y + s / 2 := by rw [Nat.mul_comm, Nat.mul_add_div (by omega), Nat.div_eq_of_lt hi]; omega
      have q4 : ((m2 + s * y + s / 2) * W + (m0 + s * x + s / 2)) % W = m0 + s * x + s / 2 := by rw [Nat.mul_comm, Nat.mul_add_mod, Nat.mod_eq_of_lt hi]
      rw [q3, q4]
      unfold pixAt
      rw [q1, q2, hRy]
      have e3 : R[y].getD x false = R[y][x] := by rw [List.getD_eq_getElem?_getD, List.getElem?_eq_getElem h5]; rfl
      rw [e3]
      cases hv : R[y][x]
      · rw [if_neg (by simp)]
        simp [hl]
      · rw [if_pos ⟨by omega, by omega, by omega, by omega, rfl⟩]
        rfl
theorem Nats.row {w : World} {b : Nat} {T : TypeId} {xs : List Nat} (h : Nats w b .u8 T xs) (hl : xs.length ≤ 1000000) : Row w T b xs.length xs.length (natVals .u8 xs) := by
  have hs : (natCells .u8 xs).size = xs.length := by simp [natCells, natVals_length]
  have hr := Row.of_blk h (by rw [hs]; unfold maxLen; omega)
  rw [hs] at hr
  simpa [natCells] using hr
end Go.Proofs.YtnpkihobbcglcaaGreatDoor

/- Y10: pxSeen: the walk. -/
namespace Go.Proofs.YtnpkihobbcglcaaGreatDoor
open Go Go.RowKit

theorem array22 : (match Tryz.prog.underlying 22 with | some (.array _ _) => true | _ => false) = true := by kernel_rfl
theorem size22 : (Tryz.prog.info? 22).map (·.size) = some 4 := by kernel_rfl
theorem load22 (w : World) (g : Nat) (a b c d : Value) (h : Blk w g #[a, b, c, d] 22) : (loadVar 22 ⟨g, 0, none⟩).run Tryz.prog w = .ok (.agg #[a, b, c, d]) w := by
  obtain ⟨n, e, hfs⟩ : ∃ n e, Tryz.prog.underlying 22 = some (.array n e) := by
    have h0 := array22
    cases hq : Tryz.prog.underlying 22 with
    | none => rw [hq] at h0; cases h0
    | some d =>
      rw [hq] at h0
      cases d <;> first | exact ⟨_, _, rfl⟩ | cases h0
  exact run_loadVar_row w g 22 22 _ (0, 0) _ h hfs rfl (by rw [size22]; rfl)

set_option maxRecDepth 100000 in
set_option maxHeartbeats 8000000 in
theorem pxSeen (g cap n sc a0 a1 a2 a3 li ar : Nat) (R : List (List Bool)) (w : World) (hS : SliceOf w (.slice (some ⟨g, 0, none⟩) n cap) R) (hn : R.length = n) (hr : ∀ y, y < n → (R.getD y []).length = n) (hn1 : 1 ≤ n) (hn2 : n ≤ 45)
    (hsc : sc < 256) (h0 : a0 < 256) (h1 : a1 < 256) (h2 : a2 < 256) (h3 : a3 < 256) (hli : li < 256) (har : ar < 256) :
    Calls Tryz.prog 7 #[.slice (some ⟨g, 0, none⟩) n cap, .int .u8 sc, .agg #[.int .u8 a0, .int .u8 a1, .int .u8 a2, .int .u8 a3], .int .u8 li, .int .u8 ar] w fun e w' => ∃ S, e = .returned (.tuple #[S, .bool true]) ∧ SliceC w' S R ∧ Kept w w' := by
  have hmb := Blk.new w #[.int .u8 a0, .int .u8 a1, .int .u8 a2, .int .u8 a3] 22
  have ka : Kept w (w.alloc (.cells #[.int .u8 a0, .int .u8 a1, .int .u8 a2, .int .u8 a3] 22)) := (Frm.refl _ _).alloc _
  have hld := load22 _ _ _ _ _ _ hmb
  have e1 : (sc : Int).tmod 4 = ((sc % 4 : Nat) : Int) := (Int.ofNat_tmod sc 4).symm
  have hs4 : sc % 4 < 4 := Nat.mod_lt _ (by omega)
  obtain ⟨s, hs⟩ : ∃ s, 1 + sc % 4 = s := ⟨_, rfl⟩
  have e2 : (1 : Int) + ((sc % 4 : Nat) : Int) = (s : Int) := by omega
  have hs1 : 1 ≤ s := by omega
  have hs2 : s ≤ 4 := by omega
  generalize sc % 4 = sm at *
  obtain ⟨sz, hsz⟩ : ∃ sz, s * n = sz := ⟨_, rfl⟩
  have hszi : (s : Int) * n = sz := by rw [← hsz, Int.natCast_mul]
  have hszb : sz ≤ 180 := by rw [← hsz]; exact Nat.le_trans (Nat.mul_le_mul hs2 hn2) (by omega)
  have hpm := fun wx => pxMargins a0 a1 a2 a3 sz wx h0 h1 h2 h3 (by omega)
  have HPM := Lib.hid hpm
  have HSZ := Lib.hid hsz
  have HSL := Lib.hid hS
  have HR := Lib.hid hr
  have HMB := Lib.hid hmb
  clear hpm hsz hS hr hs hs4 hmb
  go_enter Tryz.func7, Tryz.ntmps7
  go_wp2_with fail
  generalize w.alloc (.cells #[.int .u8 a0, .int .u8 a1, .int .u8 a2, .int .u8 a3] 22) = w0 at *
  generalize hmbk : w.heap.size = mb at *
  with_reducible refine (HPM.out _).mono ?_
  rintro _ w1 ⟨m0, m1, m2, m3, rfl, b0, b1, b2, b3, b4, b5, k1⟩
  have hm59 := Blk.new w1 #[.int .i64 m0, .int .i64 m1, .int .i64 m2, .int .i64 m3] 59
  have k2 : Kept w1 (w1.alloc (.cells #[.int .i64 m0, .int .i64 m1, .int .i64 m2, .int .i64 m3] 59)) := (Frm.refl _ _).alloc _
  have hld9 := load59 _ _ _ _ _ _ hm59
  obtain ⟨W, hW⟩ : ∃ W, m0 + sz + m1 = W := ⟨_, rfl⟩
  obtain ⟨H, hH⟩ : ∃ H, m2 + sz + m3 = H := ⟨_, rfl⟩
  have kk := (ka.trans k1).trans k2
  have hdr : ∀ L, L < 256 → _ := fun L hL => pxDraw g cap n s m0 m1 m2 m3 L W H R _ (HSL.out.kept kk) hn HR.out hn1 hn2 hs1 hs2 (by omega) (by omega) (by omega) (by omega) (by rw [HSZ.out]; omega) (by rw [HSZ.out]; omega) hL
  have hdr25 := hdr 25 (by omega)
  have hdrli := hdr li hli
  simp only [Int.cast_ofNat_Int] at hdr25
  have HDR25 := Lib.hid hdr25
  have HDRLI := Lib.hid hdrli
  have HMB1 := Lib.hid (HMB.out.frm (k1.trans k2) (fun h => h))
  have HM59 := Lib.hid hm59
  have KK := Lib.hid kk
  have HW := Lib.hid hW
  have HH := Lib.hid hH
  rw [hW] at b4
  rw [hH] at b5
  have hWb : W ≤ 260 := by omega
  have hHb : H ≤ 260 := by omega
  have n0 := hm59.cell 0
  have n1 := hm59.cell 1
  have n2 := hm59.cell 2
  have n3 := hm59.cell 3
  simp only [List.getElem?_toArray, List.getElem?_cons_zero, List.getElem?_cons_succ] at n0 n1 n2 n3
  clear hdr hdr25 hdrli kk k1 k2 ka hm59 HPM HMB hld hW hH
  dsimp only
  go_upto_region 3 with fail
  generalize hm9 : w1.heap.size = m9 at *
  generalize w1.alloc (.cells #[.int .i64 m0, .int .i64 m1, .int .i64 m2, .int .i64 m3] 59) = w2 at *
  have HLD9 := Lib.hid hld9
  clear hm9 hld9
  go_cut [14, 15, 16] from 33 (fun s14 s15 s16 wx => ∃ L b c, 25 ≤ L ∧ L < 256 ∧ s14 = .int .i64 W ∧ s15 = .int .i64 H ∧ s16 = .slice (some ⟨b, 0, none⟩) (H * W : Nat) c ∧ Row wx 5 b (H * W) c (natVals .u8 (pixN s m0 m2 n L R W (H * W))) ∧ Kept w2 wx)
  case first =>
    go_wp2_with fail
    · with_reducible refine HDRLI.out.mono ?_
      rintro _ w3 ⟨b, c, rfl, hrow, k3⟩
      rw [pixN_vals] at hrow
      have HRW := Lib.hid hrow
      have K3 := Lib.hid k3
      clear hrow k3
      dsimp only
      go_wp2
      go_meet
      exact ⟨li, b, c, by omega, hli, rfl, rfl, rfl, HRW.out, K3.out⟩
    · with_reducible refine HDR25.out.mono ?_
      rintro _ w3 ⟨b, c, rfl, hrow, k3⟩
      rw [pixN_vals] at hrow
      have HRW := Lib.hid hrow
      have K3 := Lib.hid k3
      clear hrow k3
      dsimp only
      go_wp2
      go_meet
      exact ⟨25, b, c, by omega, by omega, rfl, rfl, rfl, HRW.out, K3.out⟩
  case rest =>
    obtain ⟨L, b, c, hL25, hL256, rfl, rfl, rfl, hrow, k3⟩ := hcut
    have hmw := HMB1.out.frm k3 (fun h => h)
    have x0 := hmw.cell 0
    have x1 := hmw.cell 1
    simp only [List.getElem?_toArray, List.getElem?_cons_zero, List.getElem?_cons_succ] at x0 x1
    have q0 : (a0 : Int).tdiv 16 = ((a0 / 16 : Nat) : Int) := (Int.ofNat_tdiv a0 16).symm
    have q1 : (a1 : Int).tdiv 16 = ((a1 / 16 : Nat) : Int) := (Int.ofNat_tdiv a1 16).symm
    have hl15 : a0 / 16 ≤ 15 := by omega
    have ht15 : a1 / 16 ≤ 15 := by omega
    generalize a0 / 16 = left at q0 hl15
    generalize a1 / 16 = top at q1 ht15
    have v0 : IntKind.i64.wrap (a0 : Int) = a0 := wrapI _ (by omega) (by omega)
    have v1 : IntKind.i64.wrap (a1 : Int) = a1 := wrapI _ (by omega) (by omega)
    have v2 : IntKind.i64.wrap (left : Int) = left := wrapI _ (by omega) (by omega)
    have v3 : IntKind.i64.wrap (top : Int) = top := wrapI _ (by omega) (by omega)
    have HROW := Lib.hid hrow
    have K3 := Lib.hid k3
    clear hrow k3 hmw n0 n1 n2 n3 HDR25 HDRLI
    go_wp2_with fail
    go_quiet (fail)
    generalize hwq : wc.drewN nq = wq
    have kq : Kept wc wq := by rw [← hwq]; exact (Frm.refl _ _).drewN nq
    have hpl := pixN_len s m0 m2 n L R W (H * W)
    have hrq := HROW.out.kept kq
    have hlay := pxLaid b c (W + left + 3) (H + top + 2) ar left top W H (pixN s m0 m2 n L R W (H * W)) wq (fun i hi => by
      rw [hrq.cell i (by rw [← hpl]; exact hi)]; exact natVals_get _ _ _ hi) hrq.lt hpl (by omega) (by omega) (by omega) (by omega) (by omega) har
    rw [hpl] at hlay
    simp only [Int.natCast_add, Int.cast_ofNat_Int] at hlay
    have HLAY := Lib.hid hlay
    have HROW2 := Lib.hid hrq
    have K4 := Lib.hid ((KK.out.trans K3.out).trans kq)
    have K24 := Lib.hid (K3.out.trans kq)
    clear hwq kq hrq hlay x0 x1 HROW K3 KK
    obtain ⟨A, hA⟩ : ∃ A, H * W = A := ⟨_, rfl⟩
    have HA := Lib.hid hA
    rw [hA] at HLAY ⊢
    clear hA hpl
    go_wp2_with fail
    with_reducible refine HLAY.out.mono ?_
    rintro _ w5 ⟨gp, page, rfl, hpg, hpgl, hpgg, k5⟩
    have hMb : (H + top + 2) * (W + left + 3) ≤ 160000 := Nat.le_trans (Nat.mul_le_mul (show H + top + 2 ≤ 400 by omega) (show W + left + 3 ≤ 400 by omega)) (by omega)
    have hrw := hpg.row (by omega)
    rw [hpgl] at hrw
    have hcr := grayCrop gp ((H + top + 2) * (W + left + 3)) ((H + top + 2) * (W + left + 3)) (W + left + 3) (H + top + 2) left top W H page w5 hrw (by omega) (by omega) (by omega) (by omega) rfl (by omega) (by omega)
    have hcp := crop_part page (pixN s m0 m2 n L R W A) (W + left + 3) left top W (by rw [pixN_len]; exact hpgg)
    rw [pixN_len] at hcp
    rw [HA.out] at hcr
    rw [hcp] at hcr
    generalize (H + top + 2) * (W + left + 3) = M at *
    simp only [Int.natCast_add, Int.cast_ofNat_Int] at hcr
    have HCR := Lib.hid hcr
    have K5 := Lib.hid (K4.out.trans k5)
    have K25 := Lib.hid (K24.out.trans k5)
    clear hcr hcp hpgg hpgl hpg hrw k5 K4 K24 HLAY HROW2 hMb
    dsimp only
    go_wp2_with fail
    with_reducible refine HCR.out.mono ?_
    rintro _ w6 ⟨g6, cap6, rfl, hr6, k6⟩
    have hbm := blackMatrix g6 A cap6 W H L (pixN s m0 m2 n L R W A) w6 hr6 (fun i => pixN_two _ _ _ _ _ _ _ _ _) HA.out (by omega) hL256 (by omega) (by omega) (by omega) (by omega)
    have HBMX := Lib.hid hbm
    have K6 := Lib.hid (K5.out.trans k6)
    have K26 := Lib.hid (K25.out.trans k6)
    clear hbm hr6 k6 K5 K25 HCR
    dsimp only
    go_wp2_with fail
    with_reducible refine HBMX.out.mono ?_
    rintro _ w7 ⟨o, rfl, hs7, k7⟩
    have K7 := Lib.hid (K6.out.trans k7)
    have K27 := Lib.hid (K26.out.trans k7)
    have hm9 := HM59.out.frm K27.out (fun h => h)
    have n0 := hm9.cell 0
    have n1 := hm9.cell 1
    have n2 := hm9.cell 2
    have n3 := hm9.cell 3
    simp only [List.getElem?_toArray, List.getElem?_cons_zero, List.getElem?_cons_succ] at n0 n1 n2 n3
    have hrl : ((List.range H).map (rowF (fun a k => decide ((pixN s m0 m2 n L R W A).getD (k * W + a) 0 = 0)) W)).length = H := by simp
    have hrr : ∀ y, y < H → (((List.range H).map (rowF (fun a k => decide ((pixN s m0 m2 n L R W A).getD (k * W + a) 0 = 0)) W)).getD y []).length = W := fun y hy => by
      simp [List.getD_eq_getElem?_getD, hy, rowF]
    have hc0 : ∃ b0, w7.cell? ⟨o, 0, none⟩ = some (.slice (some ⟨b0, 0, none⟩) W W) := by
      rcases hs7 with ⟨_, h⟩ | ⟨g', cap', vs, h, h2, h3⟩
      · cases h
      · rw [hrl] at h h2
        cases h
        obtain ⟨b0, hb1, _⟩ := h3 0 _ (by rw [List.getElem?_eq_getElem (by rw [hrl]; omega)])
        have hl0 := hrr 0 (by omega)
        rw [List.getD_eq_getElem?_getD, List.getElem?_eq_getElem (by rw [hrl]; omega), Option.getD_some] at hl0
        rw [hl0] at hb1
        exact ⟨b0, by rw [h2.cell 0 (by omega)]; exact hb1⟩
    obtain ⟨b0, cb0⟩ := hc0
    have htk := pxTaken o W H n s m0 m1 m2 m3 _ w7 hs7 hrl hrr hn1 hn2 hs1 hs2 (by rw [HSZ.out]; have := HW.out; omega) (by rw [HSZ.out]; have := HH.out; omega) (by omega) (by omega)
    have htb := taken_back s m0 m2 n L W H R hn HR.out hs1 (by rw [HSZ.out]; have := HW.out; omega) (by rw [HSZ.out]; have := HH.out; omega) (by omega)
    rw [HA.out] at htb
    rw [htb] at htk
    have HTK := Lib.hid htk
    clear hs7 hrl hrr k7 hm9 htk htb K6 K26 HBMX
    have hbW : ((W : Int) != W) = false := by simp
    have hbH : ((H : Int) != H) = false := by simp
    dsimp only
    go_wp2_with fail
    with_reducible refine HTK.out.mono ?_
    rintro _ w8 ⟨S, rfl, hs8, k8⟩
    have HS8 := Lib.hid hs8
    have K8 := Lib.hid (K7.out.trans k8)
    clear hs8 k8 K7 K27 HTK n0 n1 n2 n3 cb0
    dsimp only
    go_wp2
    go_ret2
    exact ⟨S, rfl, HS8.out, K8.out⟩
end Go.Proofs.YtnpkihobbcglcaaGreatDoor
