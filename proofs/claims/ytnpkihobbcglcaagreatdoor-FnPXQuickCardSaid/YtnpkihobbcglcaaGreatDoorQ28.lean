/- The picture laid into a page: PXLaid: the plain part. PXLaid: the walk. Sources of light: their sizes. A source cropped. A source's width and height. A cropped source's matrix: the rows copied one by one. -/
import Derived.Test.YtnpkihobbcglcaaGreatDoorQ27
import Derived.Deep.RegionHeld3
set_option linter.unusedSimpArgs false
set_option linter.unusedVariables false

/- R3: The picture laid into a page: PXLaid: the plain part. -/
namespace Go.Proofs.YtnpkihobbcglcaaGreatDoor
open Go Go.RowKit

def pgIx (W left top pw i : Nat) : Nat := (top + i / pw) * W + left + i % pw
theorem pgIx_inj (W left top pw i j : Nat) (hp : 0 < pw) (h : left + pw ≤ W) (e : pgIx W left top pw i = pgIx W left top pw j) : i = j := by
  unfold pgIx at e
  have h1 := Nat.mod_lt i hp
  have h2 := Nat.mod_lt j hp
  have m : ∀ a r, r < W → (a * W + r) % W = r ∧ (a * W + r) / W = a := by
    intro a r hr
    constructor
    · rw [Nat.mul_comm, Nat.mul_add_mod, Nat.mod_eq_of_lt hr]
    · rw [Nat.mul_comm, Nat.mul_add_div (by omega), Nat.div_eq_of_lt hr]; omega
  have a1 := m (top + i / pw) (left + i % pw) (by omega)
  have a2 := m (top + j / pw) (left + j % pw) (by omega)
  rw [Nat.add_assoc, Nat.add_assoc] at e
  rw [e] at a1
  have e1 : left + i % pw = left + j % pw := a1.1.symm.trans a2.1
  have e2 : top + i / pw = top + j / pw := a1.2.symm.trans a2.2
  rw [← Nat.div_add_mod i pw, ← Nat.div_add_mod j pw, show i / pw = j / pw by omega, show i % pw = j % pw by omega]
theorem pgIx_lt (W H left top pw ph i : Nat) (hp : 0 < pw) (h : left + pw ≤ W) (hh : top + ph ≤ H) (hi : i < ph * pw) : pgIx W left top pw i < H * W := by
  unfold pgIx
  have h1 := Nat.mod_lt i hp
  have h2 : i / pw < ph := Nat.div_lt_of_lt_mul (by rw [Nat.mul_comm]; exact hi)
  have h3 : (top + i / pw + 1) * W ≤ H * W := Nat.mul_le_mul_right _ (by omega)
  rw [Nat.succ_mul] at h3
  omega
/-- The page while the first k pixels are laid. -/
def pgLaid (W left top pw : Nat) (part : List Nat) (k : Nat) (page : List Nat) : List Nat := iterN (fun i p => p.set (pgIx W left top pw i) (part.getD i 0)) k page
theorem pgLaid_len (W left top pw : Nat) (part page : List Nat) (k : Nat) : (pgLaid W left top pw part k page).length = page.length :=
  iterN_keep (fun p => p.length = page.length) _ (fun i p h => by rw [List.length_set]; exact h) k page rfl
theorem pgLaid_get (W left top pw : Nat) (part page : List Nat) (hp : 0 < pw) (h : left + pw ≤ W) (hb : ∀ i, i < part.length → pgIx W left top pw i < page.length) : ∀ k, k ≤ part.length → ∀ i, i < k → (pgLaid W left top pw part k page).getD (pgIx W left top pw i) 0 = part.getD i 0 := by
  intro k
  induction k with
  | zero => intro _ i hi; omega
  | succ k ih =>
    intro hk i hi
    show ((pgLaid W left top pw part k page).set (pgIx W left top pw k) (part.getD k 0)).getD (pgIx W left top pw i) 0 = _
    rw [List.getD_eq_getElem?_getD, List.getElem?_set]
    split
    · rename_i e
      have := pgIx_inj W left top pw k i hp h e
      subst this
      rw [if_pos (by rw [pgLaid_len]; exact hb k (by omega))]
      rfl
    · rename_i e
      have hne : i ≠ k := fun e2 => e (by rw [e2])
      rw [← List.getD_eq_getElem?_getD]
      exact ih (by omega) i (by omega)
end Go.Proofs.YtnpkihobbcglcaaGreatDoor

/- R4: PXLaid: the walk. -/
namespace Go.Proofs.YtnpkihobbcglcaaGreatDoor
open Go Go.RowKit

set_option maxRecDepth 100000 in
set_option maxHeartbeats 4000000 in
theorem pxLaid (b c W H around left top pw ph : Nat) (part : List Nat) (w : World) (hpart : ∀ i, i < part.length → w.cell? ⟨b, i, none⟩ = some (.int .u8 (part.getD i 0 : Nat))) (hb : b < w.heap.size) (hpl : part.length = ph * pw) (hpw : 1 ≤ pw) (hW : left + pw ≤ W) (hH : top + ph ≤ H) (hWb : W ≤ 400) (hHb : H ≤ 400) (ha : around < 256) :
    Calls Tryz.prog 24 #[.int .i64 W, .int .i64 H, .int .u8 around, .slice (some ⟨b, 0, none⟩) part.length c, .int .i64 left, .int .i64 top, .int .i64 pw] w fun e w' => ∃ g page, e = .returned (.slice (some ⟨g, 0, none⟩) (H * W) (H * W)) ∧ Nats w' g .u8 5 page ∧ page.length = H * W ∧ (∀ i, i < part.length → page.getD (pgIx W left top pw i) 0 = part.getD i 0) ∧ Kept w w' := by
  obtain ⟨N, hN⟩ : ∃ N, H * W = N := ⟨_, rfl⟩
  have hNb : N ≤ 160000 := by rw [← hN]; exact Nat.le_trans (Nat.mul_le_mul hHb hWb) (by omega)
  have hNi : (W : Int) * H = N := by rw [← hN, Int.natCast_mul, Int.mul_comm]
  have hlt : ∀ i, i < part.length → pgIx W left top pw i < N := fun i hi => by rw [← hN]; exact pgIx_lt W H left top pw ph i (by omega) hW hH (by rw [← hpl]; exact hi)
  have hpb : part.length ≤ 160000 := by
    rw [hpl]; exact Nat.le_trans (Nat.mul_le_mul (show ph ≤ 400 by omega) (show pw ≤ 400 by omega)) (by omega)
  rw [hN]
  have HPT := Lib.hid hpart
  have HLT := Lib.hid hlt
  generalize hPL : part.length = M at *
  have HPL := Lib.hid hPL
  clear hpart hlt hN hpl hPL
  have hmk := run_make_ints 32 5 .u8 1 (by kernel_rfl) info5 N (by omega) (by omega) w
  go_enter Tryz.func24, Tryz.ntmps24
  go_wp2_with fail
  have hz := Nats.new w .u8 5 (List.replicate N 0)
  have k0 : Kept w (w.alloc (.cells (natCells .u8 (List.replicate N 0)) 5)) := (Frm.refl _ _).alloc _
  have hzl : (List.replicate N 0).length = N := List.length_replicate
  generalize w.alloc (.cells (natCells .u8 (List.replicate N 0)) 5) = w0 at hz k0 ⊢
  generalize List.replicate N 0 = zs at hz hzl
  generalize hg : w.heap.size = g at *
  have HG := Lib.hid hg
  clear hmk hg
  go_loopw [16] (fun iv wr => ∃ (i : Nat) (xs : List Nat), i ≤ N ∧ iv = .int .i64 i ∧ Nats wr g .u8 5 xs ∧ xs.length = N ∧ Kept w wr) (fun iv _ => N - (intOf iv).toNat)
  case atStart => exact ⟨0, zs, Nat.zero_le _, rfl, hz, hzl, k0⟩
  case round =>
    obtain ⟨i, xs, hi, rfl, hx, hxl, kw⟩ := hrel
    clear hz k0 hzl
    by_cases hlt : i < N
    · have hd : decide ((i : Int) < N) = true := by simp; omega
      have cx := hx.cell i (by omega)
      have fx := hx.free i
      have hset := hx.set i around
      have HS := Lib.hid hset
      have HXL := Lib.hid hxl
      have hkk := Lib.hid (kw.setCell (p := ⟨g, i, none⟩) (.inr (Nat.le_of_eq HG.out)) (.int .u8 around))
      clear hx hset hxl kw
      go_wp2
      exact ⟨⟨i + 1, xs.set i around, by omega, by go_num, HS.out, by rw [List.length_set]; exact HXL.out, hkk.out⟩, by simp [intOf]; omega⟩
    · obtain rfl : i = N := by omega
      have hd : decide ((i : Int) < i) = false := by simp
      have HXL := Lib.hid hxl
      clear hxl
      go_wp2
      go_loopw [17] (fun jv wx => ∃ (j : Nat), j ≤ M ∧ jv = .int .i64 j ∧ Nats wx g .u8 5 (pgLaid W left top pw part j xs) ∧ Kept w wx) (fun jv _ => M - (intOf jv).toNat)
      case atStart => exact ⟨0, Nat.zero_le _, rfl, hx, kw⟩
      case round =>
        obtain ⟨j, hj, rfl, hp, kx⟩ := hrel
        clear hx kw
        by_cases hjl : j < M
        · have hd2 : decide ((j : Int) < M) = true := by simp; omega
          have hix := HLT.out j hjl
          unfold pgIx at hix
          have hS : pgLaid W left top pw part (j + 1) xs = (pgLaid W left top pw part j xs).set ((top + j / pw) * W + left + j % pw) (part.getD j 0) := rfl
          have hpln : (pgLaid W left top pw part j xs).length = i := by rw [pgLaid_len]; exact HXL.out
          have cpt := cell_kept (HPT.out j hjl) kx
          have e1 : (j : Int).tdiv pw = ((j / pw : Nat) : Int) := (Int.ofNat_tdiv j pw).symm
          have e2 : (j : Int).tmod pw = ((j % pw : Nat) : Int) := (Int.ofNat_tmod j pw).symm
          have hrm := Nat.mod_lt j (show 0 < pw by omega)
          generalize j / pw = qd at *
          generalize j % pw = rm at *
          obtain ⟨A, hA⟩ : ∃ A, (top + qd) * W = A := ⟨_, rfl⟩
          rw [hA] at hix hS
          have hAi : ((top : Int) + qd) * W = A := by rw [← hA, Int.natCast_mul, Int.natCast_add]
          have hqb : top + qd ≤ A := by rw [← hA]; exact Nat.le_mul_of_pos_right _ (by omega)
          have HA := Lib.hid hA
          clear hA
          have w1 : IntKind.i64.wrap (qd : Int) = qd := wrapI _ (by omega) (by omega)
          have w2 : IntKind.i64.wrap ((top : Int) + qd) = (top : Int) + qd := wrapI _ (by omega) (by omega)
          have w3 : IntKind.i64.wrap (A : Int) = A := wrapI _ (by omega) (by omega)
          have w4 : IntKind.i64.wrap ((A : Int) + left) = (A : Int) + left := wrapI _ (by omega) (by omega)
          have w5 : IntKind.i64.wrap ((A : Int) + left + rm) = (A : Int) + left + rm := wrapI _ (by omega) (by omega)
          have hp0 : decide ((pw : Int) = 0) = false := by simp; omega
          have b1 : (A : Int) + left + rm < i := by omega
          have b2 : (j : Int) < M := by omega
          have cpg := hp.cell (A + left + rm) (by rw [hpln]; exact hix)
          have fpg := hp.free (A + left + rm)
          generalize part.getD j 0 = pv at cpt hS
          have hset : ∀ n, Nats ((wr.drewN n).setCell ⟨g, A + left + rm, none⟩ (.int .u8 (pv : Int))) g .u8 5 (pgLaid W left top pw part (j + 1) xs) := by
            intro n; rw [hS]; exact Nats.set (w := wr.drewN n) hp (A + left + rm) pv
          have hks : ∀ n, Kept w ((wr.drewN n).setCell ⟨g, A + left + rm, none⟩ (.int .u8 (pv : Int))) := fun n => (kx.drewN n).setCell (.inr (Nat.le_of_eq HG.out)) _
          have HSET := Lib.hid hset
          have HKS := Lib.hid hks
          clear hset hks hS hp hpln kx hqb
          go_wp2_with fail
          refine wp_region_quiet_tail 19 (by kernel_rfl) (by kernel_rfl) ?_
          simp only [List.take_succ_cons, List.take_zero, List.drop_succ_cons, List.drop_zero]
          repeat (go_big_quiet_step (fail))
          refine wpQuiet_nil ?_
          intro _ hw'
          obtain ⟨nq2, hw''⟩ := hw'
          subst hw''
          go_wp2
          exact ⟨⟨j + 1, by omega, by go_num, HSET.out _, HKS.out _⟩, by simp [intOf]; omega⟩
        · obtain rfl : j = M := by omega
          have hd2 : decide ((j : Int) < j) = false := by simp
          have hget : ∀ t, t < j → (pgLaid W left top pw part j xs).getD (pgIx W left top pw t) 0 = part.getD t 0 := fun t ht => pgLaid_get W left top pw part xs (by omega) hW (fun t ht => by rw [HXL.out]; exact HLT.out t (by rw [← HPL.out]; exact ht)) j (by rw [HPL.out]; omega) t ht
          have HGT := Lib.hid hget
          have HPF := Lib.hid hp
          clear hget hp
          go_wp2
          go_ret
          exact ⟨g, _, rfl, HPF.out, by rw [pgLaid_len]; exact HXL.out, HGT.out, kx⟩
end Go.Proofs.YtnpkihobbcglcaaGreatDoor

/- R5: Sources of light: their sizes. -/
namespace Go.Proofs.YtnpkihobbcglcaaGreatDoor
open Go Go.RowKit

theorem fitsAny (W H P : Nat) (w : World) (hW : 1 ≤ W) (hH : 1 ≤ H) (hP : H * W = P) (hWb : W ≤ 400) (hHb : H ≤ 400) : Calls Tryz.prog 110 #[.int .i64 W, .int .i64 H, .int .i64 P] w fun e w' => e = .returned (.bool true) ∧ w = w' := by
  have d1 : decide ((0 : Int) < W) = true := by simp; omega
  have d2 : decide ((0 : Int) < H) = true := by simp; omega
  have q1 : (P : Int).tdiv W = (H : Int) := by
    rw [← Int.ofNat_tdiv, ← hP, Nat.mul_div_cancel _ (by omega)]
  have q2 : (P : Int).tmod W = 0 := by
    rw [← Int.ofNat_tmod, ← hP, Nat.mul_mod_left]; rfl
  clear hP
  go_enter Tryz.func110, Tryz.ntmps110
  go_wp2
  go_ret
  exact ⟨rfl, rfl⟩

theorem newSource (g N c dw dh left top sw sh : Nat) (w : World) (hx : left + sw ≤ dw) (hy : top + sh ≤ dh) (hb : dw ≤ 1000 ∧ dh ≤ 1000) :
    Calls Tryz.prog 111 #[.slice (some ⟨g, 0, none⟩) N c, .int .i64 dw, .int .i64 dh, .int .i64 left, .int .i64 top, .int .i64 sw, .int .i64 sh, .bool false] w fun e w' => e = .returned (.tuple #[.iface 226 (.pointer (some ⟨w.heap.size, 0, none⟩)), .nilIface]) ∧
      Blk w' w.heap.size #[.int .i64 sw, .int .i64 sh, .slice (some ⟨g, 0, none⟩) N c, .int .i64 dw, .int .i64 dh, .int .i64 left, .int .i64 top] 230 ∧ Kept w w' := by
  have d1 : decide ((dw : Int) < (left : Int) + sw) = false := by simp; omega
  have d2 : decide ((dh : Int) < (top : Int) + sh) = false := by simp; omega
  obtain ⟨hb1, hb2⟩ := hb
  go_enter Tryz.func111, Tryz.ntmps111
  go_wp2
  go_ret2
  exact ⟨rfl, Blk.new _ _ _, (Frm.refl _ _).alloc _⟩

theorem addr_add (b j : Nat) : (⟨b, 0, none⟩ : Addr).add j = ⟨b, j, none⟩ := by unfold Addr.add; split <;> simp_all

set_option maxRecDepth 100000 in
theorem sourceAny (b N c W H : Nat) (vals : List Value) (w : World) (hr : Row w 5 b N c vals) (h1 : ∀ u ∈ vals, u.oneCell' = true) (hN : H * W = N) (hW : 1 ≤ W) (hH : 1 ≤ H) (hWb : W ≤ 400) (hHb : H ≤ 400) :
    Calls Tryz.prog 64 #[.int .i64 W, .int .i64 H, .slice (some ⟨b, 0, none⟩) N c, .bool false] w fun e w' => ∃ p g cap, e = .returned (.tuple #[.iface 226 (.pointer (some ⟨p, 0, none⟩)), .bool true]) ∧
      Blk w' p #[.int .i64 W, .int .i64 H, .slice (some ⟨g, 0, none⟩) N cap, .int .i64 W, .int .i64 H, .int .i64 0, .int .i64 0] 230 ∧ Row w' 5 g N cap vals ∧ Kept w w' := by
  have hNb : N ≤ 160000 := by rw [← hN]; exact Nat.le_trans (Nat.mul_le_mul hHb hWb) (by omega)
  have hN1 : 1 ≤ N := by rw [← hN]; exact Nat.mul_le_mul hH hW
  have hf := fitsAny W H N w hW hH hN hWb hHb
  obtain ⟨g, cap, w1, hrun, hrow, k1, -⟩ := run_append_nil 32 32 5 (.int .u8 0) 1 (by kernel_rfl) info5 rfl (w := w) ⟨b, 0, none⟩ N c vals hr.len (by omega)
    (fun j u hj => by
      have hjl : j < N := by rw [← hr.len]; exact (List.getElem?_eq_some_iff.1 hj).1
      rw [addr_add, hr.cell j hjl]; exact hj) h1 (by unfold maxLen; omega) (by omega)
  have hs := newSource g N cap W H 0 0 W H w1 (by omega) (by omega) ⟨by omega, by omega⟩
  simp only [Int.cast_ofNat_Int] at hs
  have HF := Lib.hid hf
  have HRUN := Lib.hid hrun
  have HS := Lib.hid hs
  have HROW := Lib.hid hrow
  clear hf hrun hs hrow hN hr h1
  go_enter Tryz.func64, Tryz.ntmps64
  go_wp2_with fail
  with_reducible refine HF.out.mono ?_
  rintro _ _ ⟨rfl, rfl⟩
  dsimp only
  go_wp2_with (at_builtin; refine wpList_append_run rfl (.const (.slice none 0 0)) (.tmp 19) 32 32 rfl _ _ rfl rfl _ _ HRUN.out ?_)
  with_reducible refine HS.out.mono ?_
  rintro _ w2 ⟨rfl, hb, k2⟩
  have HB := Lib.hid hb
  have K2 := Lib.hid (k1.trans k2)
  have HR2 := Lib.hid (HROW.out.kept k2)
  clear hb k1 k2 HS HROW
  dsimp only
  go_wp2_with fail
  go_quiet (fail)
  go_wp2
  go_ret2
  exact ⟨_, g, cap, rfl, HB.out.frm ((Frm.refl (fun _ => False) w2).drewN nq) (fun h => h), HR2.out.drewN nq, K2.out.drewN nq⟩
end Go.Proofs.YtnpkihobbcglcaaGreatDoor

/- R6: A source cropped. -/
namespace Go.Proofs.YtnpkihobbcglcaaGreatDoor
open Go Go.RowKit

set_option maxRecDepth 100000 in
set_option maxHeartbeats 2000000 in
theorem cropAny (p g N c dw dh l0 t0 left top sw sh : Nat) (a b : Value) (w : World) (h : Blk w p #[a, b, .slice (some ⟨g, 0, none⟩) N c, .int .i64 dw, .int .i64 dh, .int .i64 l0, .int .i64 t0] 230) (hx : l0 + left + sw ≤ dw) (hy : t0 + top + sh ≤ dh) (hb : dw ≤ 1000 ∧ dh ≤ 1000) :
    Calls Tryz.prog 304 #[.pointer (some ⟨p, 0, none⟩), .int .i64 left, .int .i64 top, .int .i64 sw, .int .i64 sh] w fun e w' => ∃ q, e = .returned (.tuple #[.iface 226 (.pointer (some ⟨q, 0, none⟩)), .nilIface]) ∧
      Blk w' q #[.int .i64 sw, .int .i64 sh, .slice (some ⟨g, 0, none⟩) N c, .int .i64 dw, .int .i64 dh, .int .i64 (l0 + left : Nat), .int .i64 (t0 + top : Nat)] 230 ∧ Kept w w' := by
  have c2 := h.cell 2
  have c3 := h.cell 3
  have c4 := h.cell 4
  have c5 := h.cell 5
  have c6 := h.cell 6
  simp only [List.getElem?_toArray, List.getElem?_cons_zero, List.getElem?_cons_succ] at c2 c3 c4 c5 c6
  have hs := newSource g N c dw dh (l0 + left) (t0 + top) sw sh w.drew (by omega) (by omega) hb
  simp only [Int.natCast_add] at hs
  have HS := Lib.hid hs
  have w1 : IntKind.i64.wrap ((l0 : Int) + left) = (l0 : Int) + left := wrapI _ (by omega) (by omega)
  have w2 : IntKind.i64.wrap ((t0 : Int) + top) = (t0 : Int) + top := wrapI _ (by omega) (by omega)
  have d2 : w.drew.cell? ⟨p, 2, none⟩ = some (.slice (some ⟨g, 0, none⟩) N c) := c2
  have d3 : w.drew.cell? ⟨p, 3, none⟩ = some (.int .i64 dw) := c3
  have d4 : w.drew.cell? ⟨p, 4, none⟩ = some (.int .i64 dh) := c4
  have d5 : w.drew.cell? ⟨p, 5, none⟩ = some (.int .i64 l0) := c5
  have d6 : w.drew.cell? ⟨p, 6, none⟩ = some (.int .i64 t0) := c6
  have keep : ∀ w2, Kept w.drew w2 → (w2.cell? ⟨p, 2, none⟩ = some (.slice (some ⟨g, 0, none⟩) N c) ∧ w2.cell? ⟨p, 3, none⟩ = some (.int .i64 dw) ∧ w2.cell? ⟨p, 4, none⟩ = some (.int .i64 dh) ∧ w2.cell? ⟨p, 5, none⟩ = some (.int .i64 l0) ∧ w2.cell? ⟨p, 6, none⟩ = some (.int .i64 t0)) :=
    fun w2 k => ⟨cell_kept d2 k, cell_kept d3 k, cell_kept d4 k, cell_kept d5 k, cell_kept d6 k⟩
  have KEEP := Lib.hid keep
  clear hs h keep
  go_enter Tryz.func304, Tryz.ntmps304
  go_wp2_with fail
  go_region_held3 (fun w2 => w2.cell? ⟨p, 2, none⟩ = some (.slice (some ⟨g, 0, none⟩) N c) ∧ w2.cell? ⟨p, 3, none⟩ = some (.int .i64 dw) ∧ w2.cell? ⟨p, 4, none⟩ = some (.int .i64 dh) ∧ w2.cell? ⟨p, 5, none⟩ = some (.int .i64 l0) ∧ w2.cell? ⟨p, 6, none⟩ = some (.int .i64 t0))
    (first | assumption | exact ⟨d2, d3, d4, d5, d6⟩ | exact KEEP.out _ (by assumption))
    (first
      | (go_at_call 111; with_reducible refine HS.out.mono ?_; rintro _ w2 ⟨rfl, hb2, k2⟩))
  go_wp2
  go_ret2
  refine ⟨_, rfl, ?_, ((Frm.refl _ _).drew).trans k2⟩
  rw [Int.natCast_add, Int.natCast_add]
  exact hb2
end Go.Proofs.YtnpkihobbcglcaaGreatDoor

/- R7: A source's width and height. -/
namespace Go.Proofs.YtnpkihobbcglcaaGreatDoor
open Go Go.RowKit

theorem srcWidth (p : Nat) (v : Value) (w : World) (h : w.cell? ⟨p, 0, none⟩ = some v) : Calls Tryz.prog 308 #[.pointer (some ⟨p, 0, none⟩)] w fun r w' => r = .returned v ∧ w = w' := by
  go_enter Tryz.func308, Tryz.ntmps308
  go_wp2
  go_ret
  exact ⟨rfl, rfl⟩
theorem srcHeight (p : Nat) (v : Value) (w : World) (h : w.cell? ⟨p, 1, none⟩ = some v) : Calls Tryz.prog 305 #[.pointer (some ⟨p, 0, none⟩)] w fun r w' => r = .returned v ∧ w = w' := by
  go_enter Tryz.func305, Tryz.ntmps305
  go_wp2
  go_ret
  exact ⟨rfl, rfl⟩

theorem wholeMatrix (p g N c W H l0 t0 : Nat) (w : World) (h : Blk w p #[.int .i64 W, .int .i64 H, .slice (some ⟨g, 0, none⟩) N c, .int .i64 W, .int .i64 H, .int .i64 l0, .int .i64 t0] 230) :
    Calls Tryz.prog 306 #[.pointer (some ⟨p, 0, none⟩)] w fun e w' => e = .returned (.slice (some ⟨g, 0, none⟩) N c) ∧ w = w' := by
  have c0 := h.cell 0
  have c1 := h.cell 1
  have c2 := h.cell 2
  have c3 := h.cell 3
  have c4 := h.cell 4
  simp only [List.getElem?_toArray, List.getElem?_cons_zero, List.getElem?_cons_succ] at c0 c1 c2 c3 c4
  clear h
  go_enter Tryz.func306, Tryz.ntmps306
  go_wp2_with fail
  with_reducible refine (srcWidth p _ w c0).mono ?_
  rintro _ _ ⟨rfl, rfl⟩
  dsimp only
  go_wp2_with fail
  with_reducible refine (srcHeight p _ w c1).mono ?_
  rintro _ _ ⟨rfl, rfl⟩
  dsimp only
  go_wp2
  go_ret
  exact ⟨rfl, rfl⟩
end Go.Proofs.YtnpkihobbcglcaaGreatDoor

/- R8: A cropped source's matrix: the rows copied one by one. -/
namespace Go.Proofs.YtnpkihobbcglcaaGreatDoor
open Go Go.RowKit

/-- copy out of a row that is known by its first cells. -/
theorem run_copy_row2 {P : Program} (w : World) (dT sT ty elem : TypeId) (k : IntKind) (g o dLen dCap sb so sLen sCap m : Nat) (t : TypeId) (xs ys : List Nat)
    (hu : P.underlying dT = some (.slice elem)) (hs : (P.info? elem).map (·.size) = some 1)
    (hg : Nats w g k t xs) (hsb : ∀ i, i < ys.length → w.cell? ⟨sb, i, none⟩ = some (.int k (ys.getD i 0 : Nat))) (hm : m = Nat.min sLen dLen) (hy : so + m ≤ ys.length) (hfit : o + m ≤ xs.length) :
    (Builtin.copy_ #[dT, sT] ty #[.slice (some ⟨g, o, none⟩) dLen dCap, .slice (some ⟨sb, so, none⟩) sLen sCap]).run P w =
      .ok (goInt m) (w.setRow g (natCells k (xs.take o ++ (ys.drop so).take m ++ xs.drop (o + m)))) := by
  have hl : (natVals k ((ys.drop so).take m)).length = m := by simp [natVals_length]; omega
  have h := run_copy_row (P := P) w dT sT ty elem g o dLen dCap ⟨sb, so, none⟩ sLen sCap (natCells k xs) t (natVals k ((ys.drop so).take m)) hu hs hg (by rw [hl, hm]) (fun j v hj => by
    have hj' : j < m := by have := (List.getElem?_eq_some_iff.1 hj).1; omega
    have h1 := hsb (so + j) (by omega)
    have e : (⟨sb, so, none⟩ : Addr).add j = ⟨sb, so + j, none⟩ := by
      simp only [Addr.add]; split
      · rename_i h0; subst h0; rfl
      · rfl
    rw [e, h1, ← hj]
    simp [natVals, hj', List.getElem?_drop, show so + j < ys.length by omega]) (by rw [hl]; simp [natCells, natVals_length]; omega) (natVals_one _ _)
  rw [hl] at h
  rw [h]
  congr 3
  simp [natCells, natVals]

def cropL (page : List Nat) (W left top pw n : Nat) : List Nat := (List.range n).map fun i => page.getD (pgIx W left top pw i) 0
theorem cropL_len (page : List Nat) (W left top pw n : Nat) : (cropL page W left top pw n).length = n := by simp [cropL]
theorem crop_step (page : List Nat) (W left top pw ph y io : Nat) (hp : 0 < pw) (hy : y < ph) (hio : io = (top + y) * W + left) (hl : io + pw ≤ page.length) :
    (cropL page W left top pw (y * pw) ++ List.replicate (ph * pw - y * pw) 0).take (y * pw) ++ (page.drop io).take pw ++ (cropL page W left top pw (y * pw) ++ List.replicate (ph * pw - y * pw) 0).drop (y * pw + pw) = cropL page W left top pw ((y + 1) * pw) ++ List.replicate (ph * pw - (y + 1) * pw) 0 := by
  have hle : (y + 1) * pw ≤ ph * pw := Nat.mul_le_mul_right _ (by omega)
  have h1 := cropL_len page W left top pw (y * pw)
  rw [List.take_left' h1]
  have h3 : (cropL page W left top pw (y * pw) ++ List.replicate (ph * pw - y * pw) 0).drop (y * pw + pw) = List.replicate (ph * pw - (y + 1) * pw) 0 := by
    have : y * pw + pw = (cropL page W left top pw (y * pw)).length + pw := by rw [h1]
    rw [this, List.drop_length_add_append, List.drop_replicate, Nat.succ_mul]
    congr 1; omega
  rw [h3]
  congr 1
  have h4 : (page.drop io).take pw = (List.range pw).map fun j => page.getD (pgIx W left top pw (y * pw + j)) 0 := by
    apply List.ext_getElem
    · simp; omega
    · intro j hj1 hj2
      have hj : j < pw := by simpa using hj2
      have e1 : (y * pw + j) / pw = y := by rw [Nat.mul_comm, Nat.mul_add_div hp, Nat.div_eq_of_lt hj]; omega
      have e2 : (y * pw + j) % pw = j := by rw [Nat.mul_comm, Nat.mul_add_mod, Nat.mod_eq_of_lt hj]
      simp only [List.getElem_take, List.getElem_drop, List.getElem_map, List.getElem_range]
      unfold pgIx
      rw [e1, e2, ← hio, List.getD_eq_getElem?_getD, List.getElem?_eq_getElem (by omega)]
      rfl
  rw [h4]
  unfold cropL
  rw [Nat.succ_mul, List.range_add, List.map_append, List.map_map]
  rfl

set_option maxRecDepth 100000 in
set_option maxHeartbeats 8000000 in
theorem cropMatrix (p g N c W H left top pw ph : Nat) (page : List Nat) (w : World) (h : Blk w p #[.int .i64 pw, .int .i64 ph, .slice (some ⟨g, 0, none⟩) N c, .int .i64 W, .int .i64 H, .int .i64 left, .int .i64 top] 230)
    (hr : Row w 5 g N c (natVals .u8 page)) (hpw : 1 ≤ pw) (hph : 1 ≤ ph) (hW : left + pw < W) (hH : top + ph < H) (hN : N = H * W) (hWb : W ≤ 400) (hHb : H ≤ 400) (hc : c ≤ maxLen) :
    Calls Tryz.prog 306 #[.pointer (some ⟨p, 0, none⟩)] w fun e w' => ∃ b, e = .returned (.slice (some ⟨b, 0, none⟩) (ph * pw : Nat) (ph * pw : Nat)) ∧ Nats w' b .u8 5 (cropL page W left top pw (ph * pw)) ∧ Kept w w' := by
  have hpl : page.length = N := by have := hr.len; rwa [natVals_length] at this
  have hNc := hr.room
  have hcells : ∀ i, i < page.length → w.cell? ⟨g, i, none⟩ = some (.int .u8 (page.getD i 0 : Nat)) := fun i hi => by
    rw [hr.cell i (by omega)]; exact natVals_get _ _ _ hi
  obtain ⟨A, hA⟩ : ∃ A, ph * pw = A := ⟨_, rfl⟩
  have hAb : A ≤ 160000 := by rw [← hA]; exact Nat.le_trans (Nat.mul_le_mul (show ph ≤ 400 by omega) (show pw ≤ 400 by omega)) (by omega)
  have hAi : (pw : Int) * ph = A := by rw [← hA, Int.natCast_mul, Int.mul_comm]
  obtain ⟨B, hB⟩ : ∃ B, top * W = B := ⟨_, rfl⟩
  have hBb : B ≤ 160000 := by rw [← hB]; exact Nat.le_trans (Nat.mul_le_mul (show top ≤ 400 by omega) hWb) (by omega)
  have hBi : (top : Int) * W = B := by rw [← hB, Int.natCast_mul]
  have hrow : ∀ y, y < ph → y * pw + pw ≤ A ∧ (top + y) * W + left + pw ≤ N := fun y hy => by
    constructor
    · rw [← hA, ← Nat.succ_mul]; exact Nat.mul_le_mul_right _ (by omega)
    · have : (top + y + 1) * W ≤ H * W := Nat.mul_le_mul_right _ (by omega)
      rw [Nat.succ_mul] at this
      omega
  have hnb : N ≤ 160000 := by rw [hN]; exact Nat.le_trans (Nat.mul_le_mul hHb hWb) (by omega)
  have c0 := h.cell 0
  have c1 := h.cell 1
  have c2 := h.cell 2
  have c3 := h.cell 3
  have c4 := h.cell 4
  have c5 := h.cell 5
  have c6 := h.cell 6
  simp only [List.getElem?_toArray, List.getElem?_cons_zero, List.getElem?_cons_succ] at c0 c1 c2 c3 c4 c5 c6
  have HCELLS := Lib.hid hcells
  have HROW := Lib.hid hrow
  have HA := Lib.hid hA
  have HB := Lib.hid hB
  have HPL := Lib.hid hpl
  have hmk := run_make_ints 32 5 .u8 1 (by kernel_rfl) info5 A (by omega) (by omega) w
  have hz := Nats.new w .u8 5 (List.replicate A 0)
  have kz : Kept w (w.alloc (.cells (natCells .u8 (List.replicate A 0)) 5)) := (Frm.refl _ _).alloc _
  have e1 : ((pw : Int) == W) = false := by rw [beq_eq_false_iff_ne]; omega
  have w1 : IntKind.i64.wrap (B : Int) = B := wrapI _ (by omega) (by omega)
  have w2 : IntKind.i64.wrap ((B : Int) + left) = (B : Int) + left := wrapI _ (by omega) (by omega)
  have w3 : IntKind.i64.wrap (A : Int) = A := wrapI _ (by omega) (by omega)
  have cz : ∀ wx, Kept w wx → (wx.cell? ⟨p, 1, none⟩ = some (.int .i64 ph) ∧ wx.cell? ⟨p, 2, none⟩ = some (.slice (some ⟨g, 0, none⟩) N c) ∧ wx.cell? ⟨p, 3, none⟩ = some (.int .i64 W) ∧ wx.cell? ⟨p, 5, none⟩ = some (.int .i64 left) ∧ wx.cell? ⟨p, 6, none⟩ = some (.int .i64 top) ∧ wx.cell? ⟨p, 4, none⟩ = some (.int .i64 H)) := fun wx k => ⟨cell_kept c1 k, cell_kept c2 k, cell_kept c3 k, cell_kept c5 k, cell_kept c6 k, cell_kept c4 k⟩
  have CZ := Lib.hid cz
  clear h hr hcells hrow hA hB hpl hN cz
  go_enter Tryz.func306, Tryz.ntmps306
  go_wp2_with fail
  with_reducible refine (srcWidth p _ w c0).mono ?_
  rintro _ _ ⟨rfl, rfl⟩
  dsimp only
  go_wp2_with fail
  with_reducible refine (srcHeight p _ w c1).mono ?_
  rintro _ _ ⟨rfl, rfl⟩
  dsimp only
  go_wp2_with fail
  obtain ⟨b1, b2, b3, b5, b6, b4⟩ := CZ.out _ kz
  generalize w.alloc (.cells (natCells .u8 (List.replicate A 0)) 5) = w0 at *
  generalize hb : w.heap.size = b at *
  have HBS := Lib.hid hb
  clear hb hmk c0 c1 c2 c3 c4 c5 c6
  go_quiet (fail)
  generalize hwq : w0.drewN nq = wq
  have kq : Kept w0 wq := by rw [← hwq]; exact (Frm.refl _ _).drewN nq
  have hzq := hz.frm kq (fun h => h)
  have HK := Lib.hid (kz.trans kq)
  have HZ := Lib.hid hzq
  clear hwq kq hzq hz kz b1 b2 b3 b4 b5 b6
  obtain ⟨b1, b2, b3, b5, b6, b4⟩ := CZ.out _ HK.out
  go_wp2_with fail
  go_loopw [7, 8, 9] (fun iv yv _ wr => ∃ (y io : Nat), y ≤ ph ∧ yv = .int .i64 y ∧ iv = .int .i64 io ∧ io = (top + y) * W + left ∧ Nats wr b .u8 5 (cropL page W left top pw (y * pw) ++ List.replicate (ph * pw - y * pw) 0) ∧ Kept w wr) (fun _ yv _ _ => ph - (intOf yv).toNat)
  case atStart => exact ⟨0, B + left, Nat.zero_le _, rfl, by go_num, by rw [← HB.out]; rfl, by rw [HA.out]; simpa [cropL] using HZ.out, HK.out⟩
  case round =>
    obtain ⟨y, io, hy, rfl, rfl, hio, hm, kw⟩ := hrel
    clear b1 b2 b3 b4 b5 b6
    by_cases hlt : y < ph
    · have hd : decide ((y : Int) < ph) = true := by simp; omega
      obtain ⟨r1, r2⟩ := HROW.out y hlt
      rw [← hio] at r2
      have hst := crop_step page W left top pw ph y io (by omega) hlt hio (by rw [HPL.out]; exact r2)
      have hion : io + W = (top + (y + 1)) * W + left := by rw [hio, ← Nat.add_assoc, Nat.succ_mul]; omega
      have hxl : (cropL page W left top pw (y * pw) ++ List.replicate (ph * pw - y * pw) 0).length = A := by
        rw [List.length_append, cropL_len, List.length_replicate, HA.out]; omega
      have HST := Lib.hid hst
      have HION := Lib.hid hion
      have HIO := Lib.hid hio
      clear hst hion hio
      generalize cropL page W left top pw (y * pw) ++ List.replicate (ph * pw - y * pw) 0 = xs at hm HST hxl
      obtain ⟨O, hO⟩ : ∃ O, y * pw = O := ⟨_, rfl⟩
      rw [hO] at r1 HST
      have hOi : (y : Int) * pw = O := by rw [← hO, Int.natCast_mul]
      have w4 : IntKind.i64.wrap (O : Int) = O := wrapI _ (by omega) (by omega)
      have w5 : IntKind.i64.wrap ((io : Int) + pw) = (io : Int) + pw := wrapI _ (by omega) (by omega)
      have w6 : IntKind.i64.wrap ((io : Int) + W) = (io : Int) + W := wrapI _ (by omega) (by omega)
      have HO := Lib.hid hO
      clear hO
      obtain ⟨b1, b2, b3, b5, b6, b4⟩ := CZ.out _ kw
      have hcp := fun n => run_copy_row2 (P := Tryz.prog) (wr.drewN n) 32 32 3 5 .u8 b O (A - O) (A - O) g io pw (c - io) pw 5 xs page (by kernel_rfl) (by kernel_rfl) (hm.frm ((Frm.refl (fun _ => False) wr).drewN n) (fun h => h)) (fun i hi => cell_kept (HCELLS.out i hi) (kw.drewN n)) (Nat.min_eq_left (by omega)).symm (by rw [HPL.out]; omega) (by rw [hxl]; omega)
      rw [HST.out] at hcp
      have HCP := Lib.hid hcp
      have HM := Lib.hid hm
      have HKW := Lib.hid kw
      clear hcp hm kw hxl
      go_wp2_with fail
      refine wp_region_quiet_tail 12 (by kernel_rfl) (by kernel_rfl) ?_
      simp only [List.take_succ_cons, List.take_zero, List.drop_succ_cons, List.drop_zero]
      repeat (go_big_quiet_step (fail))
      refine wpQuiet_nil ?_
      intro _ hw'
      obtain ⟨nq2, hw''⟩ := hw'
      subst hw''
      have hcp := HCP.out nq2
      have hmq := HM.out.frm ((Frm.refl (fun _ => False) wr).drewN nq2) (fun h => h)
      have hm2 := hmq.setRow (cropL page W left top pw ((y + 1) * pw) ++ List.replicate (ph * pw - (y + 1) * pw) 0)
      have hk2 : Kept w ((wr.drewN nq2).setRow b (natCells .u8 (cropL page W left top pw ((y + 1) * pw) ++ List.replicate (ph * pw - (y + 1) * pw) 0))) := (HKW.out.drewN nq2).setRow (.inr (Nat.le_of_eq HBS.out)) _
      generalize (wr.drewN nq2).setRow b (natCells .u8 (cropL page W left top pw ((y + 1) * pw) ++ List.replicate (ph * pw - (y + 1) * pw) 0)) = w7 at *
      have HM2 := Lib.hid hm2
      have HK2 := Lib.hid hk2
      clear hmq hm2 hk2 b1 b2 b3 b4 b5 b6
      obtain ⟨b1, b2, b3, b5, b6, b4⟩ := CZ.out _ HK2.out
      go_wp2
      exact ⟨⟨y + 1, io + W, by omega, by go_num, by go_num, HION.out, HM2.out, HK2.out⟩, by simp [intOf]; omega⟩
    · obtain rfl : y = ph := by omega
      have hd : decide ((y : Int) < y) = false := by simp
      rw [Nat.sub_self, List.replicate_zero, List.append_nil] at hm
      have HM := Lib.hid hm
      clear hm
      go_wp2
      go_ret
      exact ⟨b, by rw [HA.out]; rfl, HM.out, kw⟩
end Go.Proofs.YtnpkihobbcglcaaGreatDoor
