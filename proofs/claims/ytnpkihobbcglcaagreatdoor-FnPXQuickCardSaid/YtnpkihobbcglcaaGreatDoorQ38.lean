/- Decoding 16: a polynomial's value; no errors found. Decoding 17: a block without errors: nothing to correct. Decoding 18: correctErrors on a clean block. Decoding 19: the source of bits. -/
import Derived.Test.YtnpkihobbcglcaaGreatDoorQ18
import Derived.Test.YtnpkihobbcglcaaGreatDoorQ37
import Derived.Deep.QuietTactic
import Derived.Deep.Cut
import Derived.Deep.CutRange
set_option linter.unusedSimpArgs false
set_option linter.unusedVariables false

/- U16: Decoding 16: a polynomial's value; no errors found. -/
namespace Go.Proofs.YtnpkihobbcglcaaGreatDoor
open Go Go.RowKit

theorem GP.drewN' {w : World} {p f : Nat} {cs : List Nat} (h : GP w p f cs) (n : Nat) : GP (w.drewN n) p f cs := h.kept ((Frm.refl _ _).drewN n)
theorem hx_take (a : Nat) (cs : List Nat) (k : Nat) (hk : k < cs.length) : hx a (cs.take (k + 1)) 0 = gm a (hx a (cs.take k) 0) ^^^ cs.getD k 0 := by
  rw [List.take_add_one, List.getElem?_eq_getElem hk, hx_append]
  show gm a (hx a (cs.take k) 0) ^^^ cs[k] = _
  rw [List.getD_eq_getElem?_getD, List.getElem?_eq_getElem hk]; rfl
theorem hx_take_lt (a : Nat) (cs : List Nat) (hb : Bytes cs) (k : Nat) : hx a (cs.take k) 0 < 256 := hx_lt a _ (fun c hc => hb c (List.mem_of_mem_take hc)) 0 (by omega)

theorem ev_one (f p : Nat) (cs : List Nat) (w : World) (hp : GP w p f cs) :
    Calls Tryz.prog 247 #[.pointer (some ⟨p, 0, none⟩), .int .i64 1] w fun r w' => r = .returned (.int .i64 (ev cs 1 : Nat)) ∧ ∃ n, w' = w.drewN n := by
  obtain ⟨b, off, xs, h⟩ := hp
  have c1 := h.obj.cell 1
  simp only [List.getElem?_toArray, List.getElem?_cons_zero, List.getElem?_cons_succ] at c1
  have hcell := fun i hi => h.cell i hi
  have hby := h.bytes
  have hlen := h.len
  have hsm := h.small
  have HCELL := Lib.hid hcell
  have HBY := Lib.hid hby
  have hnb : cs.length ≤ 2000 := by omega
  clear h hcell hby hlen
  go_enter Tryz.func247, Tryz.ntmps247
  go_wp2_with fail
  generalize hn : cs.length = n at *
  have HN := Lib.hid hn
  clear hn
  go_loopw [5, 7, 22] (fun vv _ kv wr => w = wr ∧ ∃ k : Nat, k ≤ n ∧ kv = .int .i64 k ∧ vv = .int .i64 (hx 1 (cs.take k) 0 : Nat)) (fun _ _ kv _ => n - (intOf kv).toNat)
  case atStart => exact ⟨rfl, 0, Nat.zero_le _, rfl, rfl⟩
  case round =>
    obtain ⟨rfl, k, hk, rfl, rfl⟩ := hrel
    by_cases hkn : k < n
    · have hd : decide ((k : Int) < n) = true := by simp; omega
      have ck := HCELL.out k hkn
      have hl1 := hx_take_lt 1 cs HBY.out k
      have hl2 : cs.getD k 0 < 256 := HBY.out _ (by
        rw [List.getD_eq_getElem?_getD, List.getElem?_eq_getElem (by rw [HN.out]; exact hkn)]
        exact List.getElem_mem _)
      have hst := hx_take 1 cs k (by rw [HN.out]; exact hkn)
      rw [gm_comm, gm_one _ hl1] at hst
      generalize hx 1 (cs.take k) 0 = acc at *
      generalize cs.getD k 0 = c at *
      have hadd := gfAdd acc c w hl1 hl2
      have HADD := Lib.hid hadd
      have HST := Lib.hid hst
      clear hadd hst
      go_wp2_with fail
      with_reducible refine HADD.out.mono ?_
      rintro _ _ ⟨rfl, rfl⟩
      dsimp only
      go_wp2
      exact ⟨⟨trivial, k + 1, by omega, by go_num, by rw [HST.out]⟩, by simp [intOf]; omega⟩
    · obtain rfl : k = n := by omega
      have hd : decide ((k : Int) < k) = false := by simp
      go_wp2
      go_ret
      refine ⟨?_, 0, rfl⟩
      rw [List.take_of_length_le (by rw [HN.out]; exact Nat.le_refl _)]
      rfl

set_option maxRecDepth 100000 in
set_option maxHeartbeats 4000000 in
theorem ev_any (f e l z o p a : Nat) (cs : List Nat) (w : World) (hf : GF w f e l z o) (hp : GP w p f cs) (ha : a < 256) (ha0 : a ≠ 0) :
    Calls Tryz.prog 247 #[.pointer (some ⟨p, 0, none⟩), .int .i64 a] w fun r w' => r = .returned (.int .i64 (ev cs a : Nat)) ∧ ∃ n, w' = w.drewN n := by
  by_cases ha1 : a = 1
  · subst ha1; exact ev_one f p cs w hp
  obtain ⟨b, off, xs, h⟩ := hp
  have c0 := h.obj.cell 0
  have c1 := h.obj.cell 1
  simp only [List.getElem?_toArray, List.getElem?_cons_zero, List.getElem?_cons_succ] at c0 c1
  have hcell := fun i hi => h.cell i hi
  have hby := h.bytes
  have hlen := h.len
  have hltx := h.lt
  have hsm := h.small
  have e0 : ((a : Int) == 0) = false := by rw [beq_eq_false_iff_ne]; omega
  have e1 : ((a : Int) == 1) = false := by rw [beq_eq_false_iff_ne]; omega
  have HCELL := Lib.hid hcell
  have HBY := Lib.hid hby
  have HF := Lib.hid hf
  have hn0 : 0 < cs.length := by omega
  have hnb : cs.length ≤ 2000 := by omega
  have b0 := hcell 0 hn0
  have hinit : hx a (cs.take 1) 0 = cs.getD 0 0 := by
    have := hx_take a cs 0 hn0
    rw [this]
    show gm a 0 ^^^ _ = _
    rw [gm_zero, Nat.zero_xor]
  clear h hcell hby hlen hf hltx
  generalize hn : cs.length = n at *
  have HN := Lib.hid hn
  have HI := Lib.hid hinit
  clear hn hinit
  rw [Nat.add_zero] at b0
  have hin2 := HI.out
  generalize cs.getD 0 0 = cz at b0 hin2
  clear HI
  have HI := Lib.hid hin2
  clear hin2
  go_enter Tryz.func247, Tryz.ntmps247
  go_wp2_with fail
  go_loopw [8, 10] (fun vv kv wr => (∃ m, wr = w.drewN m) ∧ ∃ k : Nat, 1 ≤ k ∧ k ≤ n ∧ kv = .int .i64 k ∧ vv = .int .i64 (hx a (cs.take k) 0 : Nat)) (fun _ kv _ => n - (intOf kv).toNat)
  case atStart => exact ⟨⟨0, rfl⟩, 1, Nat.le_refl _, by omega, rfl, by rw [HI.out]⟩
  case round =>
    obtain ⟨⟨m, rfl⟩, k, hk1, hk, rfl, rfl⟩ := hrel
    by_cases hkn : k < n
    · have hd : decide ((k : Int) < n) = true := by simp; omega
      have ck : (w.drewN m).cell? ⟨b, off + k, none⟩ = some (.int .i64 ((cs.getD k 0 : Nat) : Int)) := HCELL.out k hkn
      have d0 : (w.drewN m).cell? ⟨p, 0, none⟩ = some (.pointer (some ⟨f, 0, none⟩)) := c0
      have d1 : (w.drewN m).cell? ⟨p, 1, none⟩ = some (.slice (some ⟨b, off, none⟩) n n) := c1
      have hl1 := hx_take_lt a cs HBY.out k
      have hl2 : cs.getD k 0 < 256 := HBY.out _ (by
        rw [List.getD_eq_getElem?_getD, List.getElem?_eq_getElem (by rw [HN.out]; exact hkn)]
        exact List.getElem_mem _)
      have hst := hx_take a cs k (by rw [HN.out]; exact hkn)
      generalize hx a (cs.take k) 0 = acc at *
      generalize cs.getD k 0 = c at *
      have hmul := fun j => gfMul f e l z o a acc ((w.drewN m).drewN j) ((HF.out.drewN m).drewN j) ha hl1
      have hg := gm_lt a acc
      generalize gm a acc = gv at *
      have hadd := fun wx => gfAdd gv c wx hg hl2
      have HADD := Lib.hid hadd
      have HST := Lib.hid hst
      generalize hwm : w.drewN m = wm at *
      have HMUL := Lib.hid hmul
      have HWM := Lib.hid hwm
      clear hadd hst hmul hwm
      go_wp2_with fail
      go_quiet (first | (go_at_call 204; exact Calls.quiet_of (HMUL.out _)) | (go_at_call 242; exact Calls.quiet_of_same ((HADD.out _).mono (fun _ _ h => ⟨h.1, h.2.symm⟩))))
      go_wp2
      exact ⟨⟨⟨m + nq, by rw [← HWM.out]; exact World.drewN_drewN _ _ _⟩, k + 1, by omega, by omega, by go_num, by rw [HST.out]⟩, by simp [intOf]; omega⟩
    · obtain rfl : k = n := by omega
      have hd : decide ((k : Int) < k) = false := by simp
      go_wp2
      go_ret
      refine ⟨?_, m, rfl⟩
      rw [List.take_of_length_le (by rw [HN.out]; exact Nat.le_refl _)]
      rfl
end Go.Proofs.YtnpkihobbcglcaaGreatDoor

/- U17: Decoding 17: a block without errors: nothing to correct. -/
namespace Go.Proofs.YtnpkihobbcglcaaGreatDoor
open Go Go.RowKit

theorem ge_ok : ∀ i, i < 256 → ge i < 256 ∧ ge i ≠ 0 := by decide +kernel

theorem newRsDecoder (f : Nat) (w : World) : Calls Tryz.prog 75 #[.pointer (some ⟨f, 0, none⟩)] w fun e w' => e = .returned (.pointer (some ⟨w.heap.size, 0, none⟩)) ∧ Blk w' w.heap.size #[.pointer (some ⟨f, 0, none⟩)] 194 ∧ Kept w w' := by
  go_enter Tryz.func75, Tryz.ntmps75
  go_wp2
  have hb := Blk.new w #[.pointer (some ⟨f, 0, none⟩)] 194
  have ka : Kept w (w.alloc (.cells #[.pointer (some ⟨f, 0, none⟩)] 194)) := (Frm.refl _ _).alloc _
  go_ret
  exact ⟨rfl, hb, ka⟩

/-- The decoder's object. -/
structure Dec (w : World) (d rs f e l z o : Nat) : Prop where
  obj : Blk w d #[.pointer (some ⟨rs, 0, none⟩)] 142
  rso : Blk w rs #[.pointer (some ⟨f, 0, none⟩)] 194
  gf : GF w f e l z o
theorem Dec.kept {w w' : World} {d rs f e l z o : Nat} (h : Dec w d rs f e l z o) (hf : Kept w w') : Dec w' d rs f e l z o :=
  ⟨h.obj.frm hf (fun h => h), h.rso.frm hf (fun h => h), h.gf.kept hf⟩

theorem newDecoder (w : World) : Calls Tryz.prog 29 #[] w fun r w' => ∃ d rs f e l z o, r = .returned (.pointer (some ⟨d, 0, none⟩)) ∧ Dec w' d rs f e l z o ∧ Kept w w' := by
  have hq := qrField w
  have HQ := Lib.hid hq
  clear hq
  go_enter Tryz.func29, Tryz.ntmps29
  go_wp2_with fail
  with_reducible refine HQ.out.mono ?_
  rintro _ w1 ⟨f, e, l, z, o, rfl, hf, k1, -⟩
  have hn := newRsDecoder f w1
  have HN := Lib.hid hn
  have HF := Lib.hid hf
  have K1 := Lib.hid k1
  clear hn hf k1 HQ
  dsimp only
  go_wp2_with fail
  with_reducible refine HN.out.mono ?_
  rintro _ w2 ⟨rfl, hb, k2⟩
  generalize w1.heap.size = rs at *
  have HF2 := Lib.hid (HF.out.kept k2)
  have K2 := Lib.hid (K1.out.trans k2)
  have HB := Lib.hid hb
  clear hb k2 HN HF K1
  dsimp only
  go_wp2
  have hd := Blk.new w2 #[.pointer (some ⟨rs, 0, none⟩)] 142
  have ka : Kept w2 (w2.alloc (.cells #[.pointer (some ⟨rs, 0, none⟩)] 142)) := (Frm.refl _ _).alloc _
  go_ret
  exact ⟨w2.heap.size, rs, f, e, l, z, o, rfl, ⟨hd, HB.out.frm ka (fun h => h), HF2.out.kept ka⟩, K2.out.trans ka⟩

set_option maxRecDepth 100000 in
set_option maxHeartbeats 4000000 in
theorem decodeClean (rs f e l z o a ec : Nat) (xs : List Nat) (w : World) (hr : Blk w rs #[.pointer (some ⟨f, 0, none⟩)] 194) (hf : GF w f e l z o) (hx : Nats w a .i64 3 xs) (hl : 1 ≤ xs.length) (hl2 : xs.length ≤ 2000) (hby : Bytes xs) (hec : ec < 31) (hev : ∀ i, i < ec → ev xs (ge i) = 0) :
    Calls Tryz.prog 215 #[.pointer (some ⟨rs, 0, none⟩), .slice (some ⟨a, 0, none⟩) xs.length xs.length, .int .i64 ec] w fun r w' => r = .returned .nilIface ∧ Kept w w' := by
  have c0 := hr.cell 0
  simp only [List.getElem?_toArray, List.getElem?_cons_zero] at c0
  have hnp := newPoly f a xs w hx (by intro h; rw [h] at hl; simp at hl) hl2 hby
  have HNP := Lib.hid hnp
  have HF := Lib.hid hf
  have HEV := Lib.hid hev
  have hmk := fun wx => run_make_ints 117 3 .i64 8 (by kernel_rfl) info3 ec (by omega) (by omega) wx
  have HMK := Lib.hid hmk
  generalize xs.length = n at *
  clear hnp hf hev hx hby hmk hr
  go_enter Tryz.func215, Tryz.ntmps215
  go_wp2_with fail
  with_reducible refine HNP.out.mono ?_
  rintro _ w1 ⟨p, rfl, hp, k1, -⟩
  obtain ⟨gb, off, xs', hgp⟩ := hp.gp
  have d0 := cell_kept c0 k1
  have hgbl : gb < w1.heap.size := hgp.row.lt
  have hpl : p < w1.heap.size := hgp.obj.lt
  have HP := Lib.hid hgp
  have HC0 := Lib.hid c0
  have K1 := Lib.hid k1
  have hmk := HMK.out w1
  have hz := Nats.new w1 .i64 3 (List.replicate ec 0)
  have kz : Kept w1 (w1.alloc (.cells (natCells .i64 (List.replicate ec 0)) 3)) := (Frm.refl _ _).alloc _
  clear hp hgp k1 c0 HNP
  dsimp only
  go_wp2_with fail
  have d1 := cell_kept d0 kz
  have HPZ := Lib.hid (HP.out.frm kz (fun h => h) (fun h => h))
  have KZ := Lib.hid (K1.out.trans kz)
  have hzl : (List.replicate ec 0).length = ec := List.length_replicate
  generalize (List.replicate ec 0) = zs at *
  generalize w1.alloc (.cells (natCells .i64 zs) 3) = wz at *
  generalize hs : w1.heap.size = sy at *
  have HSY : RowKit.Hid (w.heap.size ≤ sy) := Lib.hid (by have := K1.out.size; omega)
  have HZ := Lib.hid hz
  clear hmk hz kz hs d0 HP K1 HMK d1
  go_loopw [10, 11, 12] (fun bv iv _ wr => ∃ (i : Nat) (zs : List Nat), i ≤ ec ∧ iv = .int .i64 i ∧ bv = .bool true ∧ Nats wr sy .i64 3 zs ∧ zs.length = ec ∧ Frm (fun k => k = sy) wz wr) (fun _ iv _ _ => ec - (intOf iv).toNat)
  case atStart => exact ⟨0, zs, Nat.zero_le _, rfl, rfl, HZ.out, hzl, Frm.refl _ _⟩
  case round =>
    clear HZ hzl zs
    obtain ⟨i, zs, hi, rfl, rfl, hz, hzl, hfr⟩ := hrel
    have kw : Kept w wr := KZ.out.step hfr (fun k hk e => by have := HSY.out; omega)
    by_cases hie : i < ec
    · have hd : decide ((i : Int) < ec) = true := by simp; omega
      have hgo := HPZ.out.frm hfr (by omega) (by omega)
      have hgp : GP wr p f (strip xs) := ⟨gb, off, xs', hgo⟩
      have hgf := HF.out.kept kw
      have c0 := cell_kept HC0.out kw
      have hev := HEV.out i hie
      rw [← strip_ev] at hev
      obtain ⟨g1, g2⟩ := ge_ok i (by omega)
      have h201 := fun j => gfBase f e l z o (wr.drewN j) (hgf.drewN j)
      have h200 := fun j => gfExpK f e l z o i (wr.drewN j) (hgf.drewN j) (by omega)
      have h247 := fun j => ev_any f e l z o p (ge i) (strip xs) (wr.drewN j) (hgf.drewN j) (hgp.drewN j) g1 g2
      rw [hev] at h247
      generalize ge i = gi at *
      have hiw : IntKind.i64.wrap (i : Int) = i := wrapI _ (by omega) (by omega)
      have H201 := Lib.hid h201
      have H200 := Lib.hid h200
      have H247 := Lib.hid h247
      have hcell := hz.cell (ec - 1 - i) (by omega)
      have hfree := hz.free (ec - 1 - i)
      generalize zs.getD (ec - 1 - i) 0 = old at hcell
      have hset := fun j => Nats.set (w := wr.drewN j) hz (ec - 1 - i) 0
      have hfs : ∀ j, Frm (fun k => k = sy) wz ((wr.drewN j).setCell ⟨sy, ec - 1 - i, none⟩ (.int .i64 ((0 : Nat) : Int))) := fun j => (hfr.drewN j).setCell (p := ⟨sy, ec - 1 - i, none⟩) (.inl rfl) _
      simp only [Int.cast_ofNat_Int] at hset hfs
      have hix : (ec : Int) - 1 - i = ((ec - 1 - i : Nat) : Int) := by omega
      have hixl : ec - 1 - i < ec := by omega
      have hsl : (zs.set (ec - 1 - i) 0).length = zs.length := List.length_set ..
      rw [hzl] at hsl
      generalize zs.set (ec - 1 - i) 0 = zs2 at *
      generalize ec - 1 - i = ri at *
      have HSET := Lib.hid hset
      have HFS := Lib.hid hfs
      have HSL := Lib.hid hsl
      clear h201 h200 h247 hgf hgp hgo hset hfs hz hfr kw hev hzl hsl
      go_wp2_with fail
      go_quiet (first
        | (go_at_call 201; exact Calls.quiet_of_same ((H201.out _).mono (fun _ _ h => ⟨h.1, h.2.symm⟩)))
        | (go_at_call 200; exact Calls.quiet_of_same ((H200.out _).mono (fun _ _ h => ⟨h.1, h.2.symm⟩)))
        | (go_at_call 247; exact Calls.quiet_of (H247.out _)))
      go_wp2
      exact ⟨⟨i + 1, zs2, by omega, by go_num, rfl, HSET.out _, HSL.out, HFS.out _⟩, by simp [intOf]; omega⟩
    · obtain rfl : i = ec := by omega
      have hd : decide ((i : Int) < i) = false := by simp
      have HKW := Lib.hid kw
      clear hz hfr kw
      go_wp2
      go_ret
      exact ⟨rfl, HKW.out⟩
end Go.Proofs.YtnpkihobbcglcaaGreatDoor

/- U18: Decoding 18: correctErrors on a clean block. -/
namespace Go.Proofs.YtnpkihobbcglcaaGreatDoor
open Go Go.RowKit

theorem list_same (zs ys : List Nat) (hl : zs.length = ys.length) (h : ∀ t, t < ys.length → zs.getD t 0 = ys.getD t 0) : zs = ys := by
  apply List.ext_getElem hl
  intro t h1 h2
  have := h t h2
  rw [List.getD_eq_getElem?_getD, List.getElem?_eq_getElem h1, List.getD_eq_getElem?_getD, List.getElem?_eq_getElem h2] at this
  exact this
theorem set_same (ys : List Nat) (i : Nat) (hi : i < ys.length) : ys.set i (ys.getD i 0) = ys := by
  rw [List.getD_eq_getElem?_getD, List.getElem?_eq_getElem hi]
  exact List.set_getElem_self hi

set_option maxRecDepth 100000 in
set_option maxHeartbeats 4000000 in
theorem correctClean (d rs f e l z o c nd ec L : Nat) (ys : List Nat) (w : World) (hd : Dec w d rs f e l z o) (hy : Nats w c .u8 5 ys) (hl : ys.length = L) (hL : L = nd + ec) (hL0 : 1 ≤ L) (hLb : L ≤ 2000) (hby : Bytes ys) (hec : ec < 31) (hev : ∀ i, i < ec → ev ys (ge i) = 0) :
    Calls Tryz.prog 188 #[.pointer (some ⟨d, 0, none⟩), .slice (some ⟨c, 0, none⟩) L L, .int .i64 nd] w fun r w' => r = .returned .nilIface ∧ Nats w' c .u8 5 ys ∧ Frm (fun k => k = c) w w' := by
  have c0 := hd.obj.cell 0
  simp only [List.getElem?_toArray, List.getElem?_cons_zero] at c0
  have hmk := run_make_ints 117 3 .i64 8 (by kernel_rfl) info3 L (by omega) (by omega) w
  have hz := Nats.new w .i64 3 (List.replicate L 0)
  have kz : Kept w (w.alloc (.cells (natCells .i64 (List.replicate L 0)) 3)) := (Frm.refl _ _).alloc _
  have hzl : (List.replicate L 0).length = L := List.length_replicate
  have HD := Lib.hid hd
  have HY := Lib.hid hy
  have HBY := Lib.hid hby
  have HEV := Lib.hid hev
  have HL := Lib.hid hl
  have HLE := Lib.hid hL
  have hlt : ∀ i, i < L → ys.getD i 0 < 256 := fun i hi => hby _ (by
    rw [List.getD_eq_getElem?_getD, List.getElem?_eq_getElem (by omega)]; exact List.getElem_mem _)
  have HLT := Lib.hid hlt
  have hnd : nd ≤ L := by omega
  clear hd hy hby hev hl hL hlt
  go_enter Tryz.func188, Tryz.ntmps188
  go_wp2_with fail
  generalize (List.replicate L 0) = zs at *
  generalize w.alloc (.cells (natCells .i64 zs) 3) = wz at *
  generalize hs : w.heap.size = sy at *
  have HSY := Lib.hid (Nat.le_of_eq hs)
  have HZ := Lib.hid hz
  have KZ := Lib.hid kz
  clear hmk hz kz hs
  go_loopw [9] (fun iv wr => ∃ (i : Nat) (zs : List Nat), i ≤ L ∧ iv = .int .i64 i ∧ Nats wr sy .i64 3 zs ∧ zs.length = L ∧ (∀ t, t < i → zs.getD t 0 = ys.getD t 0) ∧ Kept w wr) (fun iv _ => L - (intOf iv).toNat)
  case atStart => exact ⟨0, zs, Nat.zero_le _, rfl, HZ.out, hzl, fun t ht => absurd ht (by omega), KZ.out⟩
  case round =>
    clear HZ KZ hzl zs
    obtain ⟨i, zs, hi, rfl, hz, hzl, hfil, kw⟩ := hrel
    by_cases hiL : i < L
    · have hdd : decide ((i : Int) < L) = true := by simp; omega
      have cy := (HY.out.frm kw (fun h => h)).cell i (by rw [HL.out]; exact hiL)
      have hv := HLT.out i hiL
      have cz := hz.cell i (by omega)
      have fz := hz.free i
      have hset := hz.set i (ys.getD i 0)
      have hfil2 : ∀ t, t < i + 1 → (zs.set i (ys.getD i 0)).getD t 0 = ys.getD t 0 := fun t ht => by
        by_cases e : t = i
        · subst e; rw [List.getD_eq_getElem?_getD, List.getElem?_set_self (by omega)]; rfl
        · rw [List.getD_eq_getElem?_getD, List.getElem?_set_ne (Ne.symm e), ← List.getD_eq_getElem?_getD]; exact hfil t (by omega)
      have hsl : (zs.set i (ys.getD i 0)).length = L := by rw [List.length_set]; exact hzl
      have hk : Kept w (wr.setCell ⟨sy, i, none⟩ (.int .i64 ((ys.getD i 0 : Nat) : Int))) := kw.setCell (p := ⟨sy, i, none⟩) (.inr HSY.out) _
      generalize zs.getD i 0 = old at cz
      have HSET := Lib.hid hset
      have HFIL := Lib.hid hfil2
      have HSL := Lib.hid hsl
      have HK := Lib.hid hk
      generalize ys.getD i 0 = yv at cy hv HSET HFIL HSL HK
      have hand := u8and255 yv hv
      clear hz hzl hfil kw hset hfil2 hsl hk
      go_wp2
      exact ⟨⟨i + 1, _, by omega, by go_num, HSET.out, HSL.out, HFIL.out, HK.out⟩, by simp [intOf]; omega⟩
    · obtain rfl : i = L := by omega
      have hdd : decide ((i : Int) < i) = false := by simp
      have hzy : zs = ys := list_same zs ys (by rw [hzl, HL.out]) (fun t ht => hfil t (by rw [← HL.out]; exact ht))
      subst hzy
      have hdc := HD.out.kept kw
      have hdec := decodeClean rs f e l z o sy ec zs wr hdc.rso hdc.gf hz (by omega) (by omega) HBY.out hec HEV.out
      rw [hzl, show ((ec : Nat) : Int) = (i : Int) - nd by have := HLE.out; omega] at hdec
      have HDEC := Lib.hid hdec
      have c0w := cell_kept c0 kw
      have HZ := Lib.hid hz
      have KW := Lib.hid kw
      clear hdc hdec hz hzl hfil kw
      go_wp2_with fail
      with_reducible refine HDEC.out.mono ?_
      rintro _ w2 ⟨rfl, k2⟩
      have HZ2 := Lib.hid (HZ.out.frm k2 (fun h => h))
      have HY2 := Lib.hid (HY.out.frm (KW.out.trans k2) (fun h => h))
      have K2 := Lib.hid (Kept.toFrm (S := fun k => k = c) (KW.out.trans k2))
      have hsc : sy ≠ c := Blk.ne HZ2.out HY2.out (by decide)
      clear k2 HDEC HZ KW c0w HD HY
      dsimp only
      go_wp2_with fail
      go_loopw [11] (fun jv wr => ∃ j : Nat, j ≤ nd ∧ jv = .int .i64 j ∧ Nats wr c .u8 5 zs ∧ Nats wr sy .i64 3 zs ∧ Frm (fun k => k = c) w wr) (fun jv _ => nd - (intOf jv).toNat)
      case atStart => exact ⟨0, Nat.zero_le _, rfl, HY2.out, HZ2.out, K2.out⟩
      case round =>
        clear HY2 HZ2 K2
        obtain ⟨j, hj, rfl, hy, hz, hfr⟩ := hrel
        by_cases hjn : j < nd
        · have hdj : decide ((j : Int) < nd) = true := by simp; omega
          have cz := hz.cell j (by rw [HL.out]; omega)
          have cy := hy.cell j (by rw [HL.out]; omega)
          have fy := hy.free j
          have hv := HLT.out j (by omega)
          have hset := hy.set j (zs.getD j 0)
          rw [set_same zs j (by rw [HL.out]; omega)] at hset
          have hz2 := hz.setOther (a := ⟨c, j, none⟩) hsc (.int .u8 ((zs.getD j 0 : Nat) : Int))
          have hfs := hfr.setCell (p := ⟨c, j, none⟩) (.inl rfl) (.int .u8 ((zs.getD j 0 : Nat) : Int))
          have HSET := Lib.hid hset
          have HZ2 := Lib.hid hz2
          have HFS := Lib.hid hfs
          generalize zs.getD j 0 = v at cz cy hv HSET HZ2 HFS
          clear hy hz hfr hset hz2 hfs
          go_wp2
          exact ⟨⟨j + 1, by omega, by go_num, HSET.out, HZ2.out, HFS.out⟩, by simp [intOf]; omega⟩
        · obtain rfl : j = nd := by omega
          have hdj : decide ((j : Int) < j) = false := by simp
          have HY := Lib.hid hy
          have HFR := Lib.hid hfr
          clear hy hz hfr
          go_wp2
          go_ret
          exact ⟨rfl, HY.out, HFR.out⟩
end Go.Proofs.YtnpkihobbcglcaaGreatDoor

/- U19: Decoding 19: the source of bits. -/
namespace Go.Proofs.YtnpkihobbcglcaaGreatDoor
open Go Go.RowKit

/-- A source of bits: its bytes say BB, it stands at pos. -/
structure BSrc (w : World) (q s c D : Nat) (BB : List Bool) (pos : Nat) : Prop where
  obj : Blk w q #[.slice (some ⟨s, 0, none⟩) D c, .int .i64 (pos / 8 : Nat), .int .i64 (pos % 8 : Nat)] 356
  byt : ∀ i, i < D → w.cell? ⟨s, i, none⟩ = some (.int .u8 (rd BB (8 * i) 8 : Nat))
  ne : s ≠ q
theorem BSrc.kept {w w' : World} {q s c D : Nat} {BB : List Bool} {pos : Nat} (h : BSrc w q s c D BB pos) (hf : Kept w w') : BSrc w' q s c D BB pos :=
  ⟨h.obj.frm hf (fun h => h), fun i hi => cell_kept (h.byt i hi) hf, h.ne⟩
theorem BSrc.frm {S : Nat → Prop} {w w' : World} {q s c D : Nat} {BB : List Bool} {pos : Nat} (h : BSrc w q s c D BB pos) (hf : Frm S w w') (hq : ¬ S q) (hs : ¬ S s) : BSrc w' q s c D BB pos :=
  ⟨h.obj.frm hf hq, fun i hi => by rw [hf.cell (World.block_lt_of_cell? _ _ (h.byt i hi)) hs]; exact h.byt i hi, h.ne⟩

theorem BSrc.move {w w' : World} {q s c D : Nat} {BB : List Bool} {pos pos' : Nat} (h : BSrc w q s c D BB pos) (hf : Frm (fun k => k = q) w w') (ho : Blk w' q #[.slice (some ⟨s, 0, none⟩) D c, .int .i64 (pos' / 8 : Nat), .int .i64 (pos' % 8 : Nat)] 356) : BSrc w' q s c D BB pos' :=
  ⟨ho, fun i hi => by rw [hf.cell (World.block_lt_of_cell? _ _ (h.byt i hi)) h.ne]; exact h.byt i hi, h.ne⟩

theorem newSource8 (s c D : Nat) (BB : List Bool) (w : World) (hb : ∀ i, i < D → w.cell? ⟨s, i, none⟩ = some (.int .u8 (rd BB (8 * i) 8 : Nat))) (hs : s < w.heap.size) :
    Calls Tryz.prog 217 #[.slice (some ⟨s, 0, none⟩) D c] w fun e w' => e = .returned (.pointer (some ⟨w.heap.size, 0, none⟩)) ∧ BSrc w' w.heap.size s c D BB 0 ∧ Kept w w' := by
  have ho := Blk.new w #[.slice (some ⟨s, 0, none⟩) D c, .int .i64 0, .int .i64 0] 356
  have ka : Kept w (w.alloc (.cells #[.slice (some ⟨s, 0, none⟩) D c, .int .i64 0, .int .i64 0] 356)) := (Frm.refl _ _).alloc _
  have hall : BSrc (w.alloc (.cells #[.slice (some ⟨s, 0, none⟩) D c, .int .i64 0, .int .i64 0] 356)) w.heap.size s c D BB 0 := ⟨ho, fun i hi => cell_kept (hb i hi) ka, by omega⟩
  have HALL := Lib.hid hall
  have KA := Lib.hid ka
  clear ho ka hall hb
  go_enter Tryz.func217, Tryz.ntmps217
  go_wp2
  go_ret
  exact ⟨rfl, HALL.out, KA.out⟩

theorem available (q s c D pos : Nat) (BB : List Bool) (w : World) (h : BSrc w q s c D BB pos) (hD : D ≤ 1000) (hp : pos ≤ 8 * D) :
    Calls Tryz.prog 218 #[.pointer (some ⟨q, 0, none⟩)] w fun e w' => e = .returned (.int .i64 (8 * D - pos : Nat)) ∧ Kept w w' := by
  have c0 := h.obj.cell 0
  have c1 := h.obj.cell 1
  have c2 := h.obj.cell 2
  simp only [List.getElem?_toArray, List.getElem?_cons_zero, List.getElem?_cons_succ] at c0 c1 c2
  have e1 : IntKind.i64.wrap ((D : Int) - (pos / 8 : Nat)) = (D : Int) - (pos / 8 : Nat) := wrapI _ (by omega) (by omega)
  have e2 : IntKind.i64.wrap (8 * ((D : Int) - (pos / 8 : Nat))) = 8 * ((D : Int) - (pos / 8 : Nat)) := wrapI _ (by omega) (by omega)
  have e3 : IntKind.i64.wrap (8 * ((D : Int) - (pos / 8 : Nat)) - (pos % 8 : Nat)) = 8 * ((D : Int) - (pos / 8 : Nat)) - (pos % 8 : Nat) := wrapI _ (by omega) (by omega)
  have e4 : 8 * ((D : Int) - (pos / 8 : Nat)) - (pos % 8 : Nat) = ((8 * D - pos : Nat) : Int) := by omega
  have E4 := Lib.hid e4
  clear h e4
  generalize pos / 8 = po at *
  generalize pos % 8 = pr at *
  go_enter Tryz.func218, Tryz.ntmps218
  go_wp2_with fail
  go_quiet (fail)
  go_wp2
  go_ret
  exact ⟨by rw [← E4.out]; rfl, (Frm.refl _ _).drewN nq⟩

theorem mode_ok (m : Nat) (w : World) (hm : m = 0 ∨ m = 1 ∨ m = 2 ∨ m = 4) : Calls Tryz.prog 220 #[.int .i64 m] w fun e w' => e = .returned (.tuple #[.int .i64 m, .nilIface]) ∧ w = w' := by
  rcases hm with rfl | rfl | rfl | rfl
  all_goals
    go_enter Tryz.func220, Tryz.ntmps220
    go_wp2
    go_ret2
    exact ⟨rfl, rfl⟩

theorem part_mask : ∀ tr, tr < 9 → ∀ nr, nr < 9 → tr + nr ≤ 8 → ∀ b, b < 256 → (b &&& (255 / 2 ^ (8 - tr) * 2 ^ nr % 256)) / 2 ^ nr = b / 2 ^ nr % 2 ^ tr := by decide +kernel
theorem u8_and_nat (a b : Nat) (ha : a < 256) (hb : b < 256) : bits .and .u8 (a : Int) (b : Int) = ((a &&& b : Nat) : Int) := by
  have o : ∀ n : Nat, n < 2 ^ 8 → (BitVec.ofInt 8 (n : Int)).toNat = n := fun n hn => by
    rw [BitVec.ofInt_natCast, BitVec.toNat_ofNat]; exact Nat.mod_eq_of_lt hn
  have hx : a &&& b < 2 ^ 8 := Nat.and_lt_two_pow _ hb
  show IntKind.u8.wrap ((BitVec.ofInt 8 (a : Int) &&& BitVec.ofInt 8 (b : Int)).toNat : Int) = _
  rw [BitVec.toNat_and, o a ha, o b hb]
  generalize a &&& b = z at hx
  show ((z : Int) % 256) = _
  omega

set_option maxRecDepth 100000 in
set_option maxHeartbeats 8000000 in
theorem readBits (q s c D pos n : Nat) (BB : List Bool) (w : World) (h : BSrc w q s c D BB pos) (hBB : BB.length = 8 * D) (hD : D ≤ 1000) (hn1 : 1 ≤ n) (hn2 : n ≤ 16) (hp : pos + n ≤ 8 * D) :
    Calls Tryz.prog 219 #[.pointer (some ⟨q, 0, none⟩), .int .i64 n] w fun e w' => e = .returned (.tuple #[.int .i64 (rd BB pos n : Nat), .nilIface]) ∧ BSrc w' q s c D BB (pos + n) ∧ Frm (fun k => k = q) w w' := by
  have hav := available q s c D pos BB w h hD (by omega)
  have d1 : decide ((n : Int) < 1) = false := by simp; omega
  have d2 : decide ((32 : Int) < n) = false := by simp; omega
  have d3 : decide (((8 * D - pos : Nat) : Int) < n) = false := by simp; omega
  have HAV := Lib.hid hav
  have H := Lib.hid h
  clear hav h
  go_enter Tryz.func219, Tryz.ntmps219
  go_wp2_with fail
  with_reducible refine HAV.out.mono ?_
  rintro _ w1 ⟨rfl, k1⟩
  have h1 := H.out.kept k1
  have c0 := h1.obj.cell 0
  have c1 := h1.obj.cell 1
  have c2 := h1.obj.cell 2
  simp only [List.getElem?_toArray, List.getElem?_cons_zero, List.getElem?_cons_succ] at c0 c1 c2
  have f1 := h1.obj.free 1
  have f2 := h1.obj.free 2
  have H1 := Lib.hid h1
  have K1 := Lib.hid (Kept.toFrm (S := fun k => k = q) k1)
  clear h1 k1 HAV H
  dsimp only
  go_upto_if 30 with fail
  go_cut [1, 6, 7, 8, 9, 10] from 31 (fun s1 s6 _ _ _ _ wx => ∃ d : Nat, d ≤ n ∧ s1 = .int .i64 (n - d : Nat) ∧ s6 = .int .i64 (rd BB pos d : Nat) ∧ BSrc wx q s c D BB (pos + d) ∧ (d = n ∨ (pos + d) % 8 = 0) ∧ Frm (fun k => k = q) w wx)
  case first =>
    by_cases hb0 : pos % 8 = 0
    · have d4 : decide ((0 : Int) < ((pos % 8 : Nat) : Int)) = false := by simp; omega
      go_wp2
      go_meet
      exact ⟨0, Nat.zero_le _, by simp, by rw [rd_zero]; rfl, H1.out, .inr (by omega), K1.out⟩
    · have d4 : decide ((0 : Int) < ((pos % 8 : Nat) : Int)) = true := by simp; omega
      generalize hb : pos % 8 = b at *
      generalize ho : pos / 8 = o at *
      obtain ⟨tr, htr, ht1, ht2⟩ : ∃ tr, tr ≤ n ∧ tr + b ≤ 8 ∧ (tr = n ∨ tr + b = 8) := ⟨min n (8 - b), by omega, by omega, by omega⟩
      go_upto_if 39 with fail
      go_cut [8] from 40 (fun s8 wx => s8 = .int .i64 tr ∧ w1 = wx)
      case first =>
        by_cases hlt : n < 8 - b
        · have d5 : decide ((n : Int) < 8 - b) = true := by simp; omega
          go_wp2
          go_meet
          exact ⟨congrArg (Value.int .i64) (by omega), rfl⟩
        · have d5 : decide ((n : Int) < 8 - b) = false := by simp; omega
          go_wp2
          go_meet
          exact ⟨congrArg (Value.int .i64) (by omega), rfl⟩
      case rest =>
        obtain ⟨rfl, rfl⟩ := hcut
        have hoD : o < D := by omega
        have hby := H1.out.byt o hoD
        have hpos : pos = 8 * o + b := by omega
        have hrm := rd_mid BB (8 * o) b tr (by omega) (by omega)
        rw [← hpos] at hrm
        have hyl := rd_lt BB (8 * o) 8
        generalize rd BB (8 * o) 8 = y at hby hrm hyl
        obtain ⟨nr, hnr⟩ : ∃ nr, 8 - b - tr = nr := ⟨_, rfl⟩
        have hnri : (8 : Int) - b - tr = nr := by omega
        rw [hnr] at hrm
        have hpm := part_mask tr (by omega) nr (by omega) (by omega) y hyl
        obtain ⟨Mk, hMk⟩ : ∃ Mk, 255 / 2 ^ (8 - tr) * 2 ^ nr % 256 = Mk := ⟨_, rfl⟩
        have hMki : (255 : Int) / 2 ^ (8 - tr) * 2 ^ nr % 256 = (Mk : Int) := by rw [← hMk]; push_cast; rfl
        have hMl : Mk < 256 := by rw [← hMk]; exact Nat.mod_lt _ (by omega)
        rw [hMk, ← hrm] at hpm
        have a1 := u8_and_nat y Mk hyl hMl
        have hzl : y &&& Mk < 256 := Nat.lt_of_le_of_lt Nat.and_le_left hyl
        generalize y &&& Mk = z at hpm a1 hzl
        have a2 : IntKind.i64.wrap (z : Int) = z := wrapI _ (by omega) (by omega)
        have a3 : (z : Int) / 2 ^ nr = ((rd BB pos tr : Nat) : Int) := by rw [← hpm]; push_cast; rfl
        have hRl := rd_lt BB pos tr
        have hR2 : 2 ^ tr ≤ 2 ^ 8 := Nat.pow_le_pow_right (by omega) (by omega)
        generalize hR : rd BB pos tr = R at a3 hRl
        have a4 : IntKind.i64.wrap (R : Int) = R := wrapI _ (by omega) (by omega)
        have HR := Lib.hid hR
        have HPOS := Lib.hid hpos
        clear hpm hMk hrm hR hpos
        go_upto_region 11 with fail
        rw [hMki]
        have HNR := Lib.hid hnr
        clear hnr hMki hnri
        go_wp2_with fail
        go_quiet (fail)
        have hmin : (z : Int) / 2 ^ min nr 64 = ((rd BB pos tr : Nat) : Int) := by
          have hn64 : nr ≤ 64 := by have := HNR.out; omega
          rw [HR.out, Nat.min_eq_left hn64]; exact a3
        have HMIN := Lib.hid hmin
        clear hmin
        generalize hwq : w1.drewN nq = wq
        have kq : Kept w1 wq := by rw [← hwq]; exact (Frm.refl _ _).drewN nq
        have hsrc := H1.out.kept kq
        have e1 := hsrc.obj.cell 1
        have e2 := hsrc.obj.cell 2
        simp only [List.getElem?_toArray, List.getElem?_cons_zero, List.getElem?_cons_succ, hb, ho] at e1 e2
        have g1 := hsrc.obj.free 1
        have g2 := hsrc.obj.free 2
        have HSRC := Lib.hid hsrc
        have HKQ := Lib.hid (K1.out.trans (Kept.toFrm kq))
        clear hwq kq hsrc c0 c1 c2 f1 f2 hby
        by_cases h8 : tr + b = 8
        · have d6 : ((b : Int) + tr == 8) = true := by rw [beq_iff_eq]; omega
          have hst : Frm (fun k => k = q) wq (((wq.setCell ⟨q, 2, none⟩ (.int .i64 ((b : Int) + tr))).setCell ⟨q, 2, none⟩ (.int .i64 0)).setCell ⟨q, 1, none⟩ (.int .i64 ((o : Int) + 1))) := (((Frm.refl (fun k => k = q) wq).setCell (p := ⟨q, 2, none⟩) (.inl rfl) _).setCell (p := ⟨q, 2, none⟩) (.inl rfl) _).setCell (p := ⟨q, 1, none⟩) (.inl rfl) _
          have hob := ((HSRC.out.obj.set 2 (.int .i64 ((b : Int) + tr))).set 2 (.int .i64 0)).set 1 (.int .i64 ((o : Int) + 1))
          have hnew := HSRC.out.move (pos' := pos + tr) hst (by
            have q1 : (pos + tr) / 8 = o + 1 := by omega
            have q2 : (pos + tr) % 8 = 0 := by omega
            rw [q1, q2]
            simpa [Int.natCast_add] using hob)
          have HNEW := Lib.hid hnew
          have HST := Lib.hid (HKQ.out.trans hst)
          clear hst hob hnew
          go_wp2
          go_meet
          exact ⟨tr, htr, congrArg (Value.int .i64) (by omega), congrArg (Value.int .i64) HMIN.out, HNEW.out, .inr (by omega), HST.out⟩
        · have d6 : ((b : Int) + tr == 8) = false := by rw [beq_eq_false_iff_ne]; omega
          have hst : Frm (fun k => k = q) wq (wq.setCell ⟨q, 2, none⟩ (.int .i64 ((b : Int) + tr))) := (Frm.refl (fun k => k = q) wq).setCell (p := ⟨q, 2, none⟩) (.inl rfl) _
          have hob := HSRC.out.obj.set 2 (.int .i64 ((b : Int) + tr))
          have hnew := HSRC.out.move (pos' := pos + tr) hst (by
            have q1 : (pos + tr) / 8 = pos / 8 := by omega
            have q2 : (pos + tr) % 8 = b + tr := by omega
            rw [q1, q2]
            simpa [Int.natCast_add] using hob)
          have HNEW := Lib.hid hnew
          have HST := Lib.hid (HKQ.out.trans hst)
          clear hst hob hnew
          go_wp2
          go_meet
          exact ⟨tr, htr, congrArg (Value.int .i64) (by omega), congrArg (Value.int .i64) HMIN.out, HNEW.out, .inl (by omega), HST.out⟩
  case rest =>
    obtain ⟨d, hdn, rfl, rfl, hsrc, hdd, hfr⟩ := hcut
    have HSRC := Lib.hid hsrc
    have HFR := Lib.hid hfr
    clear hsrc hfr c0 c1 c2 f1 f2 H1 K1 d1 d2 d3
    by_cases hd0 : d = n
    · subst hd0
      rw [Nat.sub_self]
      have e0 : decide ((0 : Int) < ((0 : Nat) : Int)) = false := by decide
      go_wp2
      go_ret2
      exact ⟨rfl, HSRC.out, HFR.out⟩
    · have e0 : decide ((0 : Int) < ((n - d : Nat) : Int)) = true := by simp; omega
      have hdz : (pos + d) % 8 = 0 := by omega
      have hb16 : ∀ k, k ≤ n → rd BB pos k < 65536 := fun k hk => Nat.lt_of_lt_of_le (rd_lt BB pos k) (Nat.pow_le_pow_right (by omega) (by omega : k ≤ 16))
      have HB16 := Lib.hid hb16
      clear hb16 hdd
      have hbr := HB16.out d hdn
      go_wp2_with fail
      go_loopw [1, 6] (fun nv rv wr => ∃ k : Nat, d ≤ k ∧ k ≤ n ∧ nv = .int .i64 (n - k : Nat) ∧ rv = .int .i64 (rd BB pos k : Nat) ∧ BSrc wr q s c D BB (pos + k) ∧ (pos + k) % 8 = 0 ∧ Frm (fun k => k = q) w wr) (fun nv _ _ => (intOf nv).toNat)
      case atStart => exact ⟨d, Nat.le_refl _, hdn, rfl, rfl, HSRC.out, hdz, HFR.out⟩
      case round =>
        clear HSRC HFR hdz e0
        obtain ⟨k, hk1, hk2, rfl, rfl, hsrc, hkz, hfr⟩ := hrel
        have c0 := hsrc.obj.cell 0
        have c1 := hsrc.obj.cell 1
        have c2 := hsrc.obj.cell 2
        simp only [List.getElem?_toArray, List.getElem?_cons_zero, List.getElem?_cons_succ] at c0 c1 c2
        have f1 := hsrc.obj.free 1
        have f2 := hsrc.obj.free 2
        have HSRC := Lib.hid hsrc
        have HFR := Lib.hid hfr
        clear hsrc hfr
        have hrb := HB16.out k hk2
        by_cases hn8 : 8 ≤ n - k
        · have e1 : decide ((8 : Int) ≤ ((n - k : Nat) : Int)) = true := by simp; omega
          obtain ⟨o, ho⟩ : ∃ o, (pos + k) / 8 = o := ⟨_, rfl⟩
          have hoD : o < D := by omega
          have hby := HSRC.out.byt o hoD
          have hpk : 8 * o = pos + k := by omega
          have hadd := rd_add BB pos k 8 (by omega)
          rw [hpk] at hby
          have hyl := rd_lt BB (pos + k) 8
          generalize rd BB (pos + k) 8 = y at hby hadd hyl
          generalize hR : rd BB pos k = R at *
          have a0 := u8and255 y hyl
          have hor := i64_or (R * 256) y (by omega) (by omega)
          have e2 : R * 256 ||| y = R * 256 + y := by
            have := Nat.two_pow_add_eq_or_of_lt (b := y) (i := 8) hyl R
            rw [Nat.mul_comm]; exact this.symm
          rw [e2] at hor
          simp only [Int.natCast_add, Int.natCast_mul, Int.cast_ofNat_Int] at hor
          rw [ho] at c1
          have a2 : IntKind.i64.wrap (y : Int) = y := wrapI _ (by omega) (by omega)
          have a3 : IntKind.i64.wrap ((R : Int) * 256) = (R : Int) * 256 := wrapI _ (by omega) (by omega)
          have a4 : IntKind.i64.wrap ((R : Int) * 256 + y) = (R : Int) * 256 + y := wrapI _ (by omega) (by omega)
          go_wp2_with fail
          go_quiet (fail)
          generalize hwq : wr.drewN nq = wq
          have kq : Kept wr wq := by rw [← hwq]; exact (Frm.refl _ _).drewN nq
          have hs2 := HSRC.out.kept kq
          have b1 := hs2.obj.cell 1
          simp only [List.getElem?_toArray, List.getElem?_cons_zero, List.getElem?_cons_succ, ho] at b1
          have g1 := hs2.obj.free 1
          have hst : Frm (fun k => k = q) wq (wq.setCell ⟨q, 1, none⟩ (.int .i64 ((o : Int) + 1))) := (Frm.refl (fun k => k = q) wq).setCell (p := ⟨q, 1, none⟩) (.inl rfl) _
          have hob := hs2.obj.set 1 (.int .i64 ((o : Int) + 1))
          have hnew := hs2.move (pos' := pos + (k + 8)) hst (by
            have q1 : (pos + (k + 8)) / 8 = o + 1 := by omega
            have q2 : (pos + (k + 8)) % 8 = (pos + k) % 8 := by omega
            rw [q1, q2]
            simpa [Int.natCast_add] using hob)
          have HNEW := Lib.hid hnew
          have HST := Lib.hid ((HFR.out.trans (Kept.toFrm kq)).trans hst)
          have HADD := Lib.hid hadd
          clear hst hob hnew hs2 kq hwq c0 c1 c2 f1 f2 hby hadd hor
          go_wp2
          exact ⟨⟨k + 8, by omega, by omega, congrArg (Value.int .i64) (by omega), congrArg (Value.int .i64) (by rw [HADD.out]; omega), HNEW.out, by omega, HST.out⟩, by simp [intOf]; omega⟩
        · have e1 : decide ((8 : Int) ≤ ((n - k : Nat) : Int)) = false := by simp; omega
          by_cases hnk : n - k = 0
          · obtain rfl : k = n := by omega
            have e2 : decide ((0 : Int) < ((k - k : Nat) : Int)) = false := by simp
            go_wp2
            go_ret2
            exact ⟨rfl, HSRC.out, HFR.out⟩
          · have e2 : decide ((0 : Int) < ((n - k : Nat) : Int)) = true := by simp; omega
            obtain ⟨m, hm⟩ : ∃ m, n - k = m := ⟨_, rfl⟩
            rw [hm] at e1 e2 ⊢
            obtain ⟨o, ho⟩ : ∃ o, (pos + k) / 8 = o := ⟨_, rfl⟩
            have hoD : o < D := by omega
            have hby := HSRC.out.byt o hoD
            have hpk : 8 * o = pos + k := by omega
            have hadd := rd_add BB pos k m (by omega)
            have hrm := rd_mid BB (8 * o) 0 m (by omega) (by omega)
            rw [Nat.add_zero, hpk, Nat.sub_zero] at hrm
            rw [hpk] at hby
            have hyl := rd_lt BB (pos + k) 8
            generalize rd BB (pos + k) 8 = y at hby hrm hyl
            generalize hR : rd BB pos k = R at *
            obtain ⟨nr, hnr⟩ : ∃ nr, 8 - m = nr := ⟨_, rfl⟩
            rw [hnr] at hrm
            have hnri : (8 : Int) - m = nr := by omega
            have hpm := part_mask m (by omega) nr (by omega) (by omega) y hyl
            rw [hnr] at hpm
            obtain ⟨Mk, hMk⟩ : ∃ Mk, 255 / 2 ^ nr * 2 ^ nr % 256 = Mk := ⟨_, rfl⟩
            have hMki : (255 : Int) / 2 ^ nr * 2 ^ nr % 256 = (Mk : Int) := by rw [← hMk]; push_cast; rfl
            have hMl : Mk < 256 := by rw [← hMk]; exact Nat.mod_lt _ (by omega)
            rw [hMk, ← hrm] at hpm
            have a1 := u8_and_nat y Mk hyl hMl
            have hzl : y &&& Mk < 256 := Nat.lt_of_le_of_lt Nat.and_le_left hyl
            generalize y &&& Mk = z at hpm a1 hzl
            have hxl := rd_lt BB (pos + k) m
            generalize rd BB (pos + k) m = x at hpm hadd hxl
            have hx8 : x < 128 := Nat.lt_of_lt_of_le hxl (Nat.pow_le_pow_right (by omega) (by omega : m ≤ 7))
            have a3 : (z : Int) / 2 ^ nr = (x : Int) := by rw [← hpm]; push_cast; rfl
            have a3' : (z : Int) / 2 ^ min nr 8 = (x : Int) := by rw [Nat.min_eq_left (by omega)]; exact a3
            have hor2 : R * 2 ^ m ||| x = R * 2 ^ m + x := by
              have := Nat.two_pow_add_eq_or_of_lt (b := x) (i := m) hxl R
              rw [Nat.mul_comm]; exact this.symm
            have hRm : R * 2 ^ m < 65536 * 128 := Nat.lt_of_lt_of_le (Nat.mul_lt_mul_of_pos_right hrb (Nat.pow_pos (by omega))) (Nat.mul_le_mul_left _ (Nat.pow_le_pow_right (by omega) (by omega : m ≤ 7)))
            obtain ⟨RM, hRM⟩ : ∃ RM, R * 2 ^ m = RM := ⟨_, rfl⟩
            rw [hRM] at hor2 hRm hadd
            have hRMi : (R : Int) * 2 ^ m = (RM : Int) := by rw [← hRM]; push_cast; rfl
            have hRMi' : (R : Int) * 2 ^ min m 64 = (RM : Int) := by rw [Nat.min_eq_left (by omega)]; exact hRMi
            have hor := i64_or RM x (by omega) (by omega)
            rw [hor2] at hor
            simp only [Int.natCast_add] at hor
            have a5 : IntKind.i64.wrap (x : Int) = x := wrapI _ (by omega) (by omega)
            have a6 : IntKind.i64.wrap (RM : Int) = RM := wrapI _ (by omega) (by omega)
            have a7 : IntKind.i64.wrap ((RM : Int) + x) = (RM : Int) + x := wrapI _ (by omega) (by omega)
            have a8 : IntKind.u64.wrap (m : Int) = m := by
              show (m : Int) % 18446744073709551616 = m
              omega
            rw [ho] at c1
            have HADD := Lib.hid hadd
            clear hpm hMk hrm hadd hRM hor2
            go_upto_region 25 with fail
            rw [hMki]
            have HM := Lib.hid hm
            have HNR := Lib.hid hnr
            clear hm hnr
            go_wp2_with fail
            go_quiet (fail)
            generalize hwq : wr.drewN nq = wq
            have kq : Kept wr wq := by rw [← hwq]; exact (Frm.refl _ _).drewN nq
            have hs2 := HSRC.out.kept kq
            have b2 := hs2.obj.cell 2
            simp only [List.getElem?_toArray, List.getElem?_cons_zero, List.getElem?_cons_succ, hkz] at b2
            have g2 := hs2.obj.free 2
            have hst : Frm (fun k => k = q) wq (wq.setCell ⟨q, 2, none⟩ (.int .i64 (m : Int))) := (Frm.refl (fun k => k = q) wq).setCell (p := ⟨q, 2, none⟩) (.inl rfl) _
            have hob := hs2.obj.set 2 (.int .i64 (m : Int))
            have hnew := hs2.move (pos' := pos + n) hst (by
              have hm := HM.out
              have q1 : (pos + n) / 8 = (pos + k) / 8 := by omega
              have q2 : (pos + n) % 8 = m := by omega
              rw [q1, q2]
              simpa using hob)
            have HNEW := Lib.hid hnew
            have HST := Lib.hid ((HFR.out.trans (Kept.toFrm kq)).trans hst)
            clear hst hob hnew hs2 kq hwq c0 c1 c2 f1 f2 hby hor
            go_wp2
            go_ret2
            refine ⟨?_, HNEW.out, HST.out⟩
            have hm := HM.out
            have ha := HADD.out
            rw [show k + m = n by omega] at ha
            rw [ha]
            rfl
end Go.Proofs.YtnpkihobbcglcaaGreatDoor
