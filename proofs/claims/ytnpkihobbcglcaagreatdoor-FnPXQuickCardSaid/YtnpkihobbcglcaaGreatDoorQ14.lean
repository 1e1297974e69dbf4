/- Multiples and monomials in memory. The sum of two polynomials in memory. The product of two polynomials in memory. The product of two polynomials in memory: the walk. -/
import Derived.Test.YtnpkihobbcglcaaGreatDoorQ01
import Derived.Test.YtnpkihobbcglcaaGreatDoorQ13
set_option linter.unusedSimpArgs false
set_option linter.unusedVariables false

/- F7: Multiples and monomials in memory. -/
namespace Go.Proofs.YtnpkihobbcglcaaGreatDoor
open Go Go.RowKit

theorem natCells_set (k : IntKind) (xs : List Nat) (i v : Nat) : (natCells k xs).setIfInBounds i (.int k (v : Int)) = natCells k (xs.set i v) := by
  simp [natCells, natVals, List.map_set]

set_option maxRecDepth 100000 in
theorem buildMonomial (f e l z o d c : Nat) (w : World) (_h : GF w f e l z o) (hc : c < 256) (hc0 : c ≠ 0) (hd : d ≤ 1000) :
    Calls Tryz.prog 209 #[.pointer (some ⟨f, 0, none⟩), .int .i64 d, .int .i64 c] w fun r w' => ∃ p cs, r = .returned (.tuple #[.pointer (some ⟨p, 0, none⟩), .nilIface]) ∧ GP w' p f cs ∧ cs.length ≤ d + 1 ∧ Kept w w' ∧ w.heap.size ≤ p := by
  have hcn : ((c : Int) == 0) = false := by rw [beq_eq_false_iff_ne]; omega
  have hmk := run_make_ints 117 3 .i64 8 (by kernel_rfl) info3 (d + 1) (by omega) (by omega) w
  simp only [Int.natCast_add, Int.cast_ofNat_Int] at hmk
  have hN := Nats.new w .i64 3 (List.replicate (d + 1) 0)
  have c0 := hN.cell 0 (by simp)
  have f0 := hN.free 0
  generalize hrp : List.replicate (d + 1) 0 = zs at hmk hN c0 f0
  have hzl : (zs.set 0 c).length = d + 1 := by rw [← hrp]; simp
  have hzb : Bytes (zs.set 0 c) := by
    intro x hx
    rcases List.mem_or_eq_of_mem_set hx with h | h
    · rw [← hrp] at h; have := (List.mem_replicate.1 h).2; omega
    · omega
  have HZB := Lib.hid hzb
  have HZL := Lib.hid hzl
  clear hN hzb hrp hzl _h
  go_enter Tryz.func209, Tryz.ntmps209
  go_wp2_with fail
  rw [natCells_set]
  have hn := newPoly f w.heap.size (zs.set 0 c) (w.alloc (.cells (natCells .i64 (zs.set 0 c)) 3)) (Nats.new w .i64 3 _) (by intro e; have := HZL.out; rw [e] at this; simp at this) (by have := HZL.out; omega) HZB.out
  rw [HZL.out] at hn
  with_reducible refine hn.mono ?_
  clear hn
  rintro r w1 ⟨p, rfl, gp, k1, lp⟩
  go_wp2_with fail
  go_ret2
  have hss : (w.alloc (.cells (natCells .i64 (zs.set 0 c)) 3)).heap.size = w.heap.size + 1 := by simp
  exact ⟨p, _, rfl, gp.gp, by have := strip_len (zs.set 0 c); rw [HZL.out] at this; exact this, ((Frm.refl _ _).alloc _).trans k1, by omega⟩

set_option maxRecDepth 100000 in
set_option maxHeartbeats 2000000 in
theorem mulMonomial (f e l z o p d c : Nat) (cs : List Nat) (w : World) (h : GF w f e l z o) (hp : GP w p f cs) (hc : c < 256) (hc0 : c ≠ 0) (hl : cs.length + d ≤ 1000) :
    Calls Tryz.prog 166 #[.pointer (some ⟨p, 0, none⟩), .int .i64 d, .int .i64 c] w fun r w' => ∃ q, r = .returned (.tuple #[.pointer (some ⟨q, 0, none⟩), .nilIface]) ∧ GP w' q f (monP cs d c) ∧ Kept w w' ∧ w.heap.size ≤ q := by
  have hcn : ((c : Int) == 0) = false := by rw [beq_eq_false_iff_ne]; omega
  obtain ⟨b, off, xs, hp⟩ := hp
  have hpos : 0 < cs.length := by have := hp.len; have := hp.lt; omega
  have o0 := hp.obj.cell 0
  have o1 := hp.obj.cell 1
  simp at o0 o1
  have lp := hp.obj.lt
  have lb := hp.row.lt
  have hby := hp.bytes
  have hmk := run_make_ints 117 3 .i64 8 (by kernel_rfl) info3 (cs.length + d) (by omega) (by omega) w
  simp only [Int.natCast_add] at hmk
  have hN := Nats.new w .i64 3 (List.replicate (cs.length + d) 0)
  have hK : Kept w (w.alloc (.cells (natCells .i64 (List.replicate (cs.length + d) 0)) 3)) := (Frm.refl _ _).alloc _
  have HP := Lib.hid hp
  have HBY := Lib.hid hby
  have H := Lib.hid h
  clear hp hby h
  go_enter Tryz.func166, Tryz.ntmps166
  go_wp2_with fail
  generalize w.alloc (.cells (natCells .i64 (List.replicate (cs.length + d) 0)) 3) = w0 at hN hK ⊢
  clear hmk
  go_loopw [10] (fun i wr => ∃ k : Nat, k ≤ cs.length ∧ i = .int .i64 k ∧ Nats wr w.heap.size .i64 3 ((cs.take k).map (gm c) ++ List.replicate (cs.length - k + d) 0) ∧ Kept w wr) (fun i _ => cs.length - (intOf i).toNat)
  case atStart => exact ⟨0, Nat.zero_le _, rfl, by simpa using hN, hK⟩
  case round =>
    obtain ⟨k, hk, rfl, hn, hkp⟩ := hrel
    clear hN hK
    have hob := HP.out.frm hkp (fun h => h) (fun h => h)
    have q0 := hob.obj.cell 0
    have q1 := hob.obj.cell 1
    simp at q0 q1
    have hg := H.out.kept hkp
    by_cases hlt : k < cs.length
    · have ck := hob.cell k hlt
      have hck : cs.getD k 0 < 256 := HBY.out _ (by rw [List.getD_eq_getElem?_getD, List.getElem?_eq_getElem hlt]; exact List.getElem_mem _)
      have hfree := hn.free k
      have hcell := hn.cell k (by simp; omega)
      have hset : ∀ n, Nats ((wr.drewN n).setCell ⟨w.heap.size, k, none⟩ (.int .i64 ((gm c (cs.getD k 0) : Nat) : Int))) w.heap.size .i64 3 (((cs.take k).map (gm c) ++ List.replicate (cs.length - k + d) 0).set k (gm c (cs.getD k 0))) := fun n => Nats.set (w := wr.drewN n) hn k (gm c (cs.getD k 0))
      have hnext : ((cs.take k).map (gm c) ++ List.replicate (cs.length - k + d) 0).set k (gm c (cs.getD k 0)) = (cs.take (k + 1)).map (gm c) ++ List.replicate (cs.length - (k + 1) + d) 0 := by
        rw [List.set_append_right _ _ (by simp; omega), show k - ((cs.take k).map (gm c)).length = 0 by simp; omega, show cs.length - k + d = (cs.length - (k + 1) + d) + 1 by omega, List.replicate_succ, List.set_cons_zero, List.take_succ_eq_append_getElem hlt, List.map_append, List.append_assoc]
        simp [List.getD_eq_getElem?_getD, hlt]
      rw [hnext] at hset
      have HSet := Lib.hid hset
      have HG := Lib.hid hg
      have hdk : decide ((k : Int) < cs.length) = true := by simp; omega
      clear hset hnext hob hn hg
      generalize cs.getD k 0 = v at ck hck HSet
      go_wp2
      refine wp_region_quiet_tail 16 (by kernel_rfl) (by kernel_rfl) ?_
      simp only [List.take_succ_cons, List.take_zero, List.drop_succ_cons, List.drop_zero]
      repeat (go_big_quiet_step (exact Calls.quiet_of (gfMul f e l z o v c _ (HG.out.drewN _) hck hc)))
      refine wpQuiet_nil ?_
      intro _ hw'
      obtain ⟨nq, hw''⟩ := hw'
      subst hw''
      go_wp2
      refine ⟨⟨k + 1, by omega, by go_num, ?_, (hkp.drewN nq).setCell (.inr (Nat.le_refl _)) _⟩, by simp [intOf]; omega⟩
      rw [gm_comm v c]
      exact HSet.out nq
    · obtain rfl : k = cs.length := by omega
      have hdk : decide ((cs.length : Int) < cs.length) = false := by simp
      go_wp2_with fail
      have hm : (List.map (gm c) (List.take cs.length cs) ++ List.replicate (cs.length - cs.length + d) 0) = cs.map (gm c) ++ List.replicate d 0 := by rw [List.take_length, Nat.sub_self, Nat.zero_add]
      rw [hm] at hn
      clear hm
      have hl2 : (cs.map (gm c) ++ List.replicate d 0).length = cs.length + d := by simp
      have hnp := newPoly f w.heap.size (cs.map (gm c) ++ List.replicate d 0) wr hn (by intro e; rw [e] at hl2; simp at hl2; omega) (by omega) ((Bytes.map_gm c cs).append (Bytes.zeros d))
      rw [hl2] at hnp
      with_reducible refine hnp.mono ?_
      clear hnp
      rintro r w1 ⟨q, rfl, gp, k1, lp⟩
      go_wp2_with fail
      go_ret2
      exact ⟨q, rfl, gp.gp, hkp.trans k1, by have := hkp.size; omega⟩
end Go.Proofs.YtnpkihobbcglcaaGreatDoor

/- F8: The sum of two polynomials in memory. -/
namespace Go.Proofs.YtnpkihobbcglcaaGreatDoor
open Go Go.RowKit

/-- The sum as the loop fills it: k places of the longer one done. -/
def padPart (xs ys : List Nat) (k : Nat) : List Nat :=
  ys.take (ys.length - xs.length) ++ (List.zipWith (fun x y => x ^^^ y) (xs.take k) ((ys.drop (ys.length - xs.length)).take k)) ++ List.replicate (xs.length - k) 0
theorem padPart_len (xs ys : List Nat) (k : Nat) (hl : xs.length ≤ ys.length) (hk : k ≤ xs.length) : (padPart xs ys k).length = ys.length := by
  simp [padPart]; omega
theorem padPart_step (xs ys : List Nat) (k : Nat) (hl : xs.length ≤ ys.length) (hk : k < xs.length) :
    (padPart xs ys k).set (ys.length - xs.length + k) (xs.getD k 0 ^^^ ys.getD (ys.length - xs.length + k) 0) = padPart xs ys (k + 1) := by
  unfold padPart
  have h1 : ((ys.take (ys.length - xs.length)) ++ List.zipWith (fun x y => x ^^^ y) (xs.take k) ((ys.drop (ys.length - xs.length)).take k)).length = ys.length - xs.length + k := by simp; omega
  have hy : k < (ys.drop (ys.length - xs.length)).length := by simp; omega
  rw [List.set_append_right _ _ (by omega), h1, Nat.sub_self, show xs.length - k = (xs.length - (k + 1)) + 1 by omega, List.replicate_succ, List.set_cons_zero,
    List.take_succ_eq_append_getElem hk, List.take_succ_eq_append_getElem hy, List.zipWith_append (by simp; omega)]
  simp [List.getD_eq_getElem?_getD, hk, show ys.length - xs.length + k < ys.length by omega]
theorem padPart_all (xs ys : List Nat) (hl : xs.length ≤ ys.length) : padPart xs ys xs.length = padXor xs ys := by
  have h1 : (ys.drop (ys.length - xs.length)).take xs.length = ys.drop (ys.length - xs.length) := List.take_of_length_le (by simp; omega)
  unfold padPart padXor
  rw [if_pos hl, List.take_length, h1, Nat.sub_self]
  simp
theorem padXor_comm (xs ys : List Nat) (h : ys.length < xs.length) : padXor xs ys = padXor ys xs := by
  unfold padXor
  rw [if_neg (by omega), if_pos (by omega)]

theorem info139 : (Tryz.prog.info? (Tryz.prog.pointee 139)).isSome = true := by kernel_rfl
theorem equal_self (f : Nat) (w : World) (d : Nat) : (Op.equalIn (d + 1) 139 (.pointer (some ⟨f, 0, none⟩)) (.pointer (some ⟨f, 0, none⟩))).run Tryz.prog w = .ok true w := by
  have hu : Tryz.prog.underlying 139 = some (.pointer (Tryz.prog.pointee 139)) := by kernel_rfl
  obtain ⟨i, hi⟩ := Option.isSome_iff_exists.1 info139
  simp [Op.equalIn, run_underlying hu, sizeOf, sameAddr, typeInfo, hi]
/-- A pointer to a field is no other than itself. -/
theorem neq_self (f : Nat) (w : World) : (binOp .neq 139 (.pointer (some ⟨f, 0, none⟩)) (.pointer (some ⟨f, 0, none⟩))).run Tryz.prog w = .ok (.bool false) w := by
  simp only [binOp]
  have := equal_self f w 9999
  simp [Op.equal, Op.maxDepth, this]

set_option maxRecDepth 100000 in
set_option maxHeartbeats 4000000 in
theorem gpAdd (f p q : Nat) (xs ys : List Nat) (w : World) (hp : GP w p f xs) (hq : GP w q f ys) (hl1 : xs.length ≤ 1000) (hl2 : ys.length ≤ 1000) :
    Calls Tryz.prog 210 #[.pointer (some ⟨p, 0, none⟩), .pointer (some ⟨q, 0, none⟩)] w fun r w' => ∃ s, r = .returned (.tuple #[.pointer (some ⟨s, 0, none⟩), .nilIface]) ∧ GP w' s f (addP xs ys) ∧ Kept w w' := by
  have gp := hp
  have gq := hq
  obtain ⟨bp, op, xp, hp⟩ := hp
  obtain ⟨bq, oq, xq, hq⟩ := hq
  have p0 := hp.obj.cell 0
  have p1 := hp.obj.cell 1
  have q0 := hq.obj.cell 0
  have q1 := hq.obj.cell 1
  simp at p0 p1 q0 q1
  have hpn : 0 < xs.length := by have := hp.len; have := hp.lt; omega
  have hqn : 0 < ys.length := by have := hq.len; have := hq.lt; omega
  have GPP := Lib.hid gp
  have GQQ := Lib.hid gq
  have HP := Lib.hid hp
  have HQ := Lib.hid hq
  clear gp gq hp hq
  have hne := neq_self f
  go_enter Tryz.func210, Tryz.ntmps210
  go_wp2_with fail
  go_quiet (fail)
  go_wp2_with fail
  with_reducible refine (gpIsZero p f xs _ (GPP.out.drewN _)).mono ?_
  rintro r _ ⟨rfl, rfl⟩
  cases hz1 : (xs.getD 0 0 == 0)
  · go_wp2_with fail
    with_reducible refine (gpIsZero q f ys _ (GQQ.out.drewN _)).mono ?_
    rintro r _ ⟨rfl, rfl⟩
    cases hz2 : (ys.getD 0 0 == 0)
    · have hx0 : ¬ xs.getD 0 0 = 0 := by simpa using hz1
      have hy0 : ¬ ys.getD 0 0 = 0 := by simpa using hz2
      have hadd : addP xs ys = strip (padXor xs ys) := by rw [addP, if_neg hx0, if_neg hy0]
      have HADD := Lib.hid hadd
      clear hadd hx0 hy0 hz1 hz2
      have hmk1 := fun w => run_make_ints 117 3 .i64 8 (by kernel_rfl) info3 xs.length (by omega) (by omega) w
      have hmk2 := fun w => run_make_ints 117 3 .i64 8 (by kernel_rfl) info3 ys.length (by omega) (by omega) w
      by_cases hgt : ys.length < xs.length
      · have hd : decide ((ys.length : Int) < xs.length) = true := by simp; omega
        have hle : ys.length ≤ xs.length := by omega
        have hg0 := Nats.new (w.drewN nq) .i64 3 (List.replicate xs.length 0)
        have hLr := (HP.out.row).alloc (.cells (natCells .i64 (List.replicate xs.length 0)) 3)
        have hlen := HP.out.len
        have hlt := HP.out.lt
        have hcp := run_copy_nats (P := Tryz.prog) ((w.drewN nq).alloc (.cells (natCells .i64 (List.replicate xs.length 0)) 3)) 117 117 3 3 .i64 w.heap.size 0 xs.length xs.length bp op (xs.length - ys.length) xs.length (xs.length - ys.length) 3 3 (List.replicate xs.length 0) xp (by kernel_rfl) (by kernel_rfl) hg0 hLr (by simp [Nat.min_def]) (by omega) (by simp)
        have hpp : (List.replicate xs.length 0).take 0 ++ (xp.drop op).take (xs.length - ys.length) ++ (List.replicate xs.length 0).drop (0 + (xs.length - ys.length)) = padPart ys xs 0 := by
          rw [HP.out.cut]
          simp [padPart]
          omega
        rw [hpp] at hcp
        clear hpp hlen hlt hg0 hLr
        go_wp2_with fail
        have hnr : Nats (((w.drewN nq).alloc (.cells (natCells .i64 (List.replicate xs.length 0)) 3)).setRow w.heap.size (natCells .i64 (padPart ys xs 0))) w.heap.size .i64 3 (padPart ys xs 0) := (Nats.new (w.drewN nq) .i64 3 (List.replicate xs.length 0)).setRow _
        have hkr : Kept w (((w.drewN nq).alloc (.cells (natCells .i64 (List.replicate xs.length 0)) 3)).setRow w.heap.size (natCells .i64 (padPart ys xs 0))) := (((Frm.refl _ _).drewN nq).alloc _).setRow (.inr (Nat.le_refl _)) _
        generalize ((w.drewN nq).alloc (.cells (natCells .i64 (List.replicate xs.length 0)) 3)).setRow w.heap.size (natCells .i64 (padPart ys xs 0)) = w0 at hnr hkr ⊢
        clear hcp hmk1 hmk2
        go_loopw [10] (fun i wr => ∃ k j : Nat, k ≤ ys.length ∧ j = xs.length - ys.length + k ∧ i = .int .i64 j ∧ Nats wr w.heap.size .i64 3 (padPart ys xs k) ∧ Kept w wr) (fun i _ => xs.length - (intOf i).toNat)
        case atStart => exact ⟨0, xs.length - ys.length, Nat.zero_le _, rfl, congrArg _ (by omega), hnr, hkr⟩
        case round =>
          obtain ⟨k, j, hk, hj, rfl, hn, hkp⟩ := hrel
          clear hnr hkr
          have sob := HQ.out.frm hkp (fun h => h) (fun h => h)
          have lob := HP.out.frm hkp (fun h => h) (fun h => h)
          by_cases hlt : k < ys.length
          · have cS := sob.cell k hlt
            have cL := lob.cell j (by omega)
            have bS : ys.getD k 0 < 256 := sob.bytes _ (by rw [List.getD_eq_getElem?_getD, List.getElem?_eq_getElem hlt]; exact List.getElem_mem _)
            have bL : xs.getD j 0 < 256 := lob.bytes _ (by rw [List.getD_eq_getElem?_getD, List.getElem?_eq_getElem (show j < xs.length by omega)]; exact List.getElem_mem _)
            have hnext := padPart_step ys xs k hle hlt
            rw [← hj] at hnext
            have hset : ∀ n, Nats ((wr.drewN n).setCell ⟨w.heap.size, j, none⟩ (.int .i64 ((ys.getD k 0 ^^^ xs.getD j 0 : Nat) : Int))) w.heap.size .i64 3 (padPart ys xs (k + 1)) := by
              intro n
              rw [← hnext]
              exact Nats.set (w := wr.drewN n) hn j _
            have hfree := hn.free j
            have hcell := hn.cell j (by rw [padPart_len ys xs k hle (by omega)]; omega)
            have HSet := Lib.hid hset
            have hdk : decide ((j : Int) < xs.length) = true := by simp; omega
            have hjl : (j : Int) < xs.length := by omega
            have hks : (k : Int) < ys.length := by omega
            have hwr : IntKind.i64.wrap ((j : Int) - ((xs.length : Int) - ys.length)) = (k : Int) := by
              rw [show (j : Int) - ((xs.length : Int) - ys.length) = k by omega]; exact wrapi64 _ (by omega) (by omega)
            have HJ := Lib.hid hj
            clear hset hnext hj
            generalize ys.getD k 0 = vs at cS bS HSet
            generalize xs.getD j 0 = vl at cL bL HSet
            generalize (padPart ys xs k).getD j 0 = vo at hcell
            go_wp2
            refine wp_region_quiet_tail 14 (by kernel_rfl) (by kernel_rfl) ?_
            simp only [List.take_succ_cons, List.take_zero, List.drop_succ_cons, List.drop_zero]
            repeat (go_big_quiet_step (exact Calls.quiet_of_same ((gfAdd vs vl _ bS bL).mono (fun _ _ h => ⟨h.1, h.2.symm⟩))))
            refine wpQuiet_nil ?_
            intro _ hw'
            obtain ⟨nq2, hw''⟩ := hw'
            subst hw''
            go_wp2
            refine ⟨⟨k + 1, j + 1, by omega, by have := HJ.out; omega, by go_num, HSet.out _, (hkp.drewN _).setCell (.inr (Nat.le_refl _)) _⟩, by simp [intOf]; omega⟩
          · obtain rfl : k = ys.length := by omega
            have hdk : decide ((j : Int) < xs.length) = false := by simp; omega
            rw [padPart_all ys xs hle] at hn
            have r0 := (HP.out.frm hkp (fun h => h) (fun h => h)).obj.cell 0
            simp at r0
            go_wp2_with fail
            have hlp : (padXor ys xs).length = xs.length := by rw [padXor_len]; omega
            have hnp := newPoly f w.heap.size (padXor ys xs) wr hn (by intro e; rw [e] at hlp; simp at hlp; omega) (by omega) (padXor_bytes _ _ HQ.out.bytes HP.out.bytes)
            rw [hlp] at hnp
            with_reducible refine hnp.mono ?_
            clear hnp
            rintro r w1 ⟨s, rfl, gs, k1, ls⟩
            go_wp2_with fail
            go_ret2
            refine ⟨s, rfl, ?_, hkp.trans k1⟩
            rw [HADD.out, padXor_comm _ _ hgt]
            exact gs.gp
      · have hd : decide ((ys.length : Int) < xs.length) = false := by simp; omega
        have hle : xs.length ≤ ys.length := by omega
        have hg0 := Nats.new (w.drewN nq) .i64 3 (List.replicate ys.length 0)
        have hLr := (HQ.out.row).alloc (.cells (natCells .i64 (List.replicate ys.length 0)) 3)
        have hlen := HQ.out.len
        have hlt := HQ.out.lt
        have hcp := run_copy_nats (P := Tryz.prog) ((w.drewN nq).alloc (.cells (natCells .i64 (List.replicate ys.length 0)) 3)) 117 117 3 3 .i64 w.heap.size 0 ys.length ys.length bq oq (ys.length - xs.length) ys.length (ys.length - xs.length) 3 3 (List.replicate ys.length 0) xq (by kernel_rfl) (by kernel_rfl) hg0 hLr (by simp [Nat.min_def]) (by omega) (by simp)
        have hpp : (List.replicate ys.length 0).take 0 ++ (xq.drop oq).take (ys.length - xs.length) ++ (List.replicate ys.length 0).drop (0 + (ys.length - xs.length)) = padPart xs ys 0 := by
          rw [HQ.out.cut]
          simp [padPart]
          omega
        rw [hpp] at hcp
        clear hpp hlen hlt hg0 hLr
        go_wp2_with fail
        have hnr : Nats (((w.drewN nq).alloc (.cells (natCells .i64 (List.replicate ys.length 0)) 3)).setRow w.heap.size (natCells .i64 (padPart xs ys 0))) w.heap.size .i64 3 (padPart xs ys 0) := (Nats.new (w.drewN nq) .i64 3 (List.replicate ys.length 0)).setRow _
        have hkr : Kept w (((w.drewN nq).alloc (.cells (natCells .i64 (List.replicate ys.length 0)) 3)).setRow w.heap.size (natCells .i64 (padPart xs ys 0))) := (((Frm.refl _ _).drewN nq).alloc _).setRow (.inr (Nat.le_refl _)) _
        generalize ((w.drewN nq).alloc (.cells (natCells .i64 (List.replicate ys.length 0)) 3)).setRow w.heap.size (natCells .i64 (padPart xs ys 0)) = w0 at hnr hkr ⊢
        clear hcp hmk1 hmk2
        go_loopw [10] (fun i wr => ∃ k j : Nat, k ≤ xs.length ∧ j = ys.length - xs.length + k ∧ i = .int .i64 j ∧ Nats wr w.heap.size .i64 3 (padPart xs ys k) ∧ Kept w wr) (fun i _ => ys.length - (intOf i).toNat)
        case atStart => exact ⟨0, ys.length - xs.length, Nat.zero_le _, rfl, congrArg _ (by omega), hnr, hkr⟩
        case round =>
          obtain ⟨k, j, hk, hj, rfl, hn, hkp⟩ := hrel
          clear hnr hkr
          have sob := HP.out.frm hkp (fun h => h) (fun h => h)
          have lob := HQ.out.frm hkp (fun h => h) (fun h => h)
          by_cases hlt : k < xs.length
          · have cS := sob.cell k hlt
            have cL := lob.cell j (by omega)
            have bS : xs.getD k 0 < 256 := sob.bytes _ (by rw [List.getD_eq_getElem?_getD, List.getElem?_eq_getElem hlt]; exact List.getElem_mem _)
            have bL : ys.getD j 0 < 256 := lob.bytes _ (by rw [List.getD_eq_getElem?_getD, List.getElem?_eq_getElem (show j < ys.length by omega)]; exact List.getElem_mem _)
            have hnext := padPart_step xs ys k hle hlt
            rw [← hj] at hnext
            have hset : ∀ n, Nats ((wr.drewN n).setCell ⟨w.heap.size, j, none⟩ (.int .i64 ((xs.getD k 0 ^^^ ys.getD j 0 : Nat) : Int))) w.heap.size .i64 3 (padPart xs ys (k + 1)) := by
              intro n
              rw [← hnext]
              exact Nats.set (w := wr.drewN n) hn j _
            have hfree := hn.free j
            have hcell := hn.cell j (by rw [padPart_len xs ys k hle (by omega)]; omega)
            have HSet := Lib.hid hset
            have hdk : decide ((j : Int) < ys.length) = true := by simp; omega
            have hjl : (j : Int) < ys.length := by omega
            have hks : (k : Int) < xs.length := by omega
            have hwr : IntKind.i64.wrap ((j : Int) - ((ys.length : Int) - xs.length)) = (k : Int) := by
              rw [show (j : Int) - ((ys.length : Int) - xs.length) = k by omega]; exact wrapi64 _ (by omega) (by omega)
            have HJ := Lib.hid hj
            clear hset hnext hj
            generalize xs.getD k 0 = vs at cS bS HSet
            generalize ys.getD j 0 = vl at cL bL HSet
            generalize (padPart xs ys k).getD j 0 = vo at hcell
            go_wp2
            refine wp_region_quiet_tail 14 (by kernel_rfl) (by kernel_rfl) ?_
            simp only [List.take_succ_cons, List.take_zero, List.drop_succ_cons, List.drop_zero]
            repeat (go_big_quiet_step (exact Calls.quiet_of_same ((gfAdd vs vl _ bS bL).mono (fun _ _ h => ⟨h.1, h.2.symm⟩))))
            refine wpQuiet_nil ?_
            intro _ hw'
            obtain ⟨nq2, hw''⟩ := hw'
            subst hw''
            go_wp2
            refine ⟨⟨k + 1, j + 1, by omega, by have := HJ.out; omega, by go_num, HSet.out _, (hkp.drewN _).setCell (.inr (Nat.le_refl _)) _⟩, by simp [intOf]; omega⟩
          · obtain rfl : k = xs.length := by omega
            have hdk : decide ((j : Int) < ys.length) = false := by simp; omega
            rw [padPart_all xs ys hle] at hn
            have r0 := (HP.out.frm hkp (fun h => h) (fun h => h)).obj.cell 0
            simp at r0
            go_wp2_with fail
            have hlp : (padXor xs ys).length = ys.length := by rw [padXor_len]; omega
            have hnp := newPoly f w.heap.size (padXor xs ys) wr hn (by intro e; rw [e] at hlp; simp at hlp; omega) (by omega) (padXor_bytes _ _ HP.out.bytes HQ.out.bytes)
            rw [hlp] at hnp
            with_reducible refine hnp.mono ?_
            clear hnp
            rintro r w1 ⟨s, rfl, gs, k1, ls⟩
            go_wp2_with fail
            go_ret2
            refine ⟨s, rfl, ?_, hkp.trans k1⟩
            rw [HADD.out, show padXor xs ys = padXor xs ys from rfl]
            exact gs.gp
    · go_wp2_with fail
      go_ret2
      refine ⟨p, rfl, ?_, (Frm.refl _ _).drewN _⟩
      rw [addP, if_neg (by simpa using hz1), if_pos (by simpa using hz2)]
      exact GPP.out.drewN _
  · go_wp2_with fail
    go_ret2
    refine ⟨q, rfl, ?_, (Frm.refl _ _).drewN _⟩
    rw [addP, if_pos (by simpa using hz1)]
    exact GQQ.out.drewN _
end Go.Proofs.YtnpkihobbcglcaaGreatDoor

/- F10: The product of two polynomials in memory. -/
namespace Go.Proofs.YtnpkihobbcglcaaGreatDoor
open Go Go.RowKit

theorem mulCell_len (xs ys : List Nat) (i j : Nat) (p : List Nat) : (mulCell xs ys i j p).length = p.length := by simp [mulCell]
theorem mulRow_len (xs ys : List Nat) (i k : Nat) (p : List Nat) : (mulRow xs ys i k p).length = p.length :=
  iterN_keep (fun q => q.length = p.length) _ (fun j q h => by rw [mulCell_len]; exact h) k p rfl
theorem mulAll_len (xs ys : List Nat) (k : Nat) (p : List Nat) : (mulAll xs ys k p).length = p.length :=
  iterN_keep (fun q => q.length = p.length) _ (fun j q h => by rw [mulRow_len]; exact h) k p rfl
theorem bytes_at {p : List Nat} (h : Bytes p) (i : Nat) : p.getD i 0 < 256 := by
  rw [List.getD_eq_getElem?_getD]
  by_cases hi : i < p.length
  · rw [List.getElem?_eq_getElem hi]; exact h _ (List.getElem_mem _)
  · rw [List.getElem?_eq_none (by omega)]; exact Nat.zero_lt_succ _
theorem mulCell_bytes (xs ys : List Nat) (i j : Nat) (p : List Nat) (h : Bytes p) : Bytes (mulCell xs ys i j p) := by
  intro c hc
  rcases List.mem_or_eq_of_mem_set hc with h' | h'
  · exact h c h'
  · rw [h']; exact xor_lt _ _ (bytes_at h _) (gm_lt _ _)
theorem mulRow_bytes (xs ys : List Nat) (i k : Nat) (p : List Nat) (h : Bytes p) : Bytes (mulRow xs ys i k p) :=
  iterN_keep Bytes _ (fun j q hq => mulCell_bytes xs ys i j q hq) k p h
theorem mulAll_bytes (xs ys : List Nat) (k : Nat) (p : List Nat) (h : Bytes p) : Bytes (mulAll xs ys k p) :=
  iterN_keep Bytes _ (fun i q hq => mulRow_bytes xs ys i ys.length q hq) k p h
end Go.Proofs.YtnpkihobbcglcaaGreatDoor

/- F11: The product of two polynomials in memory: the walk. -/
namespace Go.Proofs.YtnpkihobbcglcaaGreatDoor
open Go Go.RowKit

set_option maxRecDepth 100000 in
set_option maxHeartbeats 4000000 in
theorem gpMul (f e l z o p q : Nat) (xs ys : List Nat) (w : World) (hf : GF w f e l z o) (hp : GP w p f xs) (hq : GP w q f ys) (hl1 : xs.length ≤ 500) (hl2 : ys.length ≤ 500) (hx0 : xs.getD 0 0 ≠ 0) (hy0 : ys.getD 0 0 ≠ 0) :
    Calls Tryz.prog 202 #[.pointer (some ⟨p, 0, none⟩), .pointer (some ⟨q, 0, none⟩)] w fun r w' => ∃ s, r = .returned (.tuple #[.pointer (some ⟨s, 0, none⟩), .nilIface]) ∧ GP w' s f (mulP xs ys) ∧ Kept w w' ∧ w.heap.size ≤ s := by
  have gp := hp
  have gq := hq
  obtain ⟨bp, op, xp, hp⟩ := hp
  obtain ⟨bq, oq, xq, hq⟩ := hq
  have p0 := hp.obj.cell 0
  have p1 := hp.obj.cell 1
  have q0 := hq.obj.cell 0
  have q1 := hq.obj.cell 1
  simp at p0 p1 q0 q1
  have hpn : 0 < xs.length := by have := hp.len; have := hp.lt; omega
  have hqn : 0 < ys.length := by have := hq.len; have := hq.lt; omega
  have GPP := Lib.hid gp
  have GQQ := Lib.hid gq
  have HP := Lib.hid hp
  have HQ := Lib.hid hq
  have HF := Lib.hid hf
  clear gp gq hp hq hf
  have hne := neq_self f
  have hb1 : (xs.getD 0 0 == 0) = false := by rw [beq_eq_false_iff_ne]; exact hx0
  have hb2 : (ys.getD 0 0 == 0) = false := by rw [beq_eq_false_iff_ne]; exact hy0
  have hmk := fun w => run_make_ints 117 3 .i64 8 (by kernel_rfl) info3 (xs.length + ys.length - 1) (by omega) (by omega) w
  have hnl : ((xs.length + ys.length - 1 : Nat) : Int) = (xs.length : Int) + ys.length - 1 := by omega
  simp only [hnl] at hmk
  have HB1 := Lib.hid hb1
  have HB2 := Lib.hid hb2
  clear hb1 hb2 hx0 hy0 hnl
  go_enter Tryz.func202, Tryz.ntmps202
  go_wp2_with fail
  go_quiet (fail)
  go_wp2_with fail
  with_reducible refine (gpIsZero p f xs _ (GPP.out.drewN _)).mono ?_
  rintro r _ ⟨rfl, rfl⟩
  rw [HB1.out]
  go_wp2_with fail
  with_reducible refine (gpIsZero q f ys _ (GQQ.out.drewN _)).mono ?_
  rintro r _ ⟨rfl, rfl⟩
  rw [HB2.out]
  go_wp2_with fail
  have hn0 := Nats.new (w.drewN nq) .i64 3 (List.replicate (xs.length + ys.length - 1) 0)
  have hk0 : Kept w ((w.drewN nq).alloc (.cells (natCells .i64 (List.replicate (xs.length + ys.length - 1) 0)) 3)) := ((Frm.refl _ _).drewN nq).alloc _
  have hz0 : Bytes (List.replicate (xs.length + ys.length - 1) 0) := Bytes.zeros _
  have hzl : (List.replicate (xs.length + ys.length - 1) 0).length = xs.length + ys.length - 1 := List.length_replicate
  have HML : mulP xs ys = strip (mulAll xs ys xs.length (List.replicate (xs.length + ys.length - 1) 0)) := rfl
  generalize (w.drewN nq).alloc (.cells (natCells .i64 (List.replicate (xs.length + ys.length - 1) 0)) 3) = w0 at hn0 hk0 ⊢
  generalize List.replicate (xs.length + ys.length - 1) 0 = zs at hn0 hz0 hzl HML
  have HML' := Lib.hid HML
  have HZL := Lib.hid hzl
  have HZB := Lib.hid hz0
  clear HML hzl hz0 hmk
  go_loopw [11, 12, 13] (fun i _ _ wr => ∃ k : Nat, k ≤ xs.length ∧ i = .int .i64 k ∧ Nats wr w.heap.size .i64 3 (mulAll xs ys k zs) ∧ Kept w wr) (fun i _ _ _ => xs.length - (intOf i).toNat)
  case atStart => exact ⟨0, Nat.zero_le _, rfl, hn0, hk0⟩
  case round =>
    obtain ⟨k, hk, rfl, hn, hkp⟩ := hrel
    clear hn0 hk0
    by_cases hlt : k < xs.length
    · have pob := HP.out.frm hkp (fun h => h) (fun h => h)
      have ck := pob.cell k hlt
      have bk : xs.getD k 0 < 256 := bytes_at pob.bytes k
      have hS : mulAll xs ys (k + 1) zs = mulRow xs ys k ys.length (mulAll xs ys k zs) := rfl
      have HS := Lib.hid hS
      have hpl : (mulAll xs ys k zs).length = xs.length + ys.length - 1 := by rw [mulAll_len]; exact HZL.out
      have hpb : Bytes (mulAll xs ys k zs) := mulAll_bytes xs ys k zs HZB.out
      have HPL := Lib.hid hpl
      have HPB := Lib.hid hpb
      have hdk : decide ((k : Int) < xs.length) = true := by simp; omega
      clear hS hpl hpb pob
      generalize mulAll xs ys k zs = pk at hn HS HPL HPB
      generalize hvk : xs.getD k 0 = vk at ck bk
      have HVK := Lib.hid hvk
      clear hvk
      go_wp2
      go_loopw [13] (fun j wx => ∃ m : Nat, m ≤ ys.length ∧ j = .int .i64 m ∧ Nats wx w.heap.size .i64 3 (mulRow xs ys k m pk) ∧ Kept w wx) (fun j _ => ys.length - (intOf j).toNat)
      case atStart => exact ⟨0, Nat.zero_le _, rfl, hn, hkp⟩
      case round =>
        obtain ⟨m, hm, rfl, hn, hkp⟩ := hrel
        by_cases hlm : m < ys.length
        · have qob := HQ.out.frm hkp (fun h => h) (fun h => h)
          have pob := HP.out.frm hkp (fun h => h) (fun h => h)
          have r0 := pob.obj.cell 0
          simp at r0
          have hg := HF.out.kept hkp
          have cm := qob.cell m hlm
          have bm : ys.getD m 0 < 256 := bytes_at qob.bytes m
          have hrl : (mulRow xs ys k m pk).length = xs.length + ys.length - 1 := by rw [mulRow_len]; exact HPL.out
          have hrb : Bytes (mulRow xs ys k m pk) := mulRow_bytes xs ys k m pk HPB.out
          have hS2 : mulRow xs ys k (m + 1) pk = (mulRow xs ys k m pk).set (k + m) ((mulRow xs ys k m pk).getD (k + m) 0 ^^^ gm (xs.getD k 0) (ys.getD m 0)) := rfl
          rw [HVK.out] at hS2
          generalize mulRow xs ys k m pk = pm at hn hrl hrb hS2
          have cp := hn.cell (k + m) (by omega)
          have fp := hn.free (k + m)
          have bp2 : pm.getD (k + m) 0 < 256 := bytes_at hrb _
          have hset : ∀ n, Nats ((wr.drewN n).setCell ⟨w.heap.size, k + m, none⟩ (.int .i64 ((pm.getD (k + m) 0 ^^^ gm vk (ys.getD m 0) : Nat) : Int))) w.heap.size .i64 3 (mulRow xs ys k (m + 1) pk) := by
            intro n; rw [hS2]; exact Nats.set (w := wr.drewN n) hn (k + m) _
          have HSet := Lib.hid hset
          have HG := Lib.hid hg
          have hdm : decide ((m : Int) < ys.length) = true := by simp; omega
          have hw1 : IntKind.i64.wrap ((k : Int) + m) = (k : Int) + m := wrapi64 _ (by omega) (by omega)
          have hkm : (k : Int) + m < (xs.length : Int) + ys.length - 1 := by omega
          clear hset hS2 hrl hrb hn pob qob hg
          generalize pm.getD (k + m) 0 = vp at cp bp2 HSet
          generalize ys.getD m 0 = vm at cm bm HSet
          have bmul := gm_lt vk vm
          go_wp2
          refine wp_region_quiet_tail 22 (by kernel_rfl) (by kernel_rfl) ?_
          simp only [List.take_succ_cons, List.take_zero, List.drop_succ_cons, List.drop_zero]
          repeat (go_big_quiet_step (first | exact Calls.quiet_of (gfMul f e l z o vk vm _ (HG.out.drewN _) bk bm) | exact Calls.quiet_of_same ((gfAdd vp (gm vk vm) _ bp2 bmul).mono (fun _ _ h => ⟨h.1, h.2.symm⟩))))
          refine wpQuiet_nil ?_
          intro _ hw'
          obtain ⟨nq2, hw''⟩ := hw'
          subst hw''
          go_wp2
          refine ⟨⟨m + 1, by omega, by go_num, HSet.out _, (hkp.drewN _).setCell (.inr (Nat.le_refl _)) _⟩, by simp [intOf]; omega⟩
        · obtain rfl : m = ys.length := by omega
          have hdm : decide ((ys.length : Int) < ys.length) = false := by simp
          go_wp2
          refine ⟨⟨k + 1, by omega, by go_num, by rw [HS.out]; exact hn, hkp⟩, by simp [intOf]; omega⟩
    · obtain rfl : k = xs.length := by omega
      have hdk : decide ((xs.length : Int) < xs.length) = false := by simp
      have r0 := (HP.out.frm hkp (fun h => h) (fun h => h)).obj.cell 0
      simp at r0
      go_wp2_with fail
      have hml : (mulAll xs ys xs.length zs).length = xs.length + ys.length - 1 := by rw [mulAll_len]; exact HZL.out
      have hnp := newPoly f w.heap.size (mulAll xs ys xs.length zs) wr hn (by intro e; rw [e] at hml; simp at hml; omega) (by omega) (mulAll_bytes xs ys _ zs HZB.out)
      rw [hml] at hnp
      with_reducible refine hnp.mono ?_
      clear hnp
      rintro r w1 ⟨s, rfl, gs, k1, ls⟩
      go_wp2_with fail
      go_ret2
      refine ⟨s, rfl, ?_, hkp.trans k1, by have := hkp.size; omega⟩
      rw [HML'.out]
      exact gs.gp
end Go.Proofs.YtnpkihobbcglcaaGreatDoor
