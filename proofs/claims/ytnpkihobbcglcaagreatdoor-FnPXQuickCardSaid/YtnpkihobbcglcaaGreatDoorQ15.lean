/- The division of polynomials in memory: the walk. -/
import Derived.Test.YtnpkihobbcglcaaGreatDoorQ14
import Derived.Deep.LoopGhost
import Derived.Deep.Light
set_option linter.unusedSimpArgs false
set_option linter.unusedVariables false

/- F12: The division of polynomials in memory: the walk. -/
namespace Go.Proofs.YtnpkihobbcglcaaGreatDoor
open Go Go.RowKit

theorem ge255 : ge 255 = 1 := by decide +kernel
theorem gl_one : gl 1 = 0 := by decide +kernel

set_option maxRecDepth 100000 in
set_option maxHeartbeats 4000000 in
theorem gpDivide (f e l z o p q : Nat) (xs gt : List Nat) (w : World) (hf : GF w f e l z o) (hp : GP w p f xs) (hq : GP w q f (1 :: gt)) (hg0 : gt ≠ []) (hl1 : xs.length ≤ 500) (hl2 : gt.length ≤ 100) :
    Calls Tryz.prog 167 #[.pointer (some ⟨p, 0, none⟩), .pointer (some ⟨q, 0, none⟩)] w fun r w' => ∃ qq s rs, r = .returned (.tuple #[.pointer (some ⟨qq, 0, none⟩), .pointer (some ⟨s, 0, none⟩), .nilIface]) ∧ GP w' s f rs ∧ Kept w w' ∧ rs.length ≤ gt.length ∧ ∀ a, a < 256 → ev (1 :: gt) a = 0 → ev rs a = ev xs a := by
  have hgl : 1 ≤ gt.length := by cases gt with | nil => exact absurd rfl hg0 | cons _ _ => simp
  have gp := hp
  have gq := hq
  obtain ⟨bp, op, xp, hp⟩ := hp
  obtain ⟨bq, oq, xq, hq⟩ := hq
  have p0 := hp.obj.cell 0
  have p1 := hp.obj.cell 1
  have q0 := hq.obj.cell 0
  have q1 := hq.obj.cell 1
  simp at p0 p1 q0 q1
  have hpn : 0 < xs.length := by have := hp.len; have := hp.lt; omega
  have bq1 : Bytes (1 :: gt) := hq.bytes
  have GPP := Lib.hid gp
  have GQQ := Lib.hid gq
  have HP := Lib.hid hp
  have HQ := Lib.hid hq
  have HF := Lib.hid hf
  have BQ := Lib.hid bq1
  clear gp gq hp hq hf bq1 hg0
  have hne := neq_self f
  have hq1 : ((1 :: gt).getD 0 0 == 0) = false := rfl
  have HQ1 := Lib.hid hq1
  clear hq1
  go_enter Tryz.func167, Tryz.ntmps167
  go_wp2_with fail
  go_quiet (fail)
  go_wp2_with fail
  with_reducible refine (gpIsZero q f (1 :: gt) _ (GQQ.out.drewN _)).mono ?_
  rintro r _ ⟨rfl, rfl⟩
  rw [HQ1.out]
  go_wp2_with fail
  have p0' := p0
  with_reducible refine (gfZero f e l z o _ (HF.out.drewN _)).mono ?_
  rintro r _ ⟨rfl, rfl⟩
  go_wp2_with fail
  with_reducible refine (gpDegree q f (1 :: gt) _ (GQQ.out.drewN _)).mono ?_
  rintro r _ ⟨rfl, rfl⟩
  go_wp2_with fail
  have hA := gpCoefAt q f (1 :: gt) (w.drewN nq) gt.length (GQQ.out.drewN _) (by omega) (by simp; omega)
  have hc : (1 :: gt).getD ((1 :: gt).length - 1 - (gt.length : Int).toNat) 0 = 1 := by simp
  rw [hc] at hA
  with_reducible refine hA.mono ?_
  clear hA hc
  rintro r _ ⟨rfl, n1, rfl⟩
  go_wp2_with fail
  have hA := gfInverse f e l z o 1 (w.drewN (nq + n1)) (HF.out.drewN _) (by omega) (by omega)
  rw [gl_one, ge255] at hA
  simp only [Int.cast_ofNat_Int] at hA
  with_reducible refine hA.mono ?_
  clear hA
  rintro r _ ⟨rfl, n2, rfl⟩
  go_wp2_with fail
  have hk0 : Kept w (w.drewN (nq + n1 + n2)) := (Frm.refl _ _).drewN _
  have hz0 := (HF.out.kept hk0).zero
  have hx0 := GPP.out.kept hk0
  generalize w.drewN (nq + n1 + n2) = w0 at hk0 hz0 hx0 ⊢
  go_loopg [4, 5, 6, 9, 10, 11, 12, 13] xs.length (fun gk qv rv ev' _ _ _ _ _ wr => ∃ qq s qs rs, qv = .pointer (some ⟨qq, 0, none⟩) ∧ rv = .pointer (some ⟨s, 0, none⟩) ∧ ev' = .nilIface ∧ GP wr qq f qs ∧ qs.length ≤ 500 ∧ GP wr s f rs ∧ Kept w wr ∧ rs.length = gk ∧ rs.length ≤ xs.length ∧ Hid (∀ a, a < 256 → ev (1 :: gt) a = 0 → ev rs a = ev xs a))
  case atStart => exact ⟨z, p, [0], xs, rfl, rfl, rfl, hz0, by simp, hx0, hk0, rfl, Nat.le_refl _, fun _ _ _ => rfl⟩
  case round =>
    obtain ⟨qq, s, qs, rs, rfl, rfl, rfl, gq, lq, gr, kw, rfl, lx, HE⟩ := hrel
    have kq := HQ.out.frm kw (fun h => h) (fun h => h)
    have kp := HP.out.frm kw (fun h => h) (fun h => h)
    have r0 := kp.obj.cell 0
    simp at r0
    have hlen : 1 ≤ rs.length := by obtain ⟨b, of, ys, h⟩ := gr; have := h.len; have := h.lt; omega
    have gq1 := GQQ.out.kept kw
    have GF1 := Lib.hid (HF.out.kept kw)
    go_wp2_with fail
    obtain ⟨nr, br⟩ : Norm rs ∧ Bytes rs := by obtain ⟨b, of, ys, h⟩ := gr; exact ⟨h.norm, h.bytes⟩
    have GR := Lib.hid gr
    have GQ := Lib.hid gq
    have GQ1 := Lib.hid gq1
    have KQ := Lib.hid kq
    have KP := Lib.hid kp
    clear gr gq gq1 kq kp
    by_cases hge : gt.length < rs.length
    · obtain ⟨x, r, hxr, hx0⟩ : ∃ x r, rs = x :: r ∧ x ≠ 0 := by
        rcases nr with h | h
        · rw [h] at hge; have : ([0] : List Nat).length = 1 := rfl; omega
        · exact h
      have hx2 : x < 256 := br x (by rw [hxr]; simp)
      have hrl : rs.length = r.length + 1 := by rw [hxr]; simp
      have hz : (rs.getD 0 0 == 0) = false := by rw [hxr]; simpa using hx0
      have hC : ∀ n, Calls Tryz.prog 206 #[.pointer (some ⟨s, 0, none⟩), .int .i64 ((rs.length : Int) - 1)] (wr.drewN n) fun r w' => r = .returned (.int .i64 (x : Nat)) ∧ ∃ m, w' = (wr.drewN n).drewN m := by
        intro n
        have h := gpCoefAt s f rs (wr.drewN n) ((rs.length : Int) - 1) (GR.out.drewN _) (by omega) (by omega)
        have e1 : rs.length - 1 - ((rs.length : Int) - 1).toNat = 0 := by omega
        rw [e1, hxr] at h
        rw [hxr]
        exact h
      have hM : ∀ n, Calls Tryz.prog 204 #[.pointer (some ⟨f, 0, none⟩), .int .i64 x, .int .i64 1] (wr.drewN n) fun r w' => r = .returned (.int .i64 (x : Nat)) ∧ ∃ m, w' = (wr.drewN n).drewN m := by
        intro n
        have h := gfMul f e l z o x 1 (wr.drewN n) (GF1.out.drewN _) hx2 (by omega)
        rw [gm_one x hx2] at h
        exact h
      have HXR := Lib.hid hxr
      have HZ := Lib.hid hz
      have HC := Lib.hid hC
      have HM := Lib.hid hM
      have BR := Lib.hid br
      have NR := Lib.hid nr
      have hdc : ((rs.length - 1 - gt.length : Nat) : Int) = (rs.length : Int) - 1 - gt.length := by omega
      have HDC := Lib.hid hdc
      have HRL := Lib.hid hrl
      clear hxr hz hC hM br nr hdc hrl
      have hdg : decide ((gt.length : Int) ≤ (rs.length : Int) - 1) = true := by simp; omega
      with_reducible refine (gpDegree s f rs wr GR.out).mono ?_
      rintro r' _ ⟨rfl, rfl⟩
      go_wp2_with fail
      with_reducible refine (gpDegree q f (1 :: gt) wr GQ1.out).mono ?_
      rintro r' _ ⟨rfl, rfl⟩
      go_wp2_with fail
      with_reducible refine (gpIsZero s f rs wr GR.out).mono ?_
      rintro r' _ ⟨rfl, rfl⟩
      rw [HZ.out]
      go_wp2_with fail
      with_reducible refine (gpDegree s f rs wr GR.out).mono ?_
      rintro r' _ ⟨rfl, rfl⟩
      go_wp2_with fail
      with_reducible refine (gpDegree q f (1 :: gt) wr GQ1.out).mono ?_
      rintro r' _ ⟨rfl, rfl⟩
      go_wp2_with fail
      go_quiet (first | (go_at_call 207; exact Calls.quiet_of_same ((gpDegree s f rs _ (GR.out.drewN _)).mono (fun _ _ h => ⟨h.1, h.2.symm⟩))) | (go_at_call 206; exact Calls.quiet_of (HC.out _)) | (go_at_call 204; exact Calls.quiet_of (HM.out _)))
      have kw2 : Kept w (wr.drewN nq) := kw.drewN _
      have GQ2 := Lib.hid (GQ.out.drewN nq)
      have GR2 := Lib.hid (GR.out.drewN nq)
      have GQ3 := Lib.hid (GQ1.out.drewN nq)
      have GF2 := Lib.hid (GF1.out.drewN nq)
      have r1 : (wr.drewN nq).cell? ⟨p, 0, none⟩ = some (.pointer (some ⟨f, 0, none⟩)) := r0
      generalize wr.drewN nq = w1 at kw2 GQ2 GR2 GQ3 GF2 r1 ⊢
      clear r0 GR GQ GQ1 KQ KP GF1 HC HM
      go_wp2_with fail
      have hA := mulMonomial f e l z o q (rs.length - 1 - gt.length) x (1 :: gt) w1 GF2.out GQ3.out hx2 hx0 (by simp; omega)
      rw [HDC.out] at hA
      with_reducible refine hA.mono ?_
      clear hA
      rintro r' w2 ⟨tq, rfl, gt2, kt2, lt2⟩
      have GT2 := Lib.hid gt2
      have hlt : (monP (1 :: gt) (rs.length - 1 - gt.length) x).length ≤ rs.length := by
        refine Nat.le_trans (strip_len _) ?_
        simp; omega
      have HLT := Lib.hid hlt
      have GF3 := Lib.hid (GF2.out.kept kt2)
      have GQ4 := Lib.hid (GQ2.out.kept kt2)
      have GR4 := Lib.hid (GR2.out.kept kt2)
      have r2 : w2.cell? ⟨p, 0, none⟩ = some (.pointer (some ⟨f, 0, none⟩)) := by rw [kt2.cell (World.block_lt_of_cell? _ _ r1) (fun h => h)]; exact r1
      clear gt2 hlt GF2 GQ2 GR2 GQ3
      go_wp2_with fail
      have hA := buildMonomial f e l z o (rs.length - 1 - gt.length) x w2 GF3.out hx2 hx0 (by omega)
      rw [HDC.out] at hA
      with_reducible refine hA.mono ?_
      clear hA
      rintro r' w3 ⟨iq, ics, rfl, gi3, li3, ki3, _⟩
      have GI3 := Lib.hid gi3
      have GQ5 := Lib.hid (GQ4.out.kept ki3)
      have GR5 := Lib.hid (GR4.out.kept ki3)
      have GT3 := Lib.hid (GT2.out.kept ki3)
      clear gi3 GQ4 GR4 GT2
      go_wp2_with fail
      with_reducible refine (gpAdd f qq iq qs ics w3 GQ5.out GI3.out (by omega) (by omega)).mono ?_
      rintro r' w4 ⟨q4, rfl, gq4, k4⟩
      have GQ6 := Lib.hid gq4
      have GR6 := Lib.hid (GR5.out.kept k4)
      have GT4 := Lib.hid (GT3.out.kept k4)
      clear gq4 GQ5 GR5 GT3
      go_wp2_with fail
      with_reducible refine (gpAdd f s tq rs (monP (1 :: gt) (rs.length - 1 - gt.length) x) w4 GR6.out GT4.out (by omega) (by have := HLT.out; omega)).mono ?_
      rintro r' w5 ⟨s5, rfl, gr5, k5⟩
      have GQ7 := Lib.hid (GQ6.out.kept k5)
      have GR7 := Lib.hid gr5
      clear gr5
      have hrem := rem_len x r gt hx0 hx2 (by have := HRL.out; omega)
      rw [show r.length - gt.length = rs.length - 1 - gt.length by have := HRL.out; omega, ← HXR.out] at hrem
      have hsm : (addP rs (monP (1 :: gt) (rs.length - 1 - gt.length) x)).length < rs.length := by
        rcases hrem with h | h
        · rw [h]; simp; omega
        · exact h
      have HSM := Lib.hid hsm
      clear hrem hsm
      go_wp2_with fail
      go_roundg ((addP rs (monP (1 :: gt) (rs.length - 1 - gt.length) x)).length)
      case measure => exact HSM.out
      case rel =>
        go_light
        refine ⟨q4, s5, addP qs ics, _, rfl, rfl, rfl, GQ7.out, ?_, GR7.out, ((((kw2.trans kt2).trans ki3).trans k4).trans k5), rfl, ?_, ?_⟩
        · have := addP_len qs ics; omega
        · have := HSM.out; omega
        · intro a ha hev
          have bt : Bytes (monP (1 :: gt) (rs.length - 1 - gt.length) x) := strip_bytes _ ((Bytes.map_gm _ _).append (Bytes.zeros _))
          have nt : Norm (monP (1 :: gt) (rs.length - 1 - gt.length) x) := strip_norm _ (by simp)
          rw [addP_ev a ha _ _ NR.out nt BR.out bt, monP_ev a ha _ _ x hx2 BQ.out hev, Nat.xor_zero]
          exact HE.out a ha hev
    · have hdg : decide ((gt.length : Int) ≤ (rs.length : Int) - 1) = false := by simp; omega
      with_reducible refine (gpDegree s f rs wr GR.out).mono ?_
      rintro r' _ ⟨rfl, rfl⟩
      go_wp2_with fail
      with_reducible refine (gpDegree q f (1 :: gt) wr GQ1.out).mono ?_
      rintro r' _ ⟨rfl, rfl⟩
      go_wp2_with fail
      refine bodyPost_ret (results_tmp3 rfl _ _ _) rfl ?_
      exact ⟨qq, s, rs, rfl, GR.out, kw, by omega, HE.out⟩
end Go.Proofs.YtnpkihobbcglcaaGreatDoor
