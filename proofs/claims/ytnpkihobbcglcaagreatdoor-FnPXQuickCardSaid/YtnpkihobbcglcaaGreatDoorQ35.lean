/- Decoding 11: the function pattern built: the walk. Decoding 12: the codewords read along the zigzag, plain. -/
import Derived.Test.YtnpkihobbcglcaaGreatDoorQ24
import Derived.Test.YtnpkihobbcglcaaGreatDoorQ34
set_option linter.unusedSimpArgs false
set_option linter.unusedVariables false

/- U11: Decoding 11: the function pattern built: the walk. -/
namespace Go.Proofs.YtnpkihobbcglcaaGreatDoor
open Go Go.RowKit

/-- Writes into a block that lies behind the old world change nothing old. -/
theorem Kept.past {w w1 w2 : World} {b : Nat} (h : Kept w w1) (hf : Frm (fun k => k = b) w1 w2) (hb : w.heap.size ≤ b) : Kept w w2 := h.step hf (fun k hk e => by omega)

set_option maxRecDepth 100000 in
set_option maxHeartbeats 16000000 in
theorem functionPattern (pv v : Nat) (w : World) (h : VerAt w pv v) (h1 : 1 ≤ v) (h7 : v ≤ 7) :
    Calls Tryz.prog 213 #[.pointer (some ⟨pv, 0, none⟩)] w fun e w' => ∃ p b, e = .returned (.tuple #[.pointer (some ⟨p, 0, none⟩), .nilIface]) ∧ BX w' p b (dim v) (dim v) (fpat v) ∧ Kept w w' ∧ w.heap.size ≤ p ∧ w.heap.size ≤ b := by
  have hd := verDim pv v w h h7
  have hdim : dim v = 17 + 4 * v := rfl
  have hpat : fpat v = fpat2 v (dim v) (fpat1 (dim v) (alAll v (verCenters v).length (fpat0 (dim v)))) := rfl
  have hcen := cen_ok v (by omega) h1
  have hclen := cen_len v (by omega)
  have hn := newSquare (dim v) w (by omega) (by omega)
  obtain ⟨cb, c1, c2⟩ := h.cen
  have c0 := h.num
  have halS : ∀ k f, alAll v (k + 1) f = alRow v k (verCenters v).length (alAll v k f) := fun _ _ => rfl
  have hrowS : ∀ x k f, alRow v x (k + 1) f = alCell v x k (alRow v x k f) := fun _ _ _ => rfl
  have hcell : ∀ x y f, alCell v x y f = if skipC (verCenters v).length x y then f else orF f (reg ((cenN v).getD y 0 - 2) ((cenN v).getD x 0 - 2) 5 5) := fun _ _ _ => rfl
  generalize hK : (verCenters v).length = K at *
  generalize hcn : cenN v = cn at *
  have HK := Lib.hid hK
  generalize hnn : dim v = n at *
  have hn45 : n ≤ 45 := by omega
  have hn21 : 21 ≤ n := by omega
  have HDIM := Lib.hid hdim
  have HCB := Lib.hid c2
  have HC1 := Lib.hid c1
  have HC0 := Lib.hid c0
  have HD := Lib.hid hd
  have HN := Lib.hid hn
  have HCEN := Lib.hid hcen
  have HPAT := Lib.hid hpat
  have HALS := Lib.hid halS
  have HROWS := Lib.hid hrowS
  have HCELL := Lib.hid hcell
  clear hd hn hcen hpat halS hrowS hcell hK hcn hnn hdim c0 c1 c2 h
  go_enter Tryz.func213, Tryz.ntmps213
  go_wp2_with fail
  with_reducible refine HD.out.mono ?_
  rintro _ _ ⟨rfl, rfl⟩
  dsimp only
  go_wp2_with fail
  with_reducible refine HN.out.mono ?_
  rintro _ w1 ⟨p, b, rfl, hb, k1, hlp, hlb⟩
  have hs1 := setRegion p b n 0 0 9 9 _ w1 hb hn45 (by omega) (by omega) (by omega) (by omega)
  simp only [Int.cast_ofNat_Int] at hs1
  have HS1 := Lib.hid hs1
  have K1 := Lib.hid k1
  have HLP := Lib.hid hlp
  have HLB := Lib.hid hlb
  clear hb k1 hs1 hlp hlb HD HN
  dsimp only
  go_wp2_with fail
  with_reducible refine HS1.out.mono ?_
  rintro _ w2 ⟨rfl, hb, hf⟩
  have hs2 := setRegion p b n (n - 8) 0 8 9 _ w2 hb hn45 (by omega) (by omega) (by omega) (by omega)
  rw [show ((n - 8 : Nat) : Int) = (n : Int) - 8 by omega] at hs2
  simp only [Int.cast_ofNat_Int] at hs2
  have HS2 := Lib.hid hs2
  have K2 := Lib.hid (K1.out.past hf HLB.out)
  clear hb hf hs2 HS1 K1
  dsimp only
  go_wp2_with fail
  with_reducible refine HS2.out.mono ?_
  rintro _ w3 ⟨rfl, hb, hf⟩
  have hs3 := setRegion p b n 0 (n - 8) 9 8 _ w3 hb hn45 (by omega) (by omega) (by omega) (by omega)
  rw [show ((n - 8 : Nat) : Int) = (n : Int) - 8 by omega] at hs3
  simp only [Int.cast_ofNat_Int] at hs3
  have HS3 := Lib.hid hs3
  have K3 := Lib.hid (K2.out.past hf HLB.out)
  clear hb hf hs3 HS2 K2
  dsimp only
  go_wp2_with fail
  with_reducible refine HS3.out.mono ?_
  rintro _ w4 ⟨rfl, hb, hf⟩
  have hb0 : BX w4 p b n n (alAll v 0 (fpat0 n)) := hb
  have k4 := K3.out.past hf HLB.out
  have c1 := cell_kept HC1.out k4
  clear hb hf HS3 K3
  dsimp only
  go_wp2_with fail
  go_loopw [8, 9, 10] (fun xv _ _ wr => ∃ x : Nat, x ≤ K ∧ xv = .int .i64 x ∧ BX wr p b n n (alAll v x (fpat0 n)) ∧ Kept w wr) (fun xv _ _ _ => K - (intOf xv).toNat)
  case atStart => exact ⟨0, Nat.zero_le _, rfl, hb0, k4⟩
  case round =>
    clear hb0 k4 c1
    obtain ⟨x, hx, rfl, hb, kw⟩ := hrel
    by_cases hxK : x < K
    · have hd : decide ((x : Int) < K) = true := by simp; omega
      have c1 := cell_kept HC1.out kw
      have cx := (HCB.out.frm kw (fun h => h)).cell x (by rw [HK.out]; exact hxK)
      obtain ⟨ex, ex2, ex3⟩ := HCEN.out x hxK
      rw [ex] at cx
      generalize hcx : cn.getD x 0 = cxv at *
      have HCX := Lib.hid hcx
      have HB := Lib.hid hb
      have KW := Lib.hid kw
      clear hb kw ex hcx
      go_wp2_with fail
      go_loopw [10] (fun yv wx => ∃ y : Nat, y ≤ K ∧ yv = .int .i64 y ∧ BX wx p b n n (alRow v x y (alAll v x (fpat0 n))) ∧ Kept w wx) (fun yv _ => K - (intOf yv).toNat)
      case atStart => exact ⟨0, Nat.zero_le _, rfl, HB.out, KW.out⟩
      case round =>
        clear c1 cx HB KW
        obtain ⟨y, hy, rfl, hb, kw⟩ := hrel
        by_cases hyK : y < K
        · have hdy : decide ((y : Int) < K) = true := by simp; omega
          have c1 := cell_kept HC1.out kw
          have cy := (HCB.out.frm kw (fun h => h)).cell y (by rw [HK.out]; exact hyK)
          obtain ⟨ey, ey2, ey3⟩ := HCEN.out y hyK
          rw [ey] at cy
          have hrs := HROWS.out x y (alAll v x (fpat0 n))
          rw [HCELL.out] at hrs
          generalize alRow v x y (alAll v x (fpat0 n)) = F at *
          generalize hcy : cn.getD y 0 = cyv at *
          rw [HCX.out] at hrs
          have HRS := Lib.hid hrs
          have HB := Lib.hid hb
          have KW := Lib.hid kw
          clear hb kw ey hcy hrs
          go_upto_region 16 with fail
          go_cut [75] from 49 to 86 (fun s75 wx => s75 = .bool (skipC K x y) ∧ wr = wx)
          case first =>
            have q1 : ((x : Int) == 0) = decide (x = 0) := by rw [Bool.eq_iff_iff, beq_iff_eq, decide_eq_true_eq]; omega
            have q2 : ((y : Int) == 0) = decide (y = 0) := by rw [Bool.eq_iff_iff, beq_iff_eq, decide_eq_true_eq]; omega
            have q3 : ((y : Int) == (K : Int) - 1) = decide (y = K - 1) := by rw [Bool.eq_iff_iff, beq_iff_eq, decide_eq_true_eq]; omega
            have q4 : ((x : Int) == (K : Int) - 1) = decide (x = K - 1) := by rw [Bool.eq_iff_iff, beq_iff_eq, decide_eq_true_eq]; omega
            have hsk : skipC K x y = ((decide (x = 0) && (decide (y = 0) || decide (y = K - 1))) || (decide (x = K - 1) && decide (y = 0))) := rfl
            generalize decide (x = 0) = B1 at *
            generalize decide (y = 0) = B2 at *
            generalize decide (y = K - 1) = B3 at *
            generalize decide (x = K - 1) = B4 at *
            have HSK := Lib.hid hsk
            clear hsk
            cases B1 <;> cases B2 <;> cases B3 <;> cases B4
            all_goals
              go_wp2
              go_meet
              exact ⟨by rw [HSK.out]; rfl, rfl⟩
          case rest =>
            obtain ⟨rfl, rfl⟩ := hcut
            cases hsk : skipC K x y
            · have hrg := setRegion p b n (cyv - 2) (cxv - 2) 5 5 F wr HB.out hn45 (by omega) (by omega) (by omega) (by omega)
              rw [show ((cyv - 2 : Nat) : Int) = (cyv : Int) - 2 by omega, show ((cxv - 2 : Nat) : Int) = (cxv : Int) - 2 by omega] at hrg
              simp only [Int.cast_ofNat_Int] at hrg
              have hf2 := HRS.out
              rw [hsk] at hf2
              simp only [Bool.false_eq_true, if_false] at hf2
              rw [← hf2] at hrg
              have HRG := Lib.hid hrg
              clear hrg hf2 HB
              go_wp2_with fail
              with_reducible refine HRG.out.mono ?_
              rintro _ w5 ⟨rfl, hb5, hf5⟩
              have HB5 := Lib.hid hb5
              have K5 := Lib.hid (KW.out.past hf5 HLB.out)
              clear hb5 hf5 HRG
              dsimp only
              go_wp2
              exact ⟨⟨y + 1, by omega, by go_num, HB5.out, K5.out⟩, by simp [intOf]; omega⟩
            · have hf2 := HRS.out
              rw [hsk] at hf2
              simp only [if_true] at hf2
              have hb2 := HB.out
              rw [← hf2] at hb2
              have HB2 := Lib.hid hb2
              clear hb2 hf2 HB
              go_wp2
              exact ⟨⟨y + 1, by omega, by go_num, HB2.out, KW.out⟩, by simp [intOf]; omega⟩
        · obtain rfl : y = K := by omega
          have hdy : decide ((y : Int) < y) = false := by simp
          rw [← HALS.out] at hb
          have HB := Lib.hid hb
          have KW := Lib.hid kw
          clear hb kw
          go_wp2
          exact ⟨⟨x + 1, by omega, by go_num, HB.out, KW.out⟩, by simp [intOf]; omega⟩
    · obtain rfl : x = K := by omega
      have hd : decide ((x : Int) < x) = false := by simp
      have hs6 := setRegion p b n 6 9 1 (n - 17) _ wr hb hn45 (by omega) (by omega) (by omega) (by omega)
      rw [show ((n - 17 : Nat) : Int) = (n : Int) - 17 by omega] at hs6
      simp only [Int.cast_ofNat_Int] at hs6
      have HS6 := Lib.hid hs6
      have K6 := Lib.hid kw
      clear hb kw hs6
      go_wp2_with fail
      with_reducible refine HS6.out.mono ?_
      rintro _ w6 ⟨rfl, hb, hf⟩
      have hs7 := setRegion p b n 9 6 (n - 17) 1 _ w6 hb hn45 (by omega) (by omega) (by omega) (by omega)
      rw [show ((n - 17 : Nat) : Int) = (n : Int) - 17 by omega] at hs7
      simp only [Int.cast_ofNat_Int] at hs7
      have HS7 := Lib.hid hs7
      have K7 := Lib.hid (K6.out.past hf HLB.out)
      clear hb hf hs7 HS6 K6
      dsimp only
      go_wp2_with fail
      with_reducible refine HS7.out.mono ?_
      rintro _ w7 ⟨rfl, hb, hf⟩
      have hb7 : BX w7 p b n n (fpat1 n (alAll v x (fpat0 n))) := hb
      have k7 := K7.out.past hf HLB.out
      have c0 := cell_kept HC0.out k7
      have HP := HPAT.out
      clear hb hf HS7 K7
      by_cases h6 : 6 < v
      · have d6 : decide ((6 : Int) < v) = true := by simp; omega
        have hf2 : fpat v = orF (orF (fpat1 n (alAll v x (fpat0 n))) (reg (n - 11) 0 3 6)) (reg 0 (n - 11) 6 3) := by rw [HP]; unfold fpat2; rw [if_pos h6]
        have hs8 := setRegion p b n (n - 11) 0 3 6 _ w7 hb7 hn45 (by omega) (by omega) (by omega) (by omega)
        rw [show ((n - 11 : Nat) : Int) = (n : Int) - 11 by omega] at hs8
        simp only [Int.cast_ofNat_Int] at hs8
        have HS8 := Lib.hid hs8
        have HF2 := Lib.hid hf2
        have K8 := Lib.hid k7
        clear hs8 hf2 hb7 k7 HP
        dsimp only
        go_wp2_with fail
        with_reducible refine HS8.out.mono ?_
        rintro _ w8 ⟨rfl, hb, hf⟩
        have hs9 := setRegion p b n 0 (n - 11) 6 3 _ w8 hb hn45 (by omega) (by omega) (by omega) (by omega)
        rw [show ((n - 11 : Nat) : Int) = (n : Int) - 11 by omega] at hs9
        simp only [Int.cast_ofNat_Int] at hs9
        rw [← HF2.out] at hs9
        have HS9 := Lib.hid hs9
        have K9 := Lib.hid (K8.out.past hf HLB.out)
        clear hb hf hs9 HS8 K8 c0
        dsimp only
        go_wp2_with fail
        with_reducible refine HS9.out.mono ?_
        rintro _ w9 ⟨rfl, hb, hf⟩
        have HB9 := Lib.hid hb
        have K10 := Lib.hid (K9.out.past hf HLB.out)
        clear hb hf HS9 K9
        dsimp only
        go_wp2
        go_ret2
        exact ⟨p, b, rfl, HB9.out, K10.out, HLP.out, HLB.out⟩
      · have d6 : decide ((6 : Int) < v) = false := by simp; omega
        have hf2 : fpat v = fpat1 n (alAll v x (fpat0 n)) := by rw [HP]; unfold fpat2; rw [if_neg h6]
        rw [← hf2] at hb7
        have HB9 := Lib.hid hb7
        have K10 := Lib.hid k7
        clear hb7 k7 hf2 HP
        dsimp only
        go_wp2
        go_ret2
        exact ⟨p, b, rfl, HB9.out, K10.out, HLP.out, HLB.out⟩
end Go.Proofs.YtnpkihobbcglcaaGreatDoor

/- U12: Decoding 12: the codewords read along the zigzag, plain. -/
namespace Go.Proofs.YtnpkihobbcglcaaGreatDoor
open Go Go.RowKit

theorem zig_at (n c k i : Nat) (_hn : 1 ≤ n) (hk : k < n) (hi : i < 2) : zX n (c * (n * 2) + (k * 2 + i)) = colX n c - i ∧ zY n (c * (n * 2) + (k * 2 + i)) = rowY n c k := by
  have h1 : (c * (n * 2) + (k * 2 + i)) / (n * 2) = c := by rw [Nat.mul_comm c, Nat.mul_add_div (by omega), Nat.div_eq_of_lt (by omega)]; omega
  have h2 : (c * (n * 2) + (k * 2 + i)) % (n * 2) = k * 2 + i := by rw [Nat.mul_comm c, Nat.mul_add_mod, Nat.mod_eq_of_lt (by omega)]
  have h3 : (k * 2 + i) % 2 = i := by omega
  have h4 : (k * 2 + i) / 2 = k := by omega
  unfold zX zY
  rw [h1, h2, h3, h4]
  exact ⟨rfl, rfl⟩
theorem zCnt_mono (g : Grid) (n : Nat) : ∀ (t d : Nat), zCnt g n t ≤ zCnt g n (t + d) := by
  intro t d
  induction d with
  | zero => exact Nat.le_refl _
  | succ d ih =>
    have : zCnt g n (t + d + 1) = zCnt g n (t + d) + (if gget g (zX n (t + d)) (zY n (t + d)) = -1 then 1 else 0) := rfl
    rw [← Nat.add_assoc, this]
    omega
theorem zCnt_le (g : Grid) (n t T : Nat) (h : t ≤ T) : zCnt g n t ≤ zCnt g n T := by
  have := zCnt_mono g n t (T - t)
  rwa [show t + (T - t) = T by omega] at this
theorem zCnt_yes (g : Grid) (n t : Nat) (h : gget g (zX n t) (zY n t) = -1) : zCnt g n (t + 1) = zCnt g n t + 1 := by
  show zCnt g n t + (if gget g (zX n t) (zY n t) = -1 then 1 else 0) = _
  rw [if_pos h]
theorem zCnt_no (g : Grid) (n t : Nat) (h : gget g (zX n t) (zY n t) ≠ -1) : zCnt g n (t + 1) = zCnt g n t := by
  show zCnt g n t + (if gget g (zX n t) (zY n t) = -1 then 1 else 0) = _
  rw [if_neg h]; rfl

/-- The numbers behind cnt bits: whole bytes, bits of the next, their value. -/
structure RN (BB : List Bool) (cnt o r cu : Nat) : Prop where
  off : o = cnt / 8
  rem : r = cnt % 8
  val : cu = rd BB (8 * o) r
theorem RN.zero (BB : List Bool) : RN BB 0 0 0 0 := ⟨rfl, rfl, (rd_zero _ _).symm⟩
theorem RN.lt {BB : List Bool} {cnt o r cu : Nat} (h : RN BB cnt o r cu) : r < 8 ∧ cu < 128 ∧ 8 * o + r = cnt := by
  have h1 := h.off
  have h2 := h.rem
  have h3 := rd_lt BB (8 * o) r
  rw [← h.val] at h3
  have : 2 ^ r ≤ 2 ^ 7 := Nat.pow_le_pow_right (by omega) (by omega)
  omega
theorem RN.mid {BB : List Bool} {cnt o r cu : Nat} (h : RN BB cnt o r cu) (hr : r < 7) (hl : cnt < BB.length) : RN BB (cnt + 1) o (r + 1) (2 * cu + (BB.getD cnt false).toNat) := by
  obtain ⟨h1, h2, h3⟩ := h.lt
  have e := rd_succ BB (8 * o) r (by omega)
  refine ⟨by have := h.off; omega, by have := h.rem; omega, ?_⟩
  rw [e, ← h.val, h3]
theorem RN.full {BB : List Bool} {cnt o r cu : Nat} (h : RN BB cnt o r cu) (hr : r = 7) : RN BB (cnt + 1) (o + 1) 0 0 := by
  refine ⟨by have := h.off; have := h.rem; omega, by have := h.rem; omega, (rd_zero _ _).symm⟩
def resL (BB : List Bool) (tot o : Nat) : List Nat := bytesFrom BB 0 o ++ List.replicate (tot - o) 0
theorem resL_len (BB : List Bool) (tot o : Nat) (h : o ≤ tot) : (resL BB tot o).length = tot := by
  unfold resL; rw [List.length_append, bytesFrom_length, List.length_replicate]; omega
theorem resL_set {BB : List Bool} {cnt o r cu : Nat} (h : RN BB cnt o r cu) (hr : r = 7) (tot : Nat) (ho : o < tot) (hl : cnt < BB.length) : (resL BB tot o).set o (2 * cu + (BB.getD cnt false).toNat) = resL BB tot (o + 1) := by
  obtain ⟨h1, h2, h3⟩ := h.lt
  have e := rd_succ BB (8 * o) 7 (by omega)
  have hv := h.val
  rw [hr] at hv
  rw [← hv, show 8 * o + 7 = cnt by omega] at e
  have hb := rd_byte BB (8 * o) (by omega)
  rw [show (7 : Nat) + 1 = 8 by rfl] at e
  rw [← e, ← hb]
  have hlen : (bytesFrom BB 0 o).length = o := bytesFrom_length _ _ _
  unfold resL
  have hrep : List.replicate (tot - o) 0 = 0 :: List.replicate (tot - (o + 1)) (0 : Nat) := by
    rw [show tot - o = (tot - (o + 1)) + 1 by omega, List.replicate_succ]
  rw [hrep]
  have : o = (bytesFrom BB 0 o).length + 0 := by omega
  conv => lhs; arg 2; rw [this]
  rw [List.set_append_right _ _ (by omega)]
  simp only [Nat.add_sub_cancel_left, List.set_cons_zero]
  rw [bytesFrom_succ, List.append_assoc, Nat.zero_add]
  rfl

theorem VerAt.away {S : Nat → Prop} {w w' : World} {pv v : Nat} (h : VerAt w pv v) (hf : Frm S w w') (hS : ∀ k, S k → (∀ z, w.cell? ⟨k, 0, none⟩ ≠ some (.int .i64 z)) ∧ ∃ cs T, Blk w k cs T ∧ T ≠ 3 ∧ T ≠ 178) : VerAt w' pv v := by
  obtain ⟨cb, c1, c2⟩ := h.cen
  obtain ⟨eb, e1, e2⟩ := h.blk
  have hpv : ¬ S pv := fun hs => (hS pv hs).1 _ h.num
  have heb : ¬ S eb := fun hs => (hS eb hs).1 _ (e2 0 (by omega)).ec
  have hc : ∀ {b i : Nat} {u : Value}, w.cell? ⟨b, i, none⟩ = some u → ¬ S b → w'.cell? ⟨b, i, none⟩ = some u := fun h hn => by
    rw [hf.cell (World.block_lt_of_cell? _ _ h) hn]; exact h
  have hn3 : ∀ {b : Nat} {cs : Array Value}, Blk w b cs 3 → ¬ S b := fun hb hs => by
    obtain ⟨_, cs, T, h1, h2, _⟩ := hS _ hs
    exact h1.ne hb h2 rfl
  have hn178 : ∀ {b : Nat} {cs : Array Value}, Blk w b cs 178 → ¬ S b := fun hb hs => by
    obtain ⟨_, cs, T, h1, _, h2⟩ := hS _ hs
    exact h1.ne hb h2 rfl
  refine ⟨hc h.num hpv, ⟨cb, hc c1 hpv, c2.frm hf (hn3 c2)⟩, ⟨eb, hc e1 hpv, fun i hi => ?_⟩, hc h.tot hpv⟩
  obtain ⟨g, g1, g2⟩ := (e2 i hi).row
  exact ⟨hc (e2 i hi).ec heb, g, hc g1 heb, g2.frm hf (hn178 g2)⟩
/-- A BitMatrix's words are no part of a version. -/
theorem BX.apart {w : World} {p b W H : Nat} {f : Nat → Nat → Bool} (h : BX w p b W H f) : (∀ z, w.cell? ⟨b, 0, none⟩ ≠ some (.int .i64 z)) ∧ ∃ cs T, Blk w b cs T ∧ T ≠ 3 ∧ T ≠ 178 := by
  obtain ⟨ws, h1, h2, h3⟩ := h.ex
  refine ⟨fun z hz => ?_, _, _, h2, by decide, by decide⟩
  by_cases hl : 0 < ws.length
  · rw [h2.cell 0 hl] at hz; cases hz
  · rw [Blk.cell h2] at hz
    have : ws = [] := List.length_eq_zero_iff.1 (by omega)
    subst this
    cases hz

theorem cells_tot : ∀ v, v < 8 → 1 ≤ v → cellsOf v / 8 = totalCw v ∧ totalCw v ≤ 196 ∧ cellsOf v ≤ 1568 := by decide +kernel
end Go.Proofs.YtnpkihobbcglcaaGreatDoor
