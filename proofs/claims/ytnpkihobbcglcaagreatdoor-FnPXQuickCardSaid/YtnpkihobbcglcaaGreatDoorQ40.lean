/- Decoding 21: letters read. Decoding 22: bytes read. -/
import Derived.Test.YtnpkihobbcglcaaGreatDoorQ29
import Derived.Test.YtnpkihobbcglcaaGreatDoorQ39
set_option linter.unusedSimpArgs false
set_option linter.unusedVariables false

/- U21: Decoding 21: letters read. -/
namespace Go.Proofs.YtnpkihobbcglcaaGreatDoor
open Go Go.RowKit

def alTab : ByteArray := { data := #[48, 49, 50, 51, 52, 53, 54, 55, 56, 57, 65, 66, 67, 68, 69, 70, 71, 72, 73, 74, 75, 76, 77, 78, 79, 80, 81, 82, 83, 84, 85, 86, 87, 88, 89, 90, 32, 36, 37, 42, 43, 45, 46, 47, 58] }
theorem alTab_key : ∀ x, x < 45 → ((if h : x < alTab.size then (alTab[x]'h).toNat else 0) : Nat) = alphaChar x := by decide +kernel
theorem al_at (x : Nat) (hx : x < 45) (s : ByteArray) (hs : alTab = s) (h : x < s.size) : (s[x]'h).toNat = alphaChar x := by
  subst hs
  have h4 := alTab_key x hx
  rw [dif_pos h] at h4
  exact h4
theorem alphaCharAt (V : Nat) (w : World) (hV : V < 45) : Calls Tryz.prog 253 #[.int .i64 V] w fun e w' => e = .returned (.tuple #[.int .u8 (alphaChar V : Nat), .nilIface]) ∧ w = w' := by
  have d1 : decide ((45 : Int) ≤ V) = false := by simp; omega
  go_enter Tryz.func253, Tryz.ntmps253
  go_wp2
  go_ret2
  refine ⟨?_, rfl⟩
  refine congrArg (fun z : Nat => Ending.returned (Value.tuple #[.int .u8 (z : Int), .nilIface])) ?_
  exact al_at V hV _ rfl _

set_option maxRecDepth 100000 in
set_option maxHeartbeats 8000000 in
theorem decodeAlp (q s c D lo : Nat) (pre tl : List Bool) (xs ys : List Nat) (rv : Value) (w : World) (h : BSrc w q s c D (pre ++ (alpBits xs ++ tl)) pre.length) (hBB : (pre ++ (alpBits xs ++ tl)).length = 8 * D) (hD : D ≤ 1000) (hr : RB w lo rv ys) (hyl : ys.length ≤ 100) (hq : q < lo) (hs : s < lo) (hlo : lo ≤ w.heap.size)
    (hd : ∀ k, k < xs.length → alphaCode (xs.getD k 0) ≠ -1) (hxl : xs.length ≤ 60) :
    Calls Tryz.prog 225 #[.pointer (some ⟨q, 0, none⟩), rv, .int .i64 (xs.length : Nat), .bool false] w fun e w' => ∃ rv', e = .returned (.tuple #[rv', .nilIface]) ∧ RB w' lo rv' (ys ++ xs) ∧ BSrc w' q s c D (pre ++ (alpBits xs ++ tl)) (pre.length + (alpBits xs).length) ∧ Frm (SegF q lo) w w' := by
  have h2 := fun k hk => alp_two pre tl xs k hk
  have h1 := fun k hk => alp_one pre tl xs k hk
  have hnl := alp_len xs
  have hNb : pre.length + (alpBits xs).length ≤ 8 * D := by rw [← hBB, List.length_append, List.length_append]; omega
  generalize pre ++ (alpBits xs ++ tl) = BB at *
  generalize (alpBits xs).length = NL at *
  generalize pre.length = P0 at *
  have hrd := fun pos n wx hs2 hn1 hn2 hp => readBits q s c D pos n BB wx hs2 hBB hD hn1 hn2 hp
  have hlr : ∃ g cap, rv = .slice (some ⟨g, 0, none⟩) ys.length cap := by obtain ⟨g, cap, e, _⟩ := hr; exact ⟨g, cap, e⟩
  obtain ⟨rg, rcap, hrv⟩ := hlr
  generalize hn : xs.length = n at *
  have HD := Lib.hid hd
  have H2 := Lib.hid h2
  have H1 := Lib.hid h1
  have HRD := Lib.hid hrd
  have HN := Lib.hid hn
  have hnA : ∀ k, 2 * k + 1 < n → 11 * k + 11 ≤ NL := fun k hk => by rw [hnl]; omega
  have hnC : ∀ k, 2 * k + 1 = n → NL = 11 * k + 6 := fun k hk => by rw [hnl]; omega
  have hnD : ∀ k, 2 * k = n → NL = 11 * k := fun k hk => by rw [hnl]; omega
  have HNA := Lib.hid hnA
  have HNC := Lib.hid hnC
  have HND := Lib.hid hnD
  have HR0 := Lib.hid hr
  clear hd h2 h1 hrd hn hnl hnA hnC hnD hr
  subst hrv
  have hr := HR0.out
  clear HR0
  generalize hrl : ys.length = yl at *
  have HRL := Lib.hid hrl
  clear hrl
  go_enter Tryz.func225, Tryz.ntmps225
  go_wp2_with fail
  go_loopw [1, 2, 11, 12, 13] (fun rv nv _ _ _ wr => ∃ k : Nat, 2 * k ≤ n ∧ nv = .int .i64 (n - 2 * k : Nat) ∧ RB wr lo rv (ys ++ xs.take (2 * k)) ∧ BSrc wr q s c D BB (P0 + 11 * k) ∧ Frm (SegF q lo) w wr) (fun _ nv _ _ _ _ => (intOf nv).toNat)
  case atStart => exact ⟨0, by omega, rfl, by simpa using hr, h, Frm.refl _ _⟩
  case round =>
    clear h hr
    obtain ⟨k, hk, rfl, hr, hsrc, hf⟩ := hrel
    have hlw : lo ≤ wr.heap.size := Nat.le_trans hlo hf.size
    by_cases hk2 : 2 * k + 1 < n
    · have hd3 : decide ((1 : Int) < ((n - 2 * k : Nat) : Int)) = true := by simp; omega
      have hV := H2.out k hk2
      have x0 := HD.out (2 * k) (by omega)
      have x1 := HD.out (2 * k + 1) (by omega)
      have htk : xs.take (2 * (k + 1)) = xs.take (2 * k) ++ [xs.getD (2 * k) 0] ++ [xs.getD (2 * k + 1) 0] := by
        rw [show 2 * (k + 1) = 2 * k + 1 + 1 by omega, List.take_add_one, List.take_add_one]
        have hnx := HN.out
        rw [List.getElem?_eq_getElem (by omega), List.getElem?_eq_getElem (by omega), List.getD_eq_getElem?_getD, List.getElem?_eq_getElem (by omega), List.getD_eq_getElem?_getD, List.getElem?_eq_getElem (by omega)]
        rfl
      generalize xs.getD (2 * k) 0 = a at *
      generalize xs.getD (2 * k + 1) 0 = b at *
      have hlen : (xs.take (2 * k)).length = 2 * k := by rw [List.length_take, HN.out]; omega
      have hcall := HRD.out (P0 + 11 * k) 11 wr hsrc (by omega) (by omega) (by have := HNA.out k hk2; omega)
      rw [hV] at hcall
      simp only [Int.cast_ofNat_Int] at hcall
      have ra := alphaCode_rng a
      have rb := alphaCode_rng b
      have ca := alphaChar_code a x0
      have cb := alphaChar_code b x1
      generalize hA : (alphaCode a).toNat = A at *
      generalize hB : (alphaCode b).toNat = B at *
      have hAl : A < 45 := by omega
      have hBl : B < 45 := by omega
      clear ra rb hA hB x0 x1
      obtain ⟨V, hVV⟩ : ∃ V, A * 45 + B = V := ⟨_, rfl⟩
      rw [hVV] at hcall
      have y1 : (V : Int) / 45 = (A : Int) := by omega
      have y2 : (V : Int) % 45 = (B : Int) := by omega
      have vl : V < 2025 := by omega
      have hca := fun wx => alphaCharAt A wx hAl
      have hcb := fun wx => alphaCharAt B wx hBl
      rw [ca] at hca
      rw [cb] at hcb
      have HCA := Lib.hid hca
      have HCB := Lib.hid hcb
      have HTK := Lib.hid htk
      have HC := Lib.hid hcall
      have HR := Lib.hid hr
      have HF := Lib.hid hf
      have HLEN := Lib.hid hlen
      clear hV htk hVV hcall hr hf hsrc hlen hca hcb ca cb
      go_wp2_with fail
      with_reducible refine HC.out.mono ?_
      rintro _ w2 ⟨rfl, hs2, hf2⟩
      have hr2 := HR.out.frm hf2 (fun k hk => by omega)
      have HF2 := Lib.hid (segTrans HF.out hf2)
      have hl2 : lo ≤ w2.heap.size := Nat.le_trans hlw hf2.size
      obtain ⟨v3, w3, hrun3, hr3, hf3⟩ := hr2.push hl2 _ a rfl (by rw [List.length_append, HLEN.out, HRL.out]; omega)
      have hs3 := hs2.push hf3 hq hs
      have HRUN3 := Lib.hid hrun3
      have HF3 := Lib.hid (segPush HF2.out hf3)
      have hl3 : lo ≤ w3.heap.size := Nat.le_trans hl2 hf3.size
      obtain ⟨v4, w4, hrun4, hr4, hf4⟩ := hr3.push hl3 _ b rfl (by simp [HLEN.out, HRL.out]; omega)
      have hs4 := hs3.push hf4 hq hs
      have HRUN4 := Lib.hid hrun4
      have HF4 := Lib.hid (segPush HF3.out hf4)
      have HR4 := Lib.hid hr4
      have HS4 := Lib.hid hs4
      clear hs2 hf2 hr2 HF2 hrun3 hr3 hf3 hs3 HF3 hrun4 hr4 hf4 hs4 HR HF HC
      dsimp only
      go_wp2_with fail
      with_reducible refine (HCA.out _).mono ?_
      rintro _ _ ⟨rfl, rfl⟩
      dsimp only
      go_wp2_with (at_builtin; refine wpList_append_run rfl (.tmp 43) (.tmp 45) 32 32 rfl _ _ rfl rfl _ _ HRUN3.out ?_)
      with_reducible refine (HCB.out _).mono ?_
      rintro _ _ ⟨rfl, rfl⟩
      dsimp only
      go_wp2_with (at_builtin; refine wpList_append_run rfl (.tmp 53) (.tmp 55) 32 32 rfl _ _ rfl rfl _ _ HRUN4.out ?_)
      exact ⟨⟨k + 1, by omega, congrArg (Value.int .i64) (by omega), by rw [HTK.out, ← List.append_assoc, ← List.append_assoc]; exact HR4.out, by rw [show P0 + 11 * (k + 1) = P0 + 11 * k + 11 by omega]; exact HS4.out, HF4.out⟩, by simp [intOf]; omega⟩
    · have hd3 : decide ((1 : Int) < ((n - 2 * k : Nat) : Int)) = false := by simp; omega
      have hrem : n - 2 * k = 0 ∨ n - 2 * k = 1 := by omega
      have hlen : (xs.take (2 * k)).length = 2 * k := by rw [List.length_take, HN.out]; omega
      have HLEN := Lib.hid hlen
      have HR := Lib.hid hr
      have HF := Lib.hid hf
      clear hr hf hlen
      rcases hrem with h0 | h0
      · rw [h0] at hd3 ⊢
        have hnk : 2 * k = n := by omega
        have hr := HR.out
        rw [List.take_of_length_le (by rw [HN.out]; omega)] at hr
        have hnl := HND.out k hnk
        have HR2 := Lib.hid hr
        have HS := Lib.hid hsrc
        have HNL2 := Lib.hid hnl
        clear hr hsrc h0 hnk hnl
        go_wp2
        go_ret2
        exact ⟨_, rfl, HR2.out, by rw [HNL2.out]; exact HS.out, HF.out⟩
      · rw [h0] at hd3 ⊢
        have hnk : 2 * k + 1 = n := by omega
        have hnl := HNC.out k hnk
        have hV := H1.out k hnk
        have x0 := HD.out (2 * k) (by omega)
        have htk : xs = xs.take (2 * k) ++ [xs.getD (2 * k) 0] := by
          have hnx := HN.out
          have := List.take_add_one (l := xs) (i := 2 * k)
          rw [List.take_of_length_le (by omega), List.getElem?_eq_getElem (by omega)] at this
          rw [List.getD_eq_getElem?_getD, List.getElem?_eq_getElem (by omega)]
          exact this
        generalize xs.getD (2 * k) 0 = a at *
        have hcall := HRD.out (P0 + 11 * k) 6 wr hsrc (by omega) (by omega) (by omega)
        rw [hV] at hcall
        simp only [Int.cast_ofNat_Int] at hcall
        have ra := alphaCode_rng a
        have ca := alphaChar_code a x0
        generalize hA : (alphaCode a).toNat = A at *
        have hAl : A < 45 := by omega
        clear ra hA x0
        have hca := fun wx => alphaCharAt A wx hAl
        rw [ca] at hca
        have HCA := Lib.hid hca
        have HTK := Lib.hid htk
        have HC := Lib.hid hcall
        have HNL2 := Lib.hid hnl
        clear hV htk hcall hsrc h0 hnk hnl hca ca
        go_wp2_with fail
        with_reducible refine HC.out.mono ?_
        rintro _ w2 ⟨rfl, hs2, hf2⟩
        have hr2 := HR.out.frm hf2 (fun k hk => by omega)
        have HF2 := Lib.hid (segTrans HF.out hf2)
        have hl2 : lo ≤ w2.heap.size := Nat.le_trans hlw hf2.size
        obtain ⟨v3, w3, hrun3, hr3, hf3⟩ := hr2.push hl2 _ a rfl (by rw [List.length_append, HLEN.out, HRL.out]; omega)
        have hs3 := hs2.push hf3 hq hs
        have HRUN3 := Lib.hid hrun3
        have HF3 := Lib.hid (segPush HF2.out hf3)
        have HR3 := Lib.hid hr3
        have HS3 := Lib.hid hs3
        clear hs2 hf2 hr2 HF2 hrun3 hr3 hf3 hs3 HR HF HC
        dsimp only
        go_wp2_with fail
        with_reducible refine (HCA.out _).mono ?_
        rintro _ _ ⟨rfl, rfl⟩
        dsimp only
        go_wp2_with (at_builtin; refine wpList_append_run rfl (.tmp 81) (.tmp 83) 32 32 rfl _ _ rfl rfl _ _ HRUN3.out ?_)
        go_ret2
        exact ⟨_, rfl, by rw [HTK.out, ← List.append_assoc]; exact HR3.out, by rw [HNL2.out, ← Nat.add_assoc]; exact HS3.out, HF3.out⟩
end Go.Proofs.YtnpkihobbcglcaaGreatDoor

/- U22: Decoding 22: bytes read. -/
namespace Go.Proofs.YtnpkihobbcglcaaGreatDoor
open Go Go.RowKit

theorem Row.apart {w : World} {e e' : TypeId} {g g' n n' cap cap' : Nat} {xs xs' : List Value} (h : Row w e g n cap xs) (k : Row w e' g' n' cap' xs') (he : e ≠ e') : g ≠ g' := by
  rintro rfl
  obtain ⟨c1, h1, _⟩ := h.cells
  obtain ⟨c2, h2, _⟩ := k.cells
  have h3 := Option.some.inj (h1.symm.trans h2)
  injection h3 with h3 h4
  exact he h4
/-- The segments of bytes so far. -/
def Segs (w : World) (lo : Nat) (v : Value) (L : List (List Nat)) : Prop := ∃ g cap vs, v = .slice (some ⟨g, 0, none⟩) L.length cap ∧ Row w 32 g L.length cap vs ∧ lo ≤ g ∧ ∀ (j : Nat) (xs : List Nat), L[j]? = some xs → ∃ b, vs[j]? = some (Value.slice (some ⟨b, 0, none⟩) xs.length xs.length) ∧ Nats w b .u8 5 xs ∧ lo ≤ b
theorem Segs.frm {S : Nat → Prop} {w w' : World} {lo : Nat} {v : Value} {L : List (List Nat)} (h : Segs w lo v L) (hf : Frm S w w') (hs : ∀ k, S k → k < lo) : Segs w' lo v L := by
  obtain ⟨g, cap, vs, h1, h2, h3, h4⟩ := h
  refine ⟨g, cap, vs, h1, h2.frm hf (fun hg => by have := hs g hg; omega), h3, fun j xs hj => ?_⟩
  obtain ⟨b, h5, h6, h7⟩ := h4 j xs hj
  exact ⟨b, h5, h6.frm hf (fun hb => by have := hs b hb; omega), h7⟩

set_option maxRecDepth 100000 in
set_option maxHeartbeats 8000000 in
theorem decodeByt (q s c D lo : Nat) (pre tl : List Bool) (xs ys : List Nat) (rv sv v3 v5 : Value) (w : World) (h : BSrc w q s c D (pre ++ (bytBits xs ++ tl)) pre.length) (hBB : (pre ++ (bytBits xs ++ tl)).length = 8 * D) (hD : D ≤ 1000) (hr : RB w lo rv ys) (hyl : ys.length ≤ 100) (hsg : Segs w lo sv []) (hq : q < lo) (hs : s < lo) (hlo : lo ≤ w.heap.size)
    (hd : ∀ k, k < xs.length → xs.getD k 0 < 256) (hx1 : 1 ≤ xs.length) (hxl : xs.length ≤ 60) :
    Calls Tryz.prog 226 #[.pointer (some ⟨q, 0, none⟩), rv, .int .i64 (xs.length : Nat), v3, sv, v5] w fun e w' => ∃ rv' sv', e = .returned (.tuple #[rv', sv', .nilIface]) ∧ RB w' lo rv' (ys ++ xs) ∧ Segs w' lo sv' [xs] ∧ BSrc w' q s c D (pre ++ (bytBits xs ++ tl)) (pre.length + (bytBits xs).length) ∧ Frm (SegF q lo) w w' := by
  have h1 := fun k hk => byt_one pre tl xs k hk
  have hnl := bytBits_len xs
  have hNb : pre.length + (bytBits xs).length ≤ 8 * D := by rw [← hBB, List.length_append, List.length_append]; omega
  generalize pre ++ (bytBits xs ++ tl) = BB at *
  generalize (bytBits xs).length = NL at *
  generalize pre.length = P0 at *
  have hrd := fun pos wx hs2 hp => readBits q s c D pos 8 BB wx hs2 hBB hD (by omega) (by omega) hp
  simp only [Int.cast_ofNat_Int] at hrd
  have hav := available q s c D P0 BB w h hD (by omega)
  generalize hn : xs.length = n at *
  subst hnl
  have d1 : decide (((8 * D - P0 : Nat) : Int) < 8 * (n : Int)) = false := by simp; omega
  have HAV := Lib.hid hav
  have HD := Lib.hid hd
  have H1 := Lib.hid h1
  have HRD := Lib.hid hrd
  have HN := Lib.hid hn
  have HR := Lib.hid hr
  have HSG := Lib.hid hsg
  have HS := Lib.hid h
  clear hav hd h1 hrd hn hr hsg h
  go_enter Tryz.func226, Tryz.ntmps226
  go_wp2_with fail
  with_reducible refine HAV.out.mono ?_
  rintro _ w1 ⟨rfl, k1⟩
  have hmk := run_make_ints 32 5 .u8 1 (by kernel_rfl) info5 n (by omega) (by omega) w1
  have hz := Nats.new w1 .u8 5 (List.replicate n 0)
  have kz : Kept w1 (w1.alloc (.cells (natCells .u8 (List.replicate n 0)) 5)) := (Frm.refl _ _).alloc _
  have HK1 := Lib.hid k1
  clear k1 HAV
  dsimp only
  go_wp2_with fail
  have hzl : (List.replicate n 0).length = n := List.length_replicate
  generalize (List.replicate n 0) = zs at *
  generalize w1.alloc (.cells (natCells .u8 zs) 5) = wz at *
  generalize hb : w1.heap.size = rb at *
  have KZ := Lib.hid (HK1.out.trans kz)
  have hrb : lo ≤ rb := by rw [← hb]; exact Nat.le_trans hlo HK1.out.size
  have HRBW := Lib.hid (show w.heap.size ≤ rb by rw [← hb]; exact HK1.out.size)
  have HZ := Lib.hid hz
  have HSZ := Lib.hid (HS.out.kept KZ.out)
  have hqb : q ≠ rb := by omega
  have hsb : s ≠ rb := by omega
  clear hmk hz kz hb HK1 HS
  go_loopw [16, 17, 18] (fun iv _ _ wr => ∃ (i : Nat) (zs : List Nat), i ≤ n ∧ iv = .int .i64 i ∧ Nats wr rb .u8 5 zs ∧ zs.length = n ∧ (∀ t, t < i → zs.getD t 0 = xs.getD t 0) ∧ BSrc wr q s c D BB (P0 + 8 * i) ∧ Frm (fun k => k = q ∨ k = rb) wz wr) (fun iv _ _ _ => n - (intOf iv).toNat)
  case atStart => exact ⟨0, zs, Nat.zero_le _, rfl, HZ.out, hzl, fun t ht => absurd ht (by omega), HSZ.out, Frm.refl _ _⟩
  case round =>
    clear HZ HSZ hzl zs
    obtain ⟨i, zs, hi, rfl, hz, hzl, hfil, hsrc, hf⟩ := hrel
    by_cases hin : i < n
    · have hdd : decide ((i : Int) < n) = true := by simp; omega
      have hv := HD.out i hin
      have hval := H1.out i hin hv
      have hcall := HRD.out (P0 + 8 * i) wr hsrc (by omega)
      rw [hval] at hcall
      have hfil2 : ∀ t, t < i + 1 → (zs.set i (xs.getD i 0)).getD t 0 = xs.getD t 0 := fun t ht => by
        by_cases e : t = i
        · subst e; rw [List.getD_eq_getElem?_getD, List.getElem?_set_self (by omega)]; rfl
        · rw [List.getD_eq_getElem?_getD, List.getElem?_set_ne (Ne.symm e), ← List.getD_eq_getElem?_getD]; exact hfil t (by omega)
      have hsl : (zs.set i (xs.getD i 0)).length = n := by rw [List.length_set]; exact hzl
      have HFIL := Lib.hid hfil2
      have HSL := Lib.hid hsl
      have HC := Lib.hid hcall
      have HZ := Lib.hid hz
      have HF := Lib.hid hf
      have HZL := Lib.hid hzl
      clear hval hcall hfil2 hsl hz hf hfil hsrc hzl
      go_wp2_with fail
      with_reducible refine HC.out.mono ?_
      rintro _ w2 ⟨rfl, hs2, hf2⟩
      have hz2 := HZ.out.frm hf2 (fun e => hqb e.symm)
      have cz := hz2.cell i (by rw [HZL.out]; exact hin)
      have fz := hz2.free i
      have hset := hz2.set i (xs.getD i 0)
      have hfs : Frm (fun k => k = rb) w2 (w2.setCell ⟨rb, i, none⟩ (.int .u8 ((xs.getD i 0 : Nat) : Int))) := (Frm.refl (fun k => k = rb) w2).setCell (p := ⟨rb, i, none⟩) (.inl rfl) _
      have hs3 := hs2.frm hfs hqb hsb
      have HS3 := Lib.hid hs3
      have HSET := Lib.hid hset
      have HF3 := Lib.hid ((HF.out.trans (hf2.mono (fun _ _ e => .inl e))).trans (hfs.mono (S' := fun k => k = q ∨ k = rb) (fun _ _ e => .inr e)))
      generalize zs.getD i 0 = old at cz
      generalize xs.getD i 0 = xv at *
      clear hs2 hf2 hz2 hset hfs hs3 HC HZ HF
      dsimp only
      go_wp2
      exact ⟨⟨i + 1, _, by omega, by go_num, HSET.out, HSL.out, HFIL.out, by rw [show P0 + 8 * (i + 1) = P0 + 8 * i + 8 by omega]; exact HS3.out, HF3.out⟩, by simp [intOf]; omega⟩
    · obtain rfl : i = n := by omega
      have hdd : decide ((i : Int) < i) = false := by simp
      have hzx : zs = xs := list_same zs xs (by rw [hzl, HN.out]) (fun t ht => hfil t (by rw [← HN.out]; exact ht))
      subst hzx
      obtain ⟨rg, rcap, rfl, hrow, hrlo⟩ := HR.out
      obtain ⟨sg, scap, svs, rfl, hsrow, hslo, _⟩ := HSG.out
      have hsv0 : svs = [] := List.eq_nil_of_length_eq_zero hsrow.len
      subst hsv0
      have hrg : rg < rb := Nat.lt_of_lt_of_le hrow.lt HRBW.out
      have hsgb : sg < rb := Nat.lt_of_lt_of_le hsrow.lt HRBW.out
      have hne : rg ≠ sg := hrow.apart hsrow (by decide)
      have hrw := (hrow.kept KZ.out).frm hf (by omega)
      have hsw := (hsrow.kept KZ.out).frm hf (by omega)
      have hfw : Frm (SegF q lo) w wr := (KZ.out.mono (fun _ _ e => e.elim)).trans (hf.mono (fun k _ e => by rcases e with e | e; exact .inl e; exact .inr (by omega)))
      have hlr : lo ≤ wr.heap.size := Nat.le_trans hlo hfw.size
      have hzl2 : zs.length ≤ 60 := by omega
      obtain ⟨g1, c1, w1, hrun1, hrow1, hf1, hg1⟩ := run_append_row 32 32 5 (.int .u8 0) 1 (by kernel_rfl) info5 rfl hrw ⟨rb, 0, none⟩ i i (natVals .u8 zs) (by rw [← hzl]; simp [natVals]) (by omega) (fun j u hu => by rw [addr_add]; exact hz.vals j u hu) (natVals_one .u8 zs) (by unfold maxLen; omega) (by omega)
      have hsw1 := hsw.frm hf1 (fun e => hne e.symm)
      have hz1 := hz.frm hf1 (by omega)
      have hs1 := hsrc.frm hf1 (by omega) (by omega)
      have hl1 : lo ≤ w1.heap.size := Nat.le_trans hlr hf1.size
      obtain ⟨g2, c2, w2, hrun2, hrow2, hf2, hg2⟩ := run_append_row1 33 33 32 (.slice none 0 0) 24 (by kernel_rfl) info32 rfl hsw1 (.slice (some ⟨rb, 0, none⟩) i i) rfl (by unfold maxLen; simp) (by simp)
      have hrbw : rb < wr.heap.size := hz.lt
      have hrow3 := hrow1.frm hf2 (fun (e : g1 = sg) => by omega)
      have hz3 := hz1.frm hf2 (fun (e : rb = sg) => by omega)
      have hs3 := hs1.frm hf2 (fun (e : q = sg) => by omega) (fun (e : s = sg) => by omega)
      have HRUN1 := Lib.hid hrun1
      have HRUN2 := Lib.hid hrun2
      have HFIN := Lib.hid ((hfw.trans (hf1.mono (S' := SegF q lo) (fun k _ (e : k = rg) => .inr (by omega)))).trans (hf2.mono (fun k _ (e : k = sg) => .inr (by omega))))
      have HRB : RowKit.Hid (RB w2 lo (.slice (some ⟨g1, 0, none⟩) ((ys.length + i : Nat) : Nat) c1) (ys ++ zs)) := Lib.hid ⟨g1, c1, by rw [List.length_append, hzl], by rw [List.length_append, hzl, show natVals .u8 (ys ++ zs) = natVals .u8 ys ++ natVals .u8 zs by simp [natVals]]; exact hrow3, by omega⟩
      have HSEG : RowKit.Hid (Segs w2 lo (.slice (some ⟨g2, 0, none⟩) 1 c2) [zs]) := Lib.hid ⟨g2, c2, _, rfl, hrow2, by omega, fun j xs hj => by
        match j with
        | 0 => simp at hj; subst hj; exact ⟨rb, by rw [hzl]; rfl, hz3, by omega⟩
        | j + 1 => simp at hj⟩
      have HS4 := Lib.hid hs3
      go_wp2_with (at_builtin; first
        | refine wpList_append_run rfl (.tmp 49) (.tmp 50) 32 32 rfl _ _ rfl rfl _ _ HRUN1.out ?_
        | refine wpList_append_run rfl (.tmp 52) (.tmp 54) 33 33 rfl _ _ rfl rfl _ _ HRUN2.out ?_)
      refine bodyPost_ret (results_tmp3 rfl _ _ _) rfl ?_
      exact ⟨_, _, rfl, HRB.out, HSEG.out, HS4.out, HFIN.out⟩
end Go.Proofs.YtnpkihobbcglcaaGreatDoor
