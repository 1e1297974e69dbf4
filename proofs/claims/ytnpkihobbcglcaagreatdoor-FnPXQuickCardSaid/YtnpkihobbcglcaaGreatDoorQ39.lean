/- Decoding 20: the text's bytes so far; digits read. Plain: what is laid as words comes back as the blocks. Decoding 25: small helpers of decode. -/
import Derived.Test.YtnpkihobbcglcaaGreatDoorQ24
import Derived.Test.YtnpkihobbcglcaaGreatDoorQ38
set_option linter.unusedSimpArgs false
set_option linter.unusedVariables false

/- U20: Decoding 20: the text's bytes so far; digits read. -/
namespace Go.Proofs.YtnpkihobbcglcaaGreatDoor
open Go Go.RowKit

/-- The bytes of the text so far: a slice that grows, behind lo. -/
def RB (w : World) (lo : Nat) (v : Value) (ys : List Nat) : Prop := ∃ g cap, v = .slice (some ⟨g, 0, none⟩) ys.length cap ∧ Row w 5 g ys.length cap (natVals .u8 ys) ∧ lo ≤ g
theorem RB.frm {S : Nat → Prop} {w w' : World} {lo : Nat} {v : Value} {ys : List Nat} (h : RB w lo v ys) (hf : Frm S w w') (hs : ∀ k, S k → k < lo) : RB w' lo v ys := by
  obtain ⟨g, cap, h1, h2, h3⟩ := h
  exact ⟨g, cap, h1, h2.frm hf (fun hg => by have := hs g hg; omega), h3⟩
theorem RB.push {w : World} {lo : Nat} {v : Value} {ys : List Nat} (h : RB w lo v ys) (hlo : lo ≤ w.heap.size) (X : Int) (b : Nat) (hX : X = b) (hl : ys.length ≤ 1000) :
    ∃ v' w', (Builtin.append_ #[32, 32] 32 #[v, .slice (some ⟨w.heap.size, 0, none⟩) 1 1]).run Tryz.prog (w.alloc (.cells #[.int .u8 X] 5)) = .ok v' w' ∧ RB w' lo v' (ys ++ [b]) ∧
      Frm (fun k => lo ≤ k) w w' := by
  subst hX
  obtain ⟨g, cap, rfl, h2, h3⟩ := h
  have hlen : (ys ++ [b]).length = ys.length + 1 := by simp
  obtain ⟨g', cap', w', hr, hrow, hf, hg'⟩ := run_append_row1 32 32 5 (.int .u8 0) 1 (by kernel_rfl) info5 rfl h2 (.int .u8 b) rfl (by unfold maxLen; omega) (by omega)
  refine ⟨_, w', hr, ⟨g', cap', by rw [hlen], by rw [hlen]; simpa [natVals] using hrow, by omega⟩, hf.mono (fun k _ e => by omega)⟩

/-- What a segment's reader may turn: the source's object, what lies behind lo. -/
def SegF (q lo : Nat) : Nat → Prop := fun k => k = q ∨ lo ≤ k
theorem segTrans {q lo : Nat} {a b c : World} (h : Frm (SegF q lo) a b) (k : Frm (fun x => x = q) b c) : Frm (SegF q lo) a c := h.trans (k.mono (fun _ _ e => .inl e))
theorem segPush {q lo : Nat} {a b c : World} (h : Frm (SegF q lo) a b) (k : Frm (fun x => lo ≤ x) b c) : Frm (SegF q lo) a c := h.trans (k.mono (fun _ _ e => .inr e))
theorem BSrc.push {w w' : World} {q s c D lo : Nat} {BB : List Bool} {pos : Nat} (h : BSrc w q s c D BB pos) (hf : Frm (fun k => lo ≤ k) w w') (hq : q < lo) (hs : s < lo) : BSrc w' q s c D BB pos := h.frm hf (by omega) (by omega)

set_option maxRecDepth 100000 in
set_option maxHeartbeats 8000000 in
theorem decodeNum (q s c D lo : Nat) (pre tl : List Bool) (xs ys : List Nat) (rv : Value) (w : World) (h : BSrc w q s c D (pre ++ (numBits xs ++ tl)) pre.length) (hBB : (pre ++ (numBits xs ++ tl)).length = 8 * D) (hD : D ≤ 1000) (hr : RB w lo rv ys) (hyl : ys.length ≤ 100) (hq : q < lo) (hs : s < lo) (hlo : lo ≤ w.heap.size)
    (hd : ∀ k, k < xs.length → IsDigit (xs.getD k 0)) (hxl : xs.length ≤ 60) :
    Calls Tryz.prog 224 #[.pointer (some ⟨q, 0, none⟩), rv, .int .i64 (xs.length : Nat)] w fun e w' => ∃ rv', e = .returned (.tuple #[rv', .nilIface]) ∧ RB w' lo rv' (ys ++ xs) ∧ BSrc w' q s c D (pre ++ (numBits xs ++ tl)) (pre.length + (numBits xs).length) ∧ Frm (SegF q lo) w w' := by
  have h3 := fun k hk => num_three pre tl xs k hk hd
  have h2 := fun k hk => num_two pre tl xs k hk hd
  have h1 := fun k hk => num_one pre tl xs k hk hd
  have hnl := num_len xs
  have hNb : pre.length + (numBits xs).length ≤ 8 * D := by rw [← hBB, List.length_append, List.length_append]; omega
  generalize pre ++ (numBits xs ++ tl) = BB at *
  generalize (numBits xs).length = NL at *
  generalize pre.length = P0 at *
  have hrd := fun pos n wx hs2 hn1 hn2 hp => readBits q s c D pos n BB wx hs2 hBB hD hn1 hn2 hp
  generalize hn : xs.length = n at *
  have HD := Lib.hid hd
  have H3 := Lib.hid h3
  have H2 := Lib.hid h2
  have H1 := Lib.hid h1
  have HRD := Lib.hid hrd
  have HN := Lib.hid hn
  have hnA : ∀ k, 3 * k + 2 < n → 10 * k + 10 ≤ NL := fun k hk => by rw [hnl]; split <;> (try split) <;> omega
  have hnB : ∀ k, 3 * k + 2 = n → NL = 10 * k + 7 := fun k hk => by rw [hnl, if_pos (by omega)]; omega
  have hnC : ∀ k, 3 * k + 1 = n → NL = 10 * k + 4 := fun k hk => by rw [hnl, if_neg (by omega), if_pos (by omega)]; omega
  have hnD : ∀ k, 3 * k = n → NL = 10 * k := fun k hk => by rw [hnl, if_neg (by omega), if_neg (by omega)]; omega
  have HNA := Lib.hid hnA
  have HNB := Lib.hid hnB
  have HNC := Lib.hid hnC
  have HND := Lib.hid hnD
  clear hd h3 h2 h1 hrd hn hnl hnA hnB hnC hnD
  go_enter Tryz.func224, Tryz.ntmps224
  go_wp2_with fail
  go_loopw [1, 2, 8, 9] (fun rv nv _ _ wr => ∃ k : Nat, 3 * k ≤ n ∧ nv = .int .i64 (n - 3 * k : Nat) ∧ RB wr lo rv (ys ++ xs.take (3 * k)) ∧ BSrc wr q s c D BB (P0 + 10 * k) ∧ Frm (SegF q lo) w wr) (fun _ nv _ _ _ => (intOf nv).toNat)
  case atStart => exact ⟨0, by omega, rfl, by simpa using hr, h, Frm.refl _ _⟩
  case round =>
    clear h hr
    obtain ⟨k, hk, rfl, hr, hsrc, hf⟩ := hrel
    have hlw : lo ≤ wr.heap.size := Nat.le_trans hlo hf.size
    by_cases hk3 : 3 * k + 2 < n
    · have hd3 : decide ((3 : Int) ≤ ((n - 3 * k : Nat) : Int)) = true := by simp; omega
      have hV := H3.out k hk3
      have x0 := HD.out (3 * k) (by omega)
      have x1 := HD.out (3 * k + 1) (by omega)
      have x2 := HD.out (3 * k + 2) (by omega)
      unfold IsDigit at x0 x1 x2
      have htk : xs.take (3 * (k + 1)) = xs.take (3 * k) ++ [xs.getD (3 * k) 0] ++ [xs.getD (3 * k + 1) 0] ++ [xs.getD (3 * k + 2) 0] := by
        rw [show 3 * (k + 1) = 3 * k + 1 + 1 + 1 by omega, List.take_add_one, List.take_add_one, List.take_add_one]
        have hnx := HN.out
        rw [List.getElem?_eq_getElem (by omega), List.getElem?_eq_getElem (by omega), List.getElem?_eq_getElem (by omega), List.getD_eq_getElem?_getD, List.getElem?_eq_getElem (by omega), List.getD_eq_getElem?_getD, List.getElem?_eq_getElem (by omega), List.getD_eq_getElem?_getD, List.getElem?_eq_getElem (by omega)]
        rfl
      generalize xs.getD (3 * k) 0 = a at *
      generalize xs.getD (3 * k + 1) 0 = b at *
      generalize xs.getD (3 * k + 2) 0 = e at *
      have hlen : (xs.take (3 * k)).length = 3 * k := by rw [List.length_take, HN.out]; omega
      have hcall := HRD.out (P0 + 10 * k) 10 wr hsrc (by omega) (by omega) (by have := HNA.out k hk3; omega)
      rw [hV] at hcall
      obtain ⟨V, hVV⟩ : ∃ V, (a - 48) * 100 + (b - 48) * 10 + (e - 48) = V := ⟨_, rfl⟩
      rw [hVV] at hcall
      simp only [Int.cast_ofNat_Int] at hcall
      have y1 : 48 + (V : Int) / 100 = (a : Int) := by omega
      have y2 : 48 + (V : Int) / 10 % 10 = (b : Int) := by omega
      have y3 : 48 + (V : Int) % 10 = (e : Int) := by omega
      have vl : V < 1000 := by omega
      have HV1 := Lib.hid y1
      have HV2 := Lib.hid y2
      have HV3 := Lib.hid y3
      have HTK := Lib.hid htk
      have HC := Lib.hid hcall
      have HR := Lib.hid hr
      have HF := Lib.hid hf
      have HLEN := Lib.hid hlen
      clear hV htk hVV y1 y2 y3 hcall hr hf hsrc hlen
      have dV : decide ((1000 : Int) ≤ V) = false := by simp; omega
      go_wp2_with fail
      with_reducible refine HC.out.mono ?_
      rintro _ w2 ⟨rfl, hs2, hf2⟩
      have hr2 := HR.out.frm hf2 (fun k hk => by omega)
      have HF2 := Lib.hid (segTrans HF.out hf2)
      have hl2 : lo ≤ w2.heap.size := Nat.le_trans hlw hf2.size
      obtain ⟨v3, w3, hrun3, hr3, hf3⟩ := hr2.push hl2 _ a HV1.out (by rw [List.length_append, HLEN.out]; omega)
      have hs3 := hs2.push hf3 hq hs
      have HRUN3 := Lib.hid hrun3
      have HF3 := Lib.hid (segPush HF2.out hf3)
      have hl3 : lo ≤ w3.heap.size := Nat.le_trans hl2 hf3.size
      obtain ⟨v4, w4, hrun4, hr4, hf4⟩ := hr3.push hl3 _ b HV2.out (by simp [HLEN.out]; omega)
      have hs4 := hs3.push hf4 hq hs
      have HRUN4 := Lib.hid hrun4
      have HF4 := Lib.hid (segPush HF3.out hf4)
      have hl4 : lo ≤ w4.heap.size := Nat.le_trans hl3 hf4.size
      obtain ⟨v5, w5, hrun5, hr5, hf5⟩ := hr4.push hl4 _ e HV3.out (by simp [HLEN.out]; omega)
      have hs5 := hs4.push hf5 hq hs
      have HRUN5 := Lib.hid hrun5
      have HF5 := Lib.hid (segPush HF4.out hf5)
      have HR5 := Lib.hid hr5
      have HS5 := Lib.hid hs5
      clear hs2 hf2 hr2 HF2 hrun3 hr3 hf3 hs3 HF3 hrun4 hr4 hf4 hs4 HF4 hrun5 hr5 hf5 hs5 HR HF HC
      dsimp only
      go_wp2_with (at_builtin; first
        | refine wpList_append_run rfl (.tmp 34) (.tmp 39) 32 32 rfl _ _ rfl rfl _ _ HRUN3.out ?_
        | refine wpList_append_run rfl (.tmp 41) (.tmp 47) 32 32 rfl _ _ rfl rfl _ _ HRUN4.out ?_
        | refine wpList_append_run rfl (.tmp 49) (.tmp 54) 32 32 rfl _ _ rfl rfl _ _ HRUN5.out ?_)
      exact ⟨⟨k + 1, by omega, congrArg (Value.int .i64) (by omega), by rw [HTK.out, ← List.append_assoc, ← List.append_assoc, ← List.append_assoc]; exact HR5.out, by rw [show P0 + 10 * (k + 1) = P0 + 10 * k + 10 by omega]; exact HS5.out, HF5.out⟩, by simp [intOf]; omega⟩
    · have hd3 : decide ((3 : Int) ≤ ((n - 3 * k : Nat) : Int)) = false := by simp; omega
      have hrem : n - 3 * k = 0 ∨ n - 3 * k = 1 ∨ n - 3 * k = 2 := by omega
      have hlen : (xs.take (3 * k)).length = 3 * k := by rw [List.length_take, HN.out]; omega
      have HLEN := Lib.hid hlen
      have HR := Lib.hid hr
      have HF := Lib.hid hf
      clear hr hf hlen
      rcases hrem with h0 | h0 | h0
      · rw [h0] at hd3 ⊢
        have hnk : 3 * k = n := by omega
        have hr := HR.out
        rw [List.take_of_length_le (by rw [HN.out]; omega)] at hr
        have hnl := HND.out k hnk
        have HR2 := Lib.hid hr
        have HS := Lib.hid hsrc
        have HNL2 := Lib.hid hnl
        clear hr hsrc h0 hnk hnl
        go_wp2
        go_ret2
        exact ⟨_, rfl, HR2.out, by rw [HNL2.out]; exact HS.out, HF.out⟩
      · rw [h0] at hd3 ⊢
        have hnk : 3 * k + 1 = n := by omega
        have hnl := HNC.out k hnk
        have hV := H1.out k hnk
        have x0 := HD.out (3 * k) (by omega)
        unfold IsDigit at x0
        have htk : xs = xs.take (3 * k) ++ [xs.getD (3 * k) 0] := by
          have hnx := HN.out
          have := List.take_add_one (l := xs) (i := 3 * k)
          rw [List.take_of_length_le (by omega), List.getElem?_eq_getElem (by omega)] at this
          rw [List.getD_eq_getElem?_getD, List.getElem?_eq_getElem (by omega)]
          exact this
        generalize xs.getD (3 * k) 0 = a at *
        have hcall := HRD.out (P0 + 10 * k) 4 wr hsrc (by omega) (by omega) (by omega)
        rw [hV] at hcall
        simp only [Int.cast_ofNat_Int] at hcall
        obtain ⟨V, hVV⟩ : ∃ V, a - 48 = V := ⟨_, rfl⟩
        rw [hVV] at hcall
        have y1 : 48 + (V : Int) = (a : Int) := by omega
        have vl : V < 10 := by omega
        have dV : decide ((10 : Int) ≤ V) = false := by simp; omega
        have HV1 := Lib.hid y1
        have HTK := Lib.hid htk
        have HC := Lib.hid hcall
        have HNL2 := Lib.hid hnl
        clear hV htk hVV y1 hcall hsrc h0 hnk hnl
        go_wp2_with fail
        with_reducible refine HC.out.mono ?_
        rintro _ w2 ⟨rfl, hs2, hf2⟩
        have hr2 := HR.out.frm hf2 (fun k hk => by omega)
        have HF2 := Lib.hid (segTrans HF.out hf2)
        have hl2 : lo ≤ w2.heap.size := Nat.le_trans hlw hf2.size
        obtain ⟨v3, w3, hrun3, hr3, hf3⟩ := hr2.push hl2 _ a HV1.out (by rw [List.length_append, HLEN.out]; omega)
        have hs3 := hs2.push hf3 hq hs
        have HRUN3 := Lib.hid hrun3
        have HF3 := Lib.hid (segPush HF2.out hf3)
        have HR3 := Lib.hid hr3
        have HS3 := Lib.hid hs3
        clear hs2 hf2 hr2 HF2 hrun3 hr3 hf3 hs3 HR HF HC
        dsimp only
        go_wp2_with (at_builtin; refine wpList_append_run rfl (.tmp 112) (.tmp 116) 32 32 rfl _ _ rfl rfl _ _ HRUN3.out ?_)
        go_ret2
        exact ⟨_, rfl, by rw [HTK.out, ← List.append_assoc]; exact HR3.out, by rw [HNL2.out, ← Nat.add_assoc]; exact HS3.out, HF3.out⟩
      · rw [h0] at hd3 ⊢
        have hnk : 3 * k + 2 = n := by omega
        have hnl := HNB.out k hnk
        have hV := H2.out k hnk
        have x0 := HD.out (3 * k) (by omega)
        have x1 := HD.out (3 * k + 1) (by omega)
        unfold IsDigit at x0 x1
        have htk : xs = xs.take (3 * k) ++ [xs.getD (3 * k) 0] ++ [xs.getD (3 * k + 1) 0] := by
          have hnx := HN.out
          have h1 := List.take_add_one (l := xs) (i := 3 * k)
          have h2 := List.take_add_one (l := xs) (i := 3 * k + 1)
          rw [List.take_of_length_le (by omega), h1, List.getElem?_eq_getElem (by omega), List.getElem?_eq_getElem (by omega)] at h2
          rw [List.getD_eq_getElem?_getD, List.getElem?_eq_getElem (by omega), List.getD_eq_getElem?_getD, List.getElem?_eq_getElem (by omega)]
          exact h2
        generalize xs.getD (3 * k) 0 = a at *
        generalize xs.getD (3 * k + 1) 0 = b at *
        have hcall := HRD.out (P0 + 10 * k) 7 wr hsrc (by omega) (by omega) (by omega)
        rw [hV] at hcall
        simp only [Int.cast_ofNat_Int] at hcall
        obtain ⟨V, hVV⟩ : ∃ V, (a - 48) * 10 + (b - 48) = V := ⟨_, rfl⟩
        rw [hVV] at hcall
        have y1 : 48 + (V : Int) / 10 = (a : Int) := by omega
        have y2 : 48 + (V : Int) % 10 = (b : Int) := by omega
        have vl : V < 100 := by omega
        have dV : decide ((100 : Int) ≤ V) = false := by simp; omega
        have HV1 := Lib.hid y1
        have HV2 := Lib.hid y2
        have HTK := Lib.hid htk
        have HC := Lib.hid hcall
        have HNL2 := Lib.hid hnl
        clear hV htk hVV y1 y2 hcall hsrc h0 hnk hnl
        go_wp2_with fail
        with_reducible refine HC.out.mono ?_
        rintro _ w2 ⟨rfl, hs2, hf2⟩
        have hr2 := HR.out.frm hf2 (fun k hk => by omega)
        have HF2 := Lib.hid (segTrans HF.out hf2)
        have hl2 : lo ≤ w2.heap.size := Nat.le_trans hlw hf2.size
        obtain ⟨v3, w3, hrun3, hr3, hf3⟩ := hr2.push hl2 _ a HV1.out (by rw [List.length_append, HLEN.out]; omega)
        have hs3 := hs2.push hf3 hq hs
        have HRUN3 := Lib.hid hrun3
        have HF3 := Lib.hid (segPush HF2.out hf3)
        have hl3 : lo ≤ w3.heap.size := Nat.le_trans hl2 hf3.size
        obtain ⟨v4, w4, hrun4, hr4, hf4⟩ := hr3.push hl3 _ b HV2.out (by simp [HLEN.out]; omega)
        have hs4 := hs3.push hf4 hq hs
        have HRUN4 := Lib.hid hrun4
        have HF4 := Lib.hid (segPush HF3.out hf4)
        have HR4 := Lib.hid hr4
        have HS4 := Lib.hid hs4
        clear hs2 hf2 hr2 HF2 hrun3 hr3 hf3 hs3 hrun4 hr4 hf4 hs4 HF3 HR HF HC
        dsimp only
        go_wp2_with (at_builtin; first
          | refine wpList_append_run rfl (.tmp 78) (.tmp 83) 32 32 rfl _ _ rfl rfl _ _ HRUN3.out ?_
          | refine wpList_append_run rfl (.tmp 85) (.tmp 90) 32 32 rfl _ _ rfl rfl _ _ HRUN4.out ?_)
        go_ret2
        exact ⟨_, rfl, by rw [HTK.out, ← List.append_assoc, ← List.append_assoc]; exact HR4.out, by rw [HNL2.out, ← Nat.add_assoc]; exact HS4.out, HF4.out⟩
end Go.Proofs.YtnpkihobbcglcaaGreatDoor

/- L4: Plain: what is laid as words comes back as the blocks. -/
namespace Go.Proofs.YtnpkihobbcglcaaGreatDoor
open Go Go.RowKit

theorem selW_bytes (xs : List (List Nat)) (i k : Nat) (h : ∀ x ∈ xs, Bytes x) : Bytes (selW xs i k) := by
  intro c hc
  unfold selW at hc
  obtain ⟨x, hx, h2⟩ := List.mem_flatMap.1 hc
  by_cases hi : i < x.length
  · rw [if_pos hi] at h2
    have h3 : c = x.getD i 0 := by simpa using h2
    rw [h3, List.getD_eq_getElem?_getD, List.getElem?_eq_getElem hi]
    exact h x (List.mem_of_mem_take hx) _ (List.getElem_mem hi)
  · rw [if_neg hi] at h2
    simp at h2
theorem upW_bytes (xs : List (List Nat)) (h : ∀ x ∈ xs, Bytes x) : ∀ m, Bytes (upW xs m)
  | 0 => by intro c hc; simp [upW] at hc
  | m + 1 => by
    intro c hc
    unfold upW at hc
    rcases List.mem_append.1 hc with h1 | h1
    · exact upW_bytes xs h m c h1
    · exact selW_bytes xs m _ h c h1
theorem GoodL.words {bs : List Bool} {N dq r ec : Nat} {L : List Pair} (h : GoodL bs N dq r ec L) : Bytes (interWords L) := by
  intro c hc
  unfold interWords at hc
  rcases List.mem_append.1 hc with h1 | h1
  · refine upW_bytes _ (fun x hx => ?_) _ c h1
    obtain ⟨y, hy, rfl⟩ := List.mem_map.1 hx
    obtain ⟨j, hj⟩ := List.mem_iff_getElem?.1 hy
    exact h.bytes1 hj
  · refine upW_bytes _ (fun x hx => ?_) _ c h1
    obtain ⟨y, hy, rfl⟩ := List.mem_map.1 hx
    obtain ⟨j, hj⟩ := List.mem_iff_getElem?.1 hy
    exact h.bytes2 hj
theorem rd_left (a b : List Bool) (p n : Nat) (h : p + n ≤ a.length) : rd (a ++ b) p n = rd a p n := by
  unfold rd
  rw [List.drop_append_of_le_length (by omega), List.take_append_of_le_length (by simp; omega)]
/-- The words read off the bits. -/
theorem words_back (W : List Nat) (pad : List Bool) (n : Nat) (hn : W.length = n) (hW : Bytes W) : bytesFrom (bitsOf W ++ pad) 0 n = W := by
  refine list_same _ _ (by rw [bytesFrom_length, hn]) (fun t ht => ?_)
  have hl := bitsOf_length W
  have hw : W.getD t 0 < 256 := by
    rw [List.getD_eq_getElem?_getD, List.getElem?_eq_getElem ht]
    exact hW _ (List.getElem_mem ht)
  rw [bytesFrom_get _ _ _ _ (by omega) (by rw [List.length_append]; omega), Nat.zero_add, rd_left _ _ _ _ (by omega), bitsOf_rd W t ht hw]

/-- The data words of the blocks, one behind the other. -/
theorem data_back (bs : List Bool) (N dq r : Nat) : ∀ j, bytesFrom bs 0 (bOff N dq r j) = (List.range j).flatMap fun i => bytesFrom bs (8 * bOff N dq r i) (bSize N dq r i)
  | 0 => by simp [bOff, bytesFrom]
  | j + 1 => by
    rw [List.range_succ, List.flatMap_append, ← data_back bs N dq r j, show bOff N dq r (j + 1) = bOff N dq r j + bSize N dq r j by rfl, bytesFrom_add]
    simp

/-- One block as the decoder has it. -/
structure BlkOk (bs : List Bool) (N dq r ec j : Nat) (ys : List Nat) : Prop where
  len : ys.length = bSize N dq r j + ec
  byt : Bytes ys
  ev : ∀ i, i < ec → ev ys (ge i) = 0
  dat : ys.take (bSize N dq r j) = bytesFrom bs (8 * bOff N dq r j) (bSize N dq r j)

theorem blocks_back {xs : List Nat} {l v m k : Nat} {tl : List Bool} {L : List Pair} (h : Coded xs l v m k tl L) (hl : l < 4) (pad : List Bool) :
    bytesFrom (interBits L ++ pad) 0 (totalCw v) = interWords L ∧ (interWords L).length = totalCw v ∧ ∀ j, j < nbAt v l → BlkOk (msgBits m xs ++ tl) (nbAt v l) (dqAt v l) (rAt v l) (ecOf v l) j (blkW (interWords L) (nbAt v l) (dqAt v l) (rAt v l) (ecOf v l) j) := by
  obtain ⟨v1, v7⟩ := h.ver
  obtain ⟨b1, b2, b3, b4⟩ := block_ok1 v (by omega) v1 l hl
  have hall := h.all
  have hg := h.good
  have hb := h.blocks
  rw [inter_bits, bitsOf_length] at hall
  have hlen : (interWords L).length = totalCw v := by omega
  refine ⟨by rw [inter_bits]; exact words_back _ _ _ hlen hg.words, hlen, fun j hj => ?_⟩
  have hjx : L[j]? = some (L[j]'(by omega)) := List.getElem?_eq_getElem (by omega)
  generalize L[j]'(by omega) = x at hjx
  obtain ⟨g1, g2, g3, g4⟩ := hg j x hjx
  have hd := deinter L (dqAt v l) (rAt v l) (ecOf v l) (by omega) (fun j x hx => by rw [hb, (hg j x hx).1, bytesFrom_length]) (fun x hx => by
    obtain ⟨j, hj⟩ := List.mem_iff_getElem?.1 hx
    exact (hg j x hj).2.1) j x hjx
  rw [hb] at hd
  rw [hd.2]
  have hl1 : x.1.length = bSize (nbAt v l) (dqAt v l) (rAt v l) j := by rw [g1, bytesFrom_length]
  refine ⟨by rw [List.length_append, hl1, g2], ?_, g4, ?_⟩
  · intro c hc
    rcases List.mem_append.1 hc with e | e
    · exact hg.bytes1 hjx c e
    · exact g3 c e
  · rw [List.take_append_of_le_length (by omega), List.take_of_length_le (by omega), g1]
end Go.Proofs.YtnpkihobbcglcaaGreatDoor

/- U25: Decoding 25: small helpers of decode. -/
namespace Go.Proofs.YtnpkihobbcglcaaGreatDoor
open Go Go.RowKit

theorem DB.frm {S : Nat → Prop} {w w' : World} {R cnt N lo : Nat} {dt sz bs cs : Nat → Nat} {ys : Nat → List Nat} (h : DB w R cnt N lo dt sz bs cs ys) (hf : Frm S w w') (hR : ¬ S R) (hb : ∀ j, j < cnt → ¬ S (bs j)) (hc : ∀ j, j < cnt → ¬ S (cs j)) : DB w' R cnt N lo dt sz bs cs ys := by
  obtain ⟨vs, t1, t2, t3⟩ := h.tab
  exact ⟨⟨vs, t1.frm hf hR, t2, t3⟩, fun j hj => (h.obj j hj).frm hf (hb j hj), fun j hj => ⟨(h.row j hj).1.frm hf (hc j hj), (h.row j hj).2⟩, h.inj, h.new, h.newR⟩
/-- One block's words are laid again as they were. -/
theorem DB.redo {w w' : World} {R cnt N lo : Nat} {dt sz bs cs : Nat → Nat} {ys : Nat → List Nat} (h : DB w R cnt N lo dt sz bs cs ys) (J : Nat) (hJ : J < cnt) (hf : Frm (fun k => k = cs J) w w') (hy : Nats w' (cs J) .u8 5 (ys J)) : DB w' R cnt N lo dt sz bs cs ys := by
  obtain ⟨vs, t1, t2, t3⟩ := h.tab
  have hn := (h.row J hJ).1
  refine ⟨⟨vs, t1.frm hf (Blk.ne t1 hn (by decide)), t2, t3⟩, fun j hj => (h.obj j hj).frm hf (Blk.ne (h.obj j hj) hn (by decide)), fun j hj => ⟨?_, (h.row j hj).2⟩, h.inj, h.new, h.newR⟩
  by_cases e : j = J
  · subst e; exact hy
  · exact (h.row j hj).1.frm hf (fun hh => e (h.inj j J hj hJ hh))
theorem DB.lts {w : World} {R cnt N lo : Nat} {dt sz bs cs : Nat → Nat} {ys : Nat → List Nat} (h : DB w R cnt N lo dt sz bs cs ys) : R < w.heap.size ∧ ∀ j, j < cnt → bs j < w.heap.size ∧ cs j < w.heap.size :=
  ⟨h.lt, fun j hj => ⟨(h.obj j hj).lt, (h.row j hj).1.lt⟩⟩
theorem VerAt.off {S : Nat → Prop} {w w' : World} {pv v q p : Nat} {x y z : Value} (h : VerAt w pv v) (hq : Blk w q #[.pointer (some ⟨p, 0, none⟩), x, y, z] 292) (hf : Frm (fun k => k = q ∨ S k) w w') (hS : ∀ k, S k → (∀ z, w.cell? ⟨k, 0, none⟩ ≠ some (.int .i64 z)) ∧ ∃ cs T, Blk w k cs T ∧ T ≠ 3 ∧ T ≠ 178) : VerAt w' pv v := by
  refine h.away hf (fun k hk => ?_)
  rcases hk with rfl | hk
  · refine ⟨fun zz hz => ?_, _, _, hq, by decide, by decide⟩
    have := hq.cell 0
    rw [this] at hz
    simp at hz
  · exact hS k hk
theorem PV.off {S : Nat → Prop} {w w' : World} {v q p : Nat} {v1 x y z : Value} (h : PV w v1 v) (hq : Blk w q #[.pointer (some ⟨p, 0, none⟩), x, y, z] 292) (hf : Frm (fun k => k = q ∨ S k) w w') (hS : ∀ k, S k → (∀ z, w.cell? ⟨k, 0, none⟩ ≠ some (.int .i64 z)) ∧ ∃ cs T, Blk w k cs T ∧ T ≠ 3 ∧ T ≠ 178) : PV w' v1 v := by
  rcases h with h | ⟨pv, h1, h2⟩
  · exact .inl h
  · exact .inr ⟨pv, h1, h2.off hq hf hS⟩
theorem formatLevel (fp : Nat) (lv : Nat) (v1 : Value) (w : World) (h : Blk w fp #[.int .i64 lv, v1] 322) : Calls Tryz.prog 183 #[.pointer (some ⟨fp, 0, none⟩)] w fun e w' => e = .returned (.int .i64 lv) ∧ w = w' := by
  have c0 := h.cell 0
  simp only [List.getElem?_toArray, List.getElem?_cons_zero] at c0
  clear h
  go_enter Tryz.func183, Tryz.ntmps183
  go_wp2
  go_ret
  exact ⟨rfl, rfl⟩
theorem blkData (bp : Nat) (u : Value) (w : World) (h : w.cell? ⟨bp, 0, none⟩ = some u) : Calls Tryz.prog 186 #[.pointer (some ⟨bp, 0, none⟩)] w fun e w' => e = .returned u ∧ w = w' := by
  go_enter Tryz.func186, Tryz.ntmps186
  go_wp2
  go_ret
  exact ⟨rfl, rfl⟩
theorem blkWords (bp : Nat) (u : Value) (w : World) (h : w.cell? ⟨bp, 1, none⟩ = some u) : Calls Tryz.prog 187 #[.pointer (some ⟨bp, 0, none⟩)] w fun e w' => e = .returned u ∧ w = w' := by
  go_enter Tryz.func187, Tryz.ntmps187
  go_wp2
  go_ret
  exact ⟨rfl, rfl⟩
theorem take_set (zs : List Nat) (o x : Nat) (h : o < zs.length) : (zs.set o x).take (o + 1) = zs.take o ++ [x] := by
  rw [List.take_add_one, List.take_set_of_le (Nat.le_refl _), List.getElem?_set_self h]
  rfl
end Go.Proofs.YtnpkihobbcglcaaGreatDoor
