/- The whole matrix built. The penalties: no panic, small numbers. Rules 1 and 4. The penalties: rules 2 and 3. The sum of the penalties; the choice of a mask. The zigzag: its cells are all different, and what is laid along it stands there. No program in sight. The empty cells do not turn on the type's bits; how many they are. No program in sight. -/
import Derived.Test.YtnpkihobbcglcaaGreatDoorQ11
set_option linter.unusedSimpArgs false
set_option linter.unusedVariables false

/- D3: The whole matrix built. -/
namespace Go.Proofs.YtnpkihobbcglcaaGreatDoor
open Go Go.RowKit

def emptyG (v : Nat) : Grid := basicG v (fullGrid (dim v) (-1))
def baseG (v t : Nat) : Grid := maybeVerG v (typeG (dim v) (typeBits t) 15 (emptyG v))
def matG (v l m : Nat) (bs : List Bool) : Grid := (dataAll bs m (dim v) ((dim v - 1) / 2) (0, baseG v (l * 8 + m))).2
theorem basicOk_all : ∀ v, v < 8 → 1 ≤ v → basicOk v (fullGrid (dim v) (-1)) = true := by decide +kernel

theorem clearMatrix_any (p r n : Nat) (g : Grid) (w : World) (h : BM w p r n g) :
    Calls Tryz.prog 105 #[.pointer (some ⟨p, 0, none⟩)] w fun e w' => e = .returned (.tuple #[]) ∧ BM w' p r n (fullGrid n (-1)) ∧ Frm (InM r n) w w' := by
  go_enter Tryz.func105, Tryz.ntmps105
  go_wp2_with fail
  with_reducible refine (bmClear p r n _ _ _ h).mono ?_
  rintro e w1 ⟨rfl, h1, f1⟩
  go_wp2
  go_end0
  exact ⟨rfl, h1, f1⟩

set_option maxHeartbeats 1000000 in
theorem buildMatrix_any (q c pv p r v l m : Nat) (bs : List Bool) (g : Grid) (w : World) (h : BM w p r (dim v) g) (hb : BitA w q c bs) (hq : ¬ InM r (dim v) q) (hc : ¬ InM r (dim v) c) (hpv : ¬ InM r (dim v) pv)
    (hv : w.cell? ⟨pv, 0, none⟩ = some (.int .i64 v)) (h1 : 1 ≤ v) (h7 : v ≤ 7) (hl : l < 4) (hm : m < 8) (hL : bs.length ≤ 100000)
    (hfull : bs.length ≤ (dataAll bs m (dim v) ((dim v - 1) / 2) (0, baseG v (l * 8 + m))).1) :
    Calls Tryz.prog 62 #[.pointer (some ⟨q, 0, none⟩), .int .i64 l, .pointer (some ⟨pv, 0, none⟩), .int .i64 m, .pointer (some ⟨p, 0, none⟩)] w fun e w' => e = .returned .nilIface ∧ BM w' p r (dim v) (matG v l m bs) ∧ Frm (InM r (dim v)) w w' := by
  have hn : 21 ≤ dim v := by unfold dim; omega
  have hodd : dim v % 2 = 1 := by unfold dim; omega
  have lv := World.block_lt_of_cell? _ _ hv
  obtain ⟨lq, lc, _⟩ := hb.lt
  have hok := basicOk_all v (by omega) h1
  have HOK := Lib.hid hok
  have hf' : bs.length ≤ (dataAll bs m (dim v) ((dim v - 1) / 2) (0, maybeVerG v (typeG (dim v) (typeBits (l * 8 + m)) 15 (basicG v (fullGrid (dim v) (-1)))))).1 := hfull
  have HF := Lib.hid hf'
  clear hok hfull hf'
  go_enter Tryz.func62, Tryz.ntmps62
  go_wp2_with fail
  with_reducible refine (clearMatrix_any p r (dim v) _ _ h).mono ?_
  rintro e w1 ⟨rfl, b1, f1⟩
  have v1 : w1.cell? ⟨pv, 0, none⟩ = some (.int .i64 v) := by rw [f1.cell lv hpv]; exact hv
  have q1 := hb.frm f1 hq hc
  go_wp2_with fail
  with_reducible refine (embedBasic pv p r v _ _ b1 h1 h7 v1 hpv (by exact HOK.out)).mono ?_
  rintro e w2 ⟨rfl, b2, f2⟩
  have v2 : w2.cell? ⟨pv, 0, none⟩ = some (.int .i64 v) := by rw [f2.cell (show pv < _ by have := f1.size; omega) hpv]; exact v1
  have q2 := q1.frm f2 hq hc
  go_wp2_with fail
  with_reducible refine (embedType p r (dim v) l m _ _ b2 hn hl hm).mono ?_
  rintro e w3 ⟨rfl, b3, f3⟩
  have v3 : w3.cell? ⟨pv, 0, none⟩ = some (.int .i64 v) := by rw [f3.cell (show pv < _ by have := f1.size; have := f2.size; omega) hpv]; exact v2
  have q3 := q2.frm f3 hq hc
  go_wp2_with fail
  with_reducible refine (embedVersion pv p r v _ _ b3 h1 h7 v3).mono ?_
  rintro e w4 ⟨rfl, b4, f4⟩
  have q4 := q3.frm f4 hq hc
  go_wp2_with fail
  with_reducible refine (embedData q c p r (dim v) m bs _ _ b4 q4 hq hc hn hodd hm hL (by exact HF.out)).mono ?_
  rintro e w5 ⟨rfl, b5, f5⟩
  go_wp2
  go_ret
  exact ⟨rfl, b5, (((f1.trans f2).trans f3).trans f4).trans f5⟩
end Go.Proofs.YtnpkihobbcglcaaGreatDoor

/- E1: The penalties: no panic, small numbers. Rules 1 and 4. -/
namespace Go.Proofs.YtnpkihobbcglcaaGreatDoor
open Go Go.RowKit

theorem getArray_any (p r n : Nat) (g : Grid) (w : World) (h : BM w p r n g) :
    Calls Tryz.prog 170 #[.pointer (some ⟨p, 0, none⟩)] w fun e w' => e = .returned (.slice (some ⟨r, 0, none⟩) n n) ∧ w = w' := by
  have c0 := h.obj.cell 0
  simp at c0
  clear h
  go_enter Tryz.func170, Tryz.ntmps170
  go_wp2
  go_ret
  exact ⟨rfl, rfl⟩

/-- What a read of the matrix asks. -/
theorem BM.at_ {w : World} {p r n : Nat} {g : Grid} (h : BM w p r n g) (x y : Nat) (hx : x < n) (hy : y < n) : w.cell? ⟨r + 1 + y, x, none⟩ = some (.int .i8 (gget g x y)) := by
  have := (h.row y hy).cell x (by rw [h.sq.wid y hy]; exact hx)
  exact this

set_option maxRecDepth 100000 in
set_option maxHeartbeats 4000000 in
theorem rule1_any (p r n : Nat) (g : Grid) (hz : Bool) (w : World) (h : BM w p r n g) (hn : n ≤ 50) :
    Calls Tryz.prog 169 #[.pointer (some ⟨p, 0, none⟩), .bool hz] w fun e w' => (∃ v : Int, e = .returned (.int .i64 v) ∧ 0 ≤ v ∧ v ≤ 1000000) ∧ w = w' := by
  have hi8 : ∀ x y, x < n → y < n → True := fun _ _ _ _ => trivial
  clear hi8
  cases hz
  all_goals
    go_enter Tryz.func169, Tryz.ntmps169
    go_wp2_with fail
    with_reducible refine (bmWidth p r n _ _ h).mono ?_
    rintro e _ ⟨rfl, rfl⟩
    go_wp2_with fail
    with_reducible refine (bmHeight p r n _ _ h).mono ?_
    rintro e _ ⟨rfl, rfl⟩
    go_wp2_with fail
    with_reducible refine (getArray_any p r n _ _ h).mono ?_
    rintro e _ ⟨rfl, rfl⟩
    go_wp2
    go_loop [5, 9, 10, 11, 12, 13] (fun pen i _ _ _ _ => ∃ (k : Nat) (v : Int), k ≤ n ∧ i = .int .i64 k ∧ pen = .int .i64 v ∧ 0 ≤ v ∧ v ≤ 6000 * k) (fun _ i _ _ _ _ => n - (intOf i).toNat)
    case atStart => exact ⟨0, 0, Nat.zero_le _, rfl, rfl, by omega, by omega⟩
    case round =>
      obtain ⟨k, v, hk, rfl, rfl, hv0, hv1⟩ := hrel
      by_cases hlt : k < n
      · have tk := h.tabCell k hlt
        have hdk : decide ((k : Int) < n) = true := by simp; omega
        go_wp2
        go_loop [5, 10, 11, 12, 13] (fun pen cnt prev j _ => ∃ (m : Nat) (v c b : Int), m ≤ n ∧ j = .int .i64 m ∧ pen = .int .i64 v ∧ cnt = .int .i64 c ∧ prev = .int .i64 b ∧ 0 ≤ v ∧ v ≤ 6000 * k + 100 * m ∧ 0 ≤ c ∧ c ≤ m) (fun _ _ _ j _ => n - (intOf j).toNat)
        case atStart => exact ⟨0, v, 0, -1, Nat.zero_le _, rfl, rfl, rfl, rfl, hv0, by omega, by omega, by omega⟩
        case round =>
          obtain ⟨m, v, c, b, hm, rfl, rfl, rfl, rfl, hv0, hv1, hc0, hc1⟩ := hrel
          by_cases hlm : m < n
          · have tm := h.tabCell m hlm
            have a1 := h.at_ k m hlt hlm
            have a2 := h.at_ m k hlm hlt
            have hdm : decide ((m : Int) < n) = true := by simp; omega
            generalize gget g k m = z1 at a1
            generalize gget g m k = z2 at a2
            go_wp2
            all_goals exact ⟨⟨m + 1, _, _, _, by omega, by go_num, rfl, rfl, rfl, by omega, by omega, by omega, by omega⟩, by simp [intOf]; omega⟩
          · obtain rfl : m = n := by omega
            have hdm : decide ((m : Int) < m) = false := by simp
            by_cases h5 : 5 ≤ c
            · have hd5 : decide (5 ≤ c) = true := by simpa using h5
              go_wp2
              exact ⟨⟨k + 1, _, by omega, by go_num, rfl, by omega, by omega⟩, by simp [intOf]; omega⟩
            · have hd5 : decide (5 ≤ c) = false := by simpa using h5
              go_wp2
              exact ⟨⟨k + 1, _, by omega, by go_num, rfl, by omega, by omega⟩, by simp [intOf]; omega⟩
      · obtain rfl : k = n := by omega
        go_wp2
        go_ret
        exact ⟨⟨v, rfl, hv0, by omega⟩, rfl⟩

theorem rule1_all (p r n : Nat) (g : Grid) (w : World) (h : BM w p r n g) (hn : n ≤ 50) :
    Calls Tryz.prog 130 #[.pointer (some ⟨p, 0, none⟩)] w fun e w' => (∃ v : Int, e = .returned (.int .i64 v) ∧ 0 ≤ v ∧ v ≤ 2000000) ∧ w = w' := by
  go_enter Tryz.func130, Tryz.ntmps130
  go_wp2_with fail
  with_reducible refine (rule1_any p r n g true _ h hn).mono ?_
  rintro e _ ⟨⟨v1, rfl, a1, b1⟩, rfl⟩
  go_wp2_with fail
  with_reducible refine (rule1_any p r n g false _ h hn).mono ?_
  rintro e _ ⟨⟨v2, rfl, a2, b2⟩, rfl⟩
  go_wp2
  go_ret
  exact ⟨⟨_, rfl, by omega, by omega⟩, rfl⟩

theorem ediv_small (X T B : Int) (hT : 1 ≤ T) (hB : 0 ≤ B) (h1 : -B ≤ X) (h2 : X ≤ B) : -B ≤ X / T ∧ X / T ≤ B := by
  have hm : B * 1 ≤ B * T := Int.mul_le_mul_of_nonneg_left hT hB
  rw [Int.mul_one] at hm
  refine ⟨Int.le_ediv_of_mul_le (by omega) ?_, Int.ediv_le_of_le_mul (by omega) (by omega)⟩
  rw [Int.neg_mul]; omega

set_option maxRecDepth 100000 in
set_option maxHeartbeats 4000000 in
theorem rule4_any (p r n : Nat) (g : Grid) (w : World) (h : BM w p r n g) (hn0 : 1 ≤ n) (hn : n ≤ 50) :
    Calls Tryz.prog 133 #[.pointer (some ⟨p, 0, none⟩)] w fun e w' => (∃ v : Int, e = .returned (.int .i64 v) ∧ -2000000 ≤ v ∧ v ≤ 2000000) ∧ w = w' := by
  have hT : 1 ≤ n * n ∧ n * n ≤ 2500 := ⟨Nat.mul_le_mul hn0 hn0, Nat.mul_le_mul hn hn⟩
  have hTI : (n : Int) * n = ((n * n : Nat) : Int) := (Int.natCast_mul n n).symm
  generalize n * n = T at hT hTI
  obtain ⟨hT1, hT2⟩ := hT
  go_enter Tryz.func133, Tryz.ntmps133
  go_wp2_with fail
  with_reducible refine (getArray_any p r n _ _ h).mono ?_
  rintro e _ ⟨rfl, rfl⟩
  go_wp2_with fail
  with_reducible refine (bmWidth p r n _ _ h).mono ?_
  rintro e _ ⟨rfl, rfl⟩
  go_wp2_with fail
  with_reducible refine (bmHeight p r n _ _ h).mono ?_
  rintro e _ ⟨rfl, rfl⟩
  go_wp2
  go_loop [3, 7, 8, 9] (fun d i _ _ => ∃ (k : Nat) (v : Int), k ≤ n ∧ i = .int .i64 k ∧ d = .int .i64 v ∧ 0 ≤ v ∧ v ≤ 50 * k) (fun _ i _ _ => n - (intOf i).toNat)
  case atStart => exact ⟨0, 0, Nat.zero_le _, rfl, rfl, by omega, by omega⟩
  case round =>
    obtain ⟨k, v, hk, rfl, rfl, hv0, hv1⟩ := hrel
    by_cases hlt : k < n
    · have tk := h.tabCell k hlt
      have hdk : decide ((k : Int) < n) = true := by simp; omega
      go_wp2
      go_loop [3, 9] (fun d j => ∃ (m : Nat) (v : Int), m ≤ n ∧ j = .int .i64 m ∧ d = .int .i64 v ∧ 0 ≤ v ∧ v ≤ 50 * k + m) (fun _ j => n - (intOf j).toNat)
      case atStart => exact ⟨0, v, Nat.zero_le _, rfl, rfl, hv0, by omega⟩
      case round =>
        obtain ⟨m, v, hm, rfl, rfl, hv0, hv1⟩ := hrel
        by_cases hlm : m < n
        · have a2 := h.at_ m k hlm hlt
          have hdm : decide ((m : Int) < n) = true := by simp; omega
          generalize gget g m k = z2 at a2
          go_wp2
          all_goals exact ⟨⟨m + 1, _, by omega, by go_num, rfl, by omega, by omega⟩, by simp [intOf]; omega⟩
        · obtain rfl : m = n := by omega
          have hdm : decide ((m : Int) < m) = false := by simp
          go_wp2
          exact ⟨⟨k + 1, _, by omega, by go_num, rfl, by omega, by omega⟩, by simp [intOf]; omega⟩
    · obtain rfl : k = n := by omega
      go_wp2_with fail
      with_reducible refine (bmHeight p r k _ _ h).mono ?_
      rintro e _ ⟨rfl, rfl⟩
      go_wp2_with fail
      with_reducible refine (bmWidth p r k _ _ h).mono ?_
      rintro e _ ⟨rfl, rfl⟩
      go_wp2
      · go_ret
        have hb := ediv_small (-(v * 2 - T) * 10) T 75000 (by omega) (by omega) (by omega) (by omega)
        have hw : wrap64 (-(v * 2 - (T : Int)) * 10 / T * 10) = -(v * 2 - (T : Int)) * 10 / T * 10 := IntWalk.wrap64_in _ (by omega)
        rw [hw]
        exact ⟨⟨_, rfl, by omega, by omega⟩, rfl⟩
      · go_ret
        have hb := ediv_small ((v * 2 - T) * 10) T 75000 (by omega) (by omega) (by omega) (by omega)
        have hw : wrap64 ((v * 2 - (T : Int)) * 10 / T * 10) = (v * 2 - (T : Int)) * 10 / T * 10 := IntWalk.wrap64_in _ (by omega)
        rw [hw]
        exact ⟨⟨_, rfl, by omega, by omega⟩, rfl⟩
end Go.Proofs.YtnpkihobbcglcaaGreatDoor

/- E2: The penalties: rules 2 and 3. -/
namespace Go.Proofs.YtnpkihobbcglcaaGreatDoor
open Go Go.RowKit

/-- Some truth value comes back. -/
def ABool (e : Ending) : Prop := ∃ v : Bool, e = .returned (.bool v)

set_option maxHeartbeats 1000000 in
theorem whiteH (p r n y : Nat) (g : Grid) (a b : Int) (w : World) (h : BM w p r n g) (hy : y < n) (hn : n ≤ 50) (ha : -100 ≤ a) (ha2 : a ≤ 100) :
    Calls Tryz.prog 171 #[.slice (some ⟨r + 1 + y, 0, none⟩) n n, .int .i64 a, .int .i64 b] w fun e w' => ABool e ∧ w = w' := by
  by_cases ha0 : a < 0
  all_goals by_cases hb0 : (n : Int) < b
  all_goals
    go_enter Tryz.func171, Tryz.ntmps171
    go_wp2
    go_loop [7] (fun i => ∃ (k : Nat), i = .int .i64 k) (fun i => n - (intOf i).toNat)
    case atStart => first | exact ⟨0, rfl⟩ | exact ⟨a.toNat, by rw [Int.toNat_of_nonneg (by omega)]⟩
    case round =>
      obtain ⟨k, rfl⟩ := hrel
      by_cases hlt : k < n
      · have c := h.at_ k y hlt hy
        generalize gget g k y = z at c
        go_wp2
        all_goals first | exact ⟨⟨k + 1, by go_num⟩, by simp [intOf]; omega⟩ | (go_ret; exact ⟨⟨_, rfl⟩, rfl⟩)
      · have hd : ¬ ((k : Int) < n) := by omega
        go_wp2
        all_goals (go_ret; exact ⟨⟨_, rfl⟩, rfl⟩)

set_option maxHeartbeats 1000000 in
theorem whiteV (p r n x : Nat) (g : Grid) (a b : Int) (w : World) (h : BM w p r n g) (hx : x < n) (hn : n ≤ 50) (ha : -100 ≤ a) (ha2 : a ≤ 100) :
    Calls Tryz.prog 172 #[.slice (some ⟨r, 0, none⟩) n n, .int .i64 x, .int .i64 a, .int .i64 b] w fun e w' => ABool e ∧ w = w' := by
  by_cases ha0 : a < 0
  all_goals by_cases hb0 : (n : Int) < b
  all_goals
    go_enter Tryz.func172, Tryz.ntmps172
    go_wp2
    go_loop [9] (fun i => ∃ (k : Nat), i = .int .i64 k) (fun i => n - (intOf i).toNat)
    case atStart => first | exact ⟨0, rfl⟩ | exact ⟨a.toNat, by rw [Int.toNat_of_nonneg (by omega)]⟩
    case round =>
      obtain ⟨k, rfl⟩ := hrel
      by_cases hlt : k < n
      · have t := h.tabCell k hlt
        have c := h.at_ x k hx hlt
        generalize gget g x k = z at c
        go_wp2
        all_goals first | exact ⟨⟨k + 1, by go_num⟩, by simp [intOf]; omega⟩ | (go_ret; exact ⟨⟨_, rfl⟩, rfl⟩)
      · have hd : ¬ ((k : Int) < n) := by omega
        go_wp2
        all_goals (go_ret; exact ⟨⟨_, rfl⟩, rfl⟩)

set_option maxRecDepth 100000 in
set_option maxHeartbeats 4000000 in
theorem rule2_any (p r n : Nat) (g : Grid) (w : World) (h : BM w p r n g) (hn0 : 1 ≤ n) (hn : n ≤ 50) :
    Calls Tryz.prog 131 #[.pointer (some ⟨p, 0, none⟩)] w fun e w' => (∃ v : Int, e = .returned (.int .i64 v) ∧ 0 ≤ v ∧ v ≤ 2000000) ∧ w = w' := by
  go_enter Tryz.func131, Tryz.ntmps131
  go_wp2_with fail
  with_reducible refine (getArray_any p r n _ _ h).mono ?_
  rintro e _ ⟨rfl, rfl⟩
  go_wp2_with fail
  with_reducible refine (bmWidth p r n _ _ h).mono ?_
  rintro e _ ⟨rfl, rfl⟩
  go_wp2_with fail
  with_reducible refine (bmHeight p r n _ _ h).mono ?_
  rintro e _ ⟨rfl, rfl⟩
  go_wp2
  go_loop [3, 7, 8, 9, 10] (fun d i _ _ _ => ∃ (k : Nat) (v : Int), k < n ∧ i = .int .i64 k ∧ d = .int .i64 v ∧ 0 ≤ v ∧ v ≤ 50 * k) (fun _ i _ _ _ => n - (intOf i).toNat)
  case atStart => exact ⟨0, 0, hn0, rfl, rfl, by omega, by omega⟩
  case round =>
    obtain ⟨k, v, hk, rfl, rfl, hv0, hv1⟩ := hrel
    by_cases hlt : k + 1 < n
    · have tk := h.tabCell k hk
      have tk1 := h.tabCell (k + 1) hlt
      have hdk : decide ((k : Int) < n - 1) = true := by simp; omega
      go_wp2
      go_loop [3, 9, 10] (fun d j _ => ∃ (m : Nat) (v : Int), m < n ∧ j = .int .i64 m ∧ d = .int .i64 v ∧ 0 ≤ v ∧ v ≤ 50 * k + m) (fun _ j _ => n - (intOf j).toNat)
      case atStart => exact ⟨0, v, hn0, rfl, rfl, hv0, by omega⟩
      case round =>
        obtain ⟨m, v, hm, rfl, rfl, hv0, hv1⟩ := hrel
        by_cases hlm : m + 1 < n
        · have a1 := h.at_ m k hm hk
          have a2 := h.at_ (m + 1) k hlm hk
          have a3 := h.at_ m (k + 1) hm hlt
          have a4 := h.at_ (m + 1) (k + 1) hlm hlt
          have hdm : decide ((m : Int) < n - 1) = true := by simp; omega
          generalize gget g m k = z1 at a1
          generalize gget g (m + 1) k = z2 at a2
          generalize gget g m (k + 1) = z3 at a3
          generalize gget g (m + 1) (k + 1) = z4 at a4
          by_cases e2 : z1 = z2
          · by_cases e3 : z1 = z3
            · by_cases e4 : z1 = z4
              · subst e2 e3 e4
                go_wp2
                all_goals exact ⟨⟨m + 1, _, by omega, by go_num, rfl, by omega, by omega⟩, by simp [intOf]; omega⟩
              · subst e2 e3
                have e4' : (z1 == z4) = false := by simpa using e4
                go_wp2
                all_goals exact ⟨⟨m + 1, _, by omega, by go_num, rfl, by omega, by omega⟩, by simp [intOf]; omega⟩
            · subst e2
              have e3' : (z1 == z3) = false := by simpa using e3
              go_wp2
              all_goals exact ⟨⟨m + 1, _, by omega, by go_num, rfl, by omega, by omega⟩, by simp [intOf]; omega⟩
          · have e2' : (z1 == z2) = false := by simpa using e2
            go_wp2
            all_goals exact ⟨⟨m + 1, _, by omega, by go_num, rfl, by omega, by omega⟩, by simp [intOf]; omega⟩
        · have hdm : decide ((m : Int) < n - 1) = false := by simp; omega
          go_wp2
          exact ⟨⟨k + 1, _, by omega, by go_num, rfl, by omega, by omega⟩, by simp [intOf]; omega⟩
    · have hdk : decide ((k : Int) < n - 1) = false := by simp; omega
      go_wp2
      go_ret
      exact ⟨⟨_, rfl, by omega, by omega⟩, rfl⟩
end Go.Proofs.YtnpkihobbcglcaaGreatDoor

/- E4: The sum of the penalties; the choice of a mask. -/
namespace Go.Proofs.YtnpkihobbcglcaaGreatDoor
open Go Go.RowKit

/-- What rule 3 answers: proved in the text E3. -/
abbrev Rule3 : Prop := ∀ (p r n : Nat) (g : Grid) (w : World), BM w p r n g → 1 ≤ n → n ≤ 50 →
  Calls Tryz.prog 132 #[.pointer (some ⟨p, 0, none⟩)] w fun e w' => (∃ v : Int, e = .returned (.int .i64 v) ∧ 0 ≤ v ∧ v ≤ 2000000) ∧ w = w'

theorem penalty_any (h3 : Rule3) (p r n : Nat) (g : Grid) (w : World) (h : BM w p r n g) (hn0 : 1 ≤ n) (hn : n ≤ 50) :
    Calls Tryz.prog 104 #[.pointer (some ⟨p, 0, none⟩)] w fun e w' => (∃ v : Int, e = .returned (.int .i64 v) ∧ -10000000 ≤ v ∧ v ≤ 10000000) ∧ w = w' := by
  go_enter Tryz.func104, Tryz.ntmps104
  go_wp2_with fail
  with_reducible refine (rule1_all p r n g _ h hn).mono ?_
  rintro e _ ⟨⟨v1, rfl, a1, b1⟩, rfl⟩
  go_wp2_with fail
  with_reducible refine (rule2_any p r n g _ h hn0 hn).mono ?_
  rintro e _ ⟨⟨v2, rfl, a2, b2⟩, rfl⟩
  go_wp2_with fail
  with_reducible refine (h3 p r n g _ h hn0 hn).mono ?_
  rintro e _ ⟨⟨v3, rfl, a3, b3⟩, rfl⟩
  go_wp2_with fail
  with_reducible refine (rule4_any p r n g _ h hn0 hn).mono ?_
  rintro e _ ⟨⟨v4, rfl, a4, b4⟩, rfl⟩
  go_wp2
  go_ret
  exact ⟨⟨_, rfl, by omega, by omega⟩, rfl⟩

set_option maxHeartbeats 4000000 in
theorem chooseMask_any (h3 : Rule3) (q c pv p r v l : Nat) (bs : List Bool) (g : Grid) (w : World) (h : BM w p r (dim v) g) (hb : BitA w q c bs) (hq : ¬ InM r (dim v) q) (hc : ¬ InM r (dim v) c) (hpv : ¬ InM r (dim v) pv)
    (hv : w.cell? ⟨pv, 0, none⟩ = some (.int .i64 v)) (h1 : 1 ≤ v) (h7 : v ≤ 7) (hl : l < 4) (hL : bs.length ≤ 100000)
    (hfull : ∀ m, m < 8 → bs.length ≤ (dataAll bs m (dim v) ((dim v - 1) / 2) (0, baseG v (l * 8 + m))).1) :
    Calls Tryz.prog 60 #[.pointer (some ⟨q, 0, none⟩), .int .i64 l, .pointer (some ⟨pv, 0, none⟩), .pointer (some ⟨p, 0, none⟩)] w fun e w' => (∃ m : Nat, m < 8 ∧ e = .returned (.tuple #[.int .i64 m, .nilIface])) ∧ (∃ g', BM w' p r (dim v) g') ∧ Frm (InM r (dim v)) w w' := by
  have hn0 : 1 ≤ dim v := by unfold dim; omega
  have hn : dim v ≤ 50 := by unfold dim; omega
  have lv := World.block_lt_of_cell? _ _ hv
  obtain ⟨lq, lc, _⟩ := hb.lt
  have HF := Lib.hid hfull
  clear hfull
  have H3 := Lib.hid h3
  clear h3
  go_enter Tryz.func60, Tryz.ntmps60
  go_wp2
  go_loopw [8, 10, 11, 12, 13, 14] (fun _ pen best i _ _ wr => ∃ (k : Nat) (pv' b : Int), k ≤ 8 ∧ i = .int .i64 k ∧ pen = .int .i64 pv' ∧ best = .int .i64 b ∧ (k = 0 ∧ pv' = 2147483647 ∧ b = -1 ∨ 1 ≤ k ∧ pv' ≤ 10000000 ∧ 0 ≤ b ∧ b < k) ∧ (∃ g', BM wr p r (dim v) g') ∧ Frm (InM r (dim v)) w wr) (fun _ _ _ i _ _ _ => 8 - (intOf i).toNat)
  case atStart => exact ⟨0, _, _, Nat.zero_le _, rfl, rfl, rfl, .inl ⟨rfl, rfl, rfl⟩, ⟨g, h⟩, Frm.refl _ _⟩
  case round =>
    obtain ⟨k, pv', b, hk, rfl, rfl, rfl, hb2, ⟨g', mb⟩, fb⟩ := hrel
    have vb : wr.cell? ⟨pv, 0, none⟩ = some (.int .i64 v) := by rw [fb.cell lv hpv]; exact hv
    have qb := hb.frm fb hq hc
    by_cases hlt : k < 8
    · have hdk : decide ((k : Int) < 8) = true := by simp; omega
      go_wp2_with fail
      with_reducible refine (buildMatrix_any q c pv p r v l k bs _ _ mb qb hq hc hpv vb h1 h7 hl hlt hL (HF.out k hlt)).mono ?_
      rintro e w1 ⟨rfl, m1, f1⟩
      go_wp2_with fail
      with_reducible refine (penalty_any H3.out p r (dim v) _ _ m1 hn0 hn).mono ?_
      rintro e _ ⟨⟨x, rfl, x1, x2⟩, rfl⟩
      by_cases hx : x < pv'
      · have hdx : decide (x < pv') = true := by simpa using hx
        go_wp2
        exact ⟨⟨k + 1, _, _, by omega, by go_num, rfl, rfl, .inr ⟨by omega, by omega, by omega, by omega⟩, ⟨_, m1⟩, fb.trans f1⟩, by simp [intOf]; omega⟩
      · have hdx : decide (x < pv') = false := by simpa using hx
        go_wp2
        exact ⟨⟨k + 1, _, _, by omega, by go_num, rfl, rfl, .inr ⟨by omega, by omega, by omega, by omega⟩, ⟨_, m1⟩, fb.trans f1⟩, by simp [intOf]; omega⟩
    · obtain rfl : k = 8 := by omega
      go_wp2
      go_ret2
      refine ⟨⟨b.toNat, by omega, ?_⟩, ⟨_, mb⟩, fb⟩
      rw [Int.toNat_of_nonneg (by omega)]
      rfl
end Go.Proofs.YtnpkihobbcglcaaGreatDoor

/- Z1: The zigzag: its cells are all different, and what is laid along it stands there. No program in sight. -/
namespace Go.Proofs.YtnpkihobbcglcaaGreatDoor

theorem iterN_add {σ : Type} (f : Nat → σ → σ) (a b : Nat) (s : σ) : iterN f (a + b) s = iterN (fun i => f (a + i)) b (iterN f a s) := by
  induction b with
  | zero => rfl
  | succ b ih => rw [← Nat.add_assoc, iterN_succ, iterN_succ, ih]

theorem iterN_flat {σ : Type} (F : Nat → Nat → σ → σ) (n : Nat) (hn : 0 < n) (K : Nat) (s : σ) :
    iterN (fun c s => iterN (fun u s => F c u s) n s) K s = iterN (fun t s => F (t / n) (t % n) s) (K * n) s := by
  induction K with
  | zero => rw [Nat.zero_mul]; rfl
  | succ K ih =>
    rw [iterN_succ, ih, Nat.succ_mul, iterN_add]
    refine (iterN_congr _ _ n ?_ _).symm
    intro u s hu
    have h1 : (K * n + u) / n = K := by rw [Nat.mul_comm, Nat.mul_add_div hn, Nat.div_eq_of_lt hu]; omega
    have h2 : (K * n + u) % n = u := by rw [Nat.mul_comm, Nat.mul_add_mod, Nat.mod_eq_of_lt hu]
    rw [h1, h2]

/-- The zigzag's cell with the number t, in a square of n. -/
def zX (n t : Nat) : Nat := colX n (t / (n * 2)) - t % (n * 2) % 2
def zY (n t : Nat) : Nat := rowY n (t / (n * 2)) (t % (n * 2) / 2)
def zN (n : Nat) : Nat := (n - 1) / 2 * (n * 2)

theorem zig_flat {σ : Type} (F : Nat → Nat → σ → σ) (n : Nat) (hn : 0 < n) (K : Nat) (s : σ) :
    iterN (fun c s => iterN (fun k s => iterN (fun i s => F (colX n c - i) (rowY n c k) s) 2 s) n s) K s = iterN (fun t s => F (zX n t) (zY n t) s) (K * (n * 2)) s := by
  have h1 : (fun c s => iterN (fun k s => iterN (fun i s => F (colX n c - i) (rowY n c k) s) 2 s) n s) = (fun c s => iterN (fun u s => F (colX n c - u % 2) (rowY n c (u / 2)) s) (n * 2) s) := by
    funext c s
    exact iterN_flat (fun k i s => F (colX n c - i) (rowY n c k) s) 2 (by omega) n s
  rw [h1]
  exact iterN_flat (fun c u s => F (colX n c - u % 2) (rowY n c (u / 2)) s) (n * 2) (by omega) K s

theorem zig_parts (n t : Nat) (hn : 9 ≤ n) (_ho : n % 2 = 1) (ht : t < zN n) : ∃ c k i, c < (n - 1) / 2 ∧ k < n ∧ i < 2 ∧ t = c * (n * 2) + (k * 2 + i) ∧ zX n t = colX n c - i ∧ zY n t = rowY n c k := by
  refine ⟨t / (n * 2), t % (n * 2) / 2, t % (n * 2) % 2, ?_, ?_, by omega, ?_, rfl, rfl⟩
  · exact Nat.div_lt_of_lt_mul (by rw [Nat.mul_comm]; exact ht)
  · have := Nat.mod_lt t (show n * 2 > 0 by omega); omega
  · have h1 := Nat.div_add_mod t (n * 2)
    have h2 := Nat.div_add_mod (t % (n * 2)) 2
    rw [Nat.mul_comm (t / (n * 2))]
    omega

theorem zig_lt (n t : Nat) (hn : 9 ≤ n) (ho : n % 2 = 1) (ht : t < zN n) : zX n t < n ∧ zY n t < n := by
  obtain ⟨c, k, i, hc, hk, hi, _, ex, ey⟩ := zig_parts n t hn ho ht
  rw [ex, ey]
  unfold colX rowY
  constructor
  · split <;> omega
  · split <;> omega

theorem zig_inj (n s t : Nat) (hn : 9 ≤ n) (ho : n % 2 = 1) (hs : s < zN n) (ht : t < zN n) (ex : zX n s = zX n t) (ey : zY n s = zY n t) : s = t := by
  obtain ⟨c, k, i, hc, hk, hi, es, e1, e2⟩ := zig_parts n s hn ho hs
  obtain ⟨c', k', i', hc', hk', hi', et, e3, e4⟩ := zig_parts n t hn ho ht
  rw [e1, e3] at ex
  rw [e2, e4] at ey
  clear e1 e2 e3 e4 hs ht
  have hci : c = c' ∧ i = i' := by
    unfold colX at ex
    split at ex <;> split at ex <;> omega
  obtain ⟨rfl, rfl⟩ := hci
  have hkk : k = k' := by
    unfold rowY at ey
    split at ey <;> omega
  subst hkk
  rw [es, et]

/-- How many of the first t cells of the zigzag are empty. -/
def zCnt (g : Grid) (n : Nat) : Nat → Nat
  | 0 => 0
  | t + 1 => zCnt g n t + (if gget g (zX n t) (zY n t) = -1 then 1 else 0)

theorem bit01_ne (b : Bool) : bit01 b ≠ -1 := by cases b <;> decide

theorem zig_fill (bits : List Bool) (m n : Nat) (g0 : Grid) (hn : 9 ≤ n) (ho : n % 2 = 1) (hg : Sq n g0) : ∀ T, T ≤ zN n → ∀ r, r = iterN (fun t s => dataCell bits m (zX n t) (zY n t) s) T (0, g0) →
    r.1 = zCnt g0 n T ∧ Sq n r.2 ∧ (∀ x y, gget g0 x y ≠ -1 → gget r.2 x y = gget g0 x y) ∧
    (∀ t, t < T → gget g0 (zX n t) (zY n t) = -1 → gget r.2 (zX n t) (zY n t) = bit01 (bits.getD (zCnt g0 n t) false ^^ maskBit m (zX n t) (zY n t))) ∧
    (∀ t, T ≤ t → t < zN n → gget r.2 (zX n t) (zY n t) = gget g0 (zX n t) (zY n t)) := by
  intro T
  induction T with
  | zero => rintro _ r rfl; exact ⟨rfl, hg, fun _ _ _ => rfl, fun t h => absurd h (by omega), fun _ _ _ => rfl⟩
  | succ T ih =>
    rintro hT r hr
    rw [iterN_succ] at hr
    obtain ⟨h1, h2, h3, h4, h5⟩ := ih (by omega) _ rfl
    generalize iterN (fun t s => dataCell bits m (zX n t) (zY n t) s) T (0, g0) = q at *
    obtain ⟨i, g⟩ := q
    simp only at h1 h2 h3 h4 h5
    obtain ⟨lx, ly⟩ := zig_lt n T hn ho (by omega)
    have h5T := h5 T (by omega) (by omega)
    unfold dataCell at hr
    simp only [beq_iff_eq] at hr
    by_cases he : gget g0 (zX n T) (zY n T) = -1
    · rw [if_pos (by rw [h5T]; exact he)] at hr
      subst hr
      refine ⟨by simp [zCnt, he, h1], h2.set _ _ _, ?_, ?_, ?_⟩
      · intro x y hxy
        simp only
        rw [gget_gset h2 _ _ _ _ _ lx ly]
        split
        · rename_i h; obtain ⟨rfl, rfl⟩ := h; exact absurd he hxy
        · exact h3 x y hxy
      · intro t ht hte
        simp only
        rw [gget_gset h2 _ _ _ _ _ lx ly]
        split
        · rename_i h
          have : t = T := zig_inj n t T hn ho (by omega) (by omega) h.1 h.2
          subst this
          rw [h1]
        · rename_i h
          have hne : t ≠ T := fun e => h (by subst e; exact ⟨rfl, rfl⟩)
          exact h4 t (by omega) hte
      · intro t ht ht2
        simp only
        rw [gget_gset h2 _ _ _ _ _ lx ly]
        split
        · rename_i h
          have : t = T := zig_inj n t T hn ho (by omega) (by omega) h.1 h.2
          omega
        · exact h5 t (by omega) ht2
    · rw [if_neg (by rw [h5T]; exact he)] at hr
      subst hr
      refine ⟨by simp [zCnt, he, h1], h2, h3, ?_, ?_⟩
      · intro t ht hte
        by_cases e : t = T
        · subst e; exact absurd hte he
        · exact h4 t (by omega) hte
      · intro t ht ht2; exact h5 t (by omega) ht2

theorem dataAll_flat (bits : List Bool) (m n : Nat) (hn : 0 < n) (s : Nat × Grid) : dataAll bits m n ((n - 1) / 2) s = iterN (fun t s => dataCell bits m (zX n t) (zY n t) s) (zN n) s :=
  zig_flat (fun x y s => dataCell bits m x y s) n hn ((n - 1) / 2) s
end Go.Proofs.YtnpkihobbcglcaaGreatDoor

/- Z2: The empty cells do not turn on the type's bits; how many they are. No program in sight. -/
namespace Go.Proofs.YtnpkihobbcglcaaGreatDoor

/-- Two squares with the same empty cells. -/
structure SameE (n : Nat) (g h : Grid) : Prop where
  sq : Sq n g
  sq' : Sq n h
  same : ∀ x y, gget g x y = -1 ↔ gget h x y = -1

theorem SameE.set {n : Nat} {g h : Grid} (k : SameE n g h) (x y : Nat) (a b : Int) (hx : x < n) (hy : y < n) (ha : a ≠ -1) (hb : b ≠ -1) : SameE n (gset g x y a) (gset h x y b) := by
  refine ⟨k.sq.set _ _ _, k.sq'.set _ _ _, fun u v => ?_⟩
  rw [gget_gset k.sq _ _ _ _ _ hx hy, gget_gset k.sq' _ _ _ _ _ hx hy]
  split
  · exact ⟨fun e => absurd e ha, fun e => absurd e hb⟩
  · exact k.same u v

theorem ticAt_lt : ∀ i, i < 15 → (ticAt i 0).toNat < 9 ∧ (ticAt i 1).toNat < 9 := by decide

theorem SameE.type {n : Nat} {g h : Grid} (hs : SameE n g h) (hn : 21 ≤ n) (bs cs : List Bool) : ∀ k, k ≤ 15 → SameE n (typeG n bs k g) (typeG n cs k h) := by
  intro k
  induction k with
  | zero => intro _; exact hs
  | succ k ih =>
    intro hk
    have h0 := ih (by omega)
    show SameE n (typeStep n bs k (typeG n bs k g)) (typeStep n cs k (typeG n cs k h))
    generalize typeG n bs k g = p at h0
    generalize typeG n cs k h = q at h0
    obtain ⟨t1, t2⟩ := ticAt_lt k (by omega)
    have h1 := h0.set (ticAt k 0).toNat (ticAt k 1).toNat (bit01 (bs.getD (14 - k) false)) (bit01 (cs.getD (14 - k) false)) (by omega) (by omega) (bit01_ne _) (bit01_ne _)
    unfold typeStep
    simp only []
    split
    · exact h1.set _ _ _ _ (by omega) (by omega) (bit01_ne _) (bit01_ne _)
    · exact (h1.set _ _ _ _ (by omega) (by omega) (bit01_ne _) (bit01_ne _)).set _ _ _ _ (by omega) (by omega) (bit01_ne _) (bit01_ne _)

theorem SameE.verRow {n : Nat} {g h : Grid} (hs : SameE n g h) (hn : 21 ≤ n) (bs : List Bool) (i : Nat) (hi : i < 6) : ∀ k, k ≤ 3 → SameE n (verRow n bs i k g) (verRow n bs i k h) := by
  intro k
  induction k with
  | zero => intro _; exact hs
  | succ k ih =>
    intro hk
    have h0 := ih (by omega)
    show SameE n (verCell n bs i k (Go.Proofs.YtnpkihobbcglcaaGreatDoor.verRow n bs i k g)) (verCell n bs i k (Go.Proofs.YtnpkihobbcglcaaGreatDoor.verRow n bs i k h))
    unfold verCell
    exact (h0.set _ _ _ _ (by omega) (by omega) (bit01_ne _) (bit01_ne _)).set _ _ _ _ (by omega) (by omega) (bit01_ne _) (bit01_ne _)

theorem SameE.ver {n : Nat} {g h : Grid} (hs : SameE n g h) (hn : 21 ≤ n) (bs : List Bool) : ∀ k, k ≤ 6 → SameE n (verG n bs k g) (verG n bs k h) := by
  intro k
  induction k with
  | zero => intro _; exact hs
  | succ k ih =>
    intro hk
    exact (ih (by omega)).verRow hn bs k (by omega) 3 (by omega)

theorem SameE.maybe {v : Nat} {g h : Grid} (hs : SameE (dim v) g h) (hv : 1 ≤ v) : SameE (dim v) (maybeVerG v g) (maybeVerG v h) := by
  unfold maybeVerG
  split
  · exact hs
  · exact hs.ver (by unfold dim; omega) _ 6 (by omega)

theorem zCnt_same (n : Nat) (g h : Grid) (hs : SameE n g h) (t : Nat) : zCnt g n t = zCnt h n t := by
  induction t with
  | zero => rfl
  | succ t ih => unfold zCnt; rw [ih]; congr 1; simp only [hs.same]

def sqOk (n : Nat) (g : Grid) : Bool := decide (g.length = n) && g.all (fun r => decide (r.length = n))
theorem sq_of (n : Nat) (g : Grid) (h : sqOk n g = true) : Sq n g := by
  unfold sqOk at h
  rw [Bool.and_eq_true, decide_eq_true_eq, List.all_eq_true] at h
  refine ⟨h.1, fun y hy => ?_⟩
  have hl : y < g.length := by rw [h.1]; exact hy
  have := h.2 g[y] (List.getElem_mem hl)
  rw [decide_eq_true_eq] at this
  rw [List.getD_eq_getElem?_getD, List.getElem?_eq_getElem hl]
  exact this

theorem emptyG_sq : ∀ v, v < 8 → sqOk (dim v) (emptyG v) = true := by decide +kernel
theorem baseG_same (v : Nat) (t : Nat) (h1 : 1 ≤ v) (h7 : v ≤ 7) : SameE (dim v) (baseG v t) (baseG v 0) := by
  have hs := sq_of _ _ (emptyG_sq v (by omega))
  have : SameE (dim v) (emptyG v) (emptyG v) := ⟨hs, hs, fun _ _ => Iff.rfl⟩
  exact (this.type (by unfold dim; omega) _ _ 15 (by omega)).maybe h1

/-- The data modules of the versions 1 to 7. -/
def cellsOf (v : Nat) : Nat := [0, 208, 359, 567, 807, 1079, 1383, 1568].getD v 0
theorem cells_all : ∀ v, v < 8 → 1 ≤ v → zCnt (baseG v 0) (dim v) (zN (dim v)) = cellsOf v := by decide +kernel
theorem cells_any (v t : Nat) (h1 : 1 ≤ v) (h7 : v ≤ 7) : zCnt (baseG v t) (dim v) (zN (dim v)) = cellsOf v := by
  rw [zCnt_same _ _ _ (baseG_same v t h1 h7), cells_all v (by omega) h1]
theorem full_any (v t m : Nat) (bs : List Bool) (h1 : 1 ≤ v) (h7 : v ≤ 7) : (dataAll bs m (dim v) ((dim v - 1) / 2) (0, baseG v t)).1 = cellsOf v := by
  rw [dataAll_flat bs m (dim v) (by unfold dim; omega)]
  have := (zig_fill bs m (dim v) (baseG v t) (by unfold dim; omega) (by unfold dim; omega) (baseG_same v t h1 h7).sq (zN (dim v)) (Nat.le_refl _) _ rfl).1
  rw [this, cells_any v t h1 h7]
end Go.Proofs.YtnpkihobbcglcaaGreatDoor
