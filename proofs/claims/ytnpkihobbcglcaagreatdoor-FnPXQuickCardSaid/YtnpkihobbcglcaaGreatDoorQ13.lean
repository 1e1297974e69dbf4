/- The field and its polynomials in memory: the small methods. A new polynomial: leading zeros off. The field made. -/
import Derived.Test.YtnpkihobbcglcaaGreatDoorQ01
import Derived.Test.YtnpkihobbcglcaaGreatDoorQ03
import Derived.Test.YtnpkihobbcglcaaGreatDoorQ04
import Derived.Test.YtnpkihobbcglcaaGreatDoorQ05
import Derived.BigQuiet
set_option linter.unusedSimpArgs false
set_option linter.unusedVariables false

/- F3: The field and its polynomials in memory: the small methods. -/
namespace Go.Proofs.YtnpkihobbcglcaaGreatDoor
open Go Go.RowKit

/-- A polynomial in memory: its object, the row under it. -/
structure GPo (w : World) (p f b off : Nat) (xs cs : List Nat) : Prop where
  obj : Blk w p #[.pointer (some ⟨f, 0, none⟩), .slice (some ⟨b, off, none⟩) cs.length cs.length] 289
  row : Nats w b .i64 3 xs
  cut : xs.drop off = cs
  lt : off < xs.length
  ne : p ≠ b
  small : xs.length ≤ 2000
  norm : Norm cs
  bytes : Bytes cs
def GP (w : World) (p f : Nat) (cs : List Nat) : Prop := ∃ b off xs, GPo w p f b off xs cs
theorem GPo.frm {S : Nat → Prop} {w w' : World} {p f b off : Nat} {xs cs : List Nat} (h : GPo w p f b off xs cs) (hf : Frm S w w') (hp : ¬ S p) (hb : ¬ S b) : GPo w' p f b off xs cs :=
  ⟨h.obj.frm hf hp, h.row.frm hf hb, h.cut, h.lt, h.ne, h.small, h.norm, h.bytes⟩
theorem GP.kept {w w' : World} {p f : Nat} {cs : List Nat} (h : GP w p f cs) (hf : Kept w w') : GP w' p f cs :=
  let ⟨b, off, xs, h⟩ := h; ⟨b, off, xs, h.frm hf (fun h => h) (fun h => h)⟩
theorem GPo.len {w : World} {p f b off : Nat} {xs cs : List Nat} (h : GPo w p f b off xs cs) : cs.length = xs.length - off := by rw [← h.cut, List.length_drop]
theorem GPo.cell {w : World} {p f b off : Nat} {xs cs : List Nat} (h : GPo w p f b off xs cs) (i : Nat) (hi : i < cs.length) : w.cell? ⟨b, off + i, none⟩ = some (.int .i64 ((cs.getD i 0 : Nat) : Int)) := by
  have hl := h.len
  rw [h.row.cell (off + i) (by omega), ← h.cut]
  simp [List.getD_eq_getElem?_getD, List.getElem?_drop]

def geL : List Nat := (List.range 256).map ge
def glL : List Nat := (List.range 256).map gl
/-- The field in memory. -/
structure GF (w : World) (f e l z o : Nat) : Prop where
  obj : Blk w f #[.slice (some ⟨e, 0, none⟩) 256 256, .slice (some ⟨l, 0, none⟩) 256 256, .pointer (some ⟨z, 0, none⟩), .pointer (some ⟨o, 0, none⟩), .int .i64 256, .int .i64 285, .int .i64 0] 242
  exps : Nats w e .i64 3 geL
  logs : Nats w l .i64 3 glL
  zero : GP w z f [0]
theorem GF.kept {w w' : World} {f e l z o : Nat} (h : GF w f e l z o) (hf : Kept w w') : GF w' f e l z o :=
  ⟨h.obj.frm hf (fun h => h), h.exps.frm hf (fun h => h), h.logs.frm hf (fun h => h), h.zero.kept hf⟩
theorem GF.exp {w : World} {f e l z o : Nat} (h : GF w f e l z o) (i : Nat) (hi : i < 256) : w.cell? ⟨e, i, none⟩ = some (.int .i64 (ge i : Nat)) := by
  rw [h.exps.cell i (by simpa [geL] using hi)]
  simp [geL, List.getD_eq_getElem?_getD, hi]
theorem GF.log {w : World} {f e l z o : Nat} (h : GF w f e l z o) (i : Nat) (hi : i < 256) : w.cell? ⟨l, i, none⟩ = some (.int .i64 (gl i : Nat)) := by
  rw [h.logs.cell i (by simpa [glL] using hi)]
  simp [glL, List.getD_eq_getElem?_getD, hi]

theorem gfZero (f e l z o : Nat) (w : World) (h : GF w f e l z o) : Calls Tryz.prog 203 #[.pointer (some ⟨f, 0, none⟩)] w fun r w' => r = .returned (.pointer (some ⟨z, 0, none⟩)) ∧ w = w' := by
  have c := h.obj.cell 2
  simp at c
  clear h
  go_enter Tryz.func203, Tryz.ntmps203
  go_wp2
  go_ret
  exact ⟨rfl, rfl⟩
theorem gfBase (f e l z o : Nat) (w : World) (h : GF w f e l z o) : Calls Tryz.prog 201 #[.pointer (some ⟨f, 0, none⟩)] w fun r w' => r = .returned (.int .i64 0) ∧ w = w' := by
  have c := h.obj.cell 6
  simp at c
  clear h
  go_enter Tryz.func201, Tryz.ntmps201
  go_wp2
  go_ret
  exact ⟨rfl, rfl⟩
theorem gfExp (f e l z o : Nat) (i : Int) (w : World) (h : GF w f e l z o) (h0 : 0 ≤ i) (hi : i < 256) : Calls Tryz.prog 200 #[.pointer (some ⟨f, 0, none⟩), .int .i64 i] w fun r w' => r = .returned (.int .i64 (ge i.toNat : Nat)) ∧ w = w' := by
  obtain ⟨k, rfl⟩ := Int.eq_ofNat_of_zero_le h0
  have c := h.obj.cell 0
  simp at c
  have d := h.exp k (by omega)
  clear h
  have hk : k < 256 := by omega
  go_enter Tryz.func200, Tryz.ntmps200
  go_wp2
  go_ret
  rw [Int.toNat_natCast]
  exact ⟨rfl, rfl⟩
theorem gfAdd (a b : Nat) (w : World) (ha : a < 256) (hb : b < 256) : Calls Tryz.prog 242 #[.int .i64 a, .int .i64 b] w fun r w' => r = .returned (.int .i64 (a ^^^ b : Nat)) ∧ w = w' := by
  have hx := i64_xor a b (by omega) (by omega)
  go_enter Tryz.func242, Tryz.ntmps242
  go_wp2
  go_ret
  exact ⟨rfl, rfl⟩
theorem gpIsZero (p f : Nat) (cs : List Nat) (w : World) (h : GP w p f cs) : Calls Tryz.prog 205 #[.pointer (some ⟨p, 0, none⟩)] w fun r w' => r = .returned (.bool (cs.getD 0 0 == 0)) ∧ w = w' := by
  obtain ⟨b, off, xs, h⟩ := h
  have hl := h.len
  have hlt := h.lt
  have c := h.obj.cell 1
  simp at c
  have d := h.cell 0 (by omega)
  have hpos : 0 < cs.length := by omega
  clear h hl
  generalize hv : cs.getD 0 0 = v at d
  simp only [Nat.add_zero] at d
  have HV := Lib.hid hv
  clear hv
  go_enter Tryz.func205, Tryz.ntmps205
  go_wp2
  go_ret
  refine ⟨congrArg (fun b => Ending.returned (Value.bool b)) ?_, rfl⟩
  rw [Bool.eq_iff_iff, beq_iff_eq, beq_iff_eq]
  omega
theorem gpDegree (p f : Nat) (cs : List Nat) (w : World) (h : GP w p f cs) : Calls Tryz.prog 207 #[.pointer (some ⟨p, 0, none⟩)] w fun r w' => r = .returned (.int .i64 ((cs.length : Int) - 1)) ∧ w = w' := by
  obtain ⟨b, off, xs, h⟩ := h
  have hl := h.len
  have hs := h.small
  have hlt := h.lt
  have c := h.obj.cell 1
  simp at c
  have hpos : 0 < cs.length := by omega
  clear h
  go_enter Tryz.func207, Tryz.ntmps207
  go_wp2
  go_ret
  exact ⟨by go_num, rfl⟩
theorem gpCoefs (p f b off : Nat) (xs cs : List Nat) (w : World) (h : GPo w p f b off xs cs) : Calls Tryz.prog 168 #[.pointer (some ⟨p, 0, none⟩)] w fun r w' => r = .returned (.slice (some ⟨b, off, none⟩) cs.length cs.length) ∧ w = w' := by
  have c := h.obj.cell 1
  simp at c
  clear h
  go_enter Tryz.func168, Tryz.ntmps168
  go_wp2
  go_ret
  exact ⟨rfl, rfl⟩

theorem gfMul (f e l z o a b : Nat) (w : World) (h : GF w f e l z o) (ha : a < 256) (hb : b < 256) :
    Calls Tryz.prog 204 #[.pointer (some ⟨f, 0, none⟩), .int .i64 a, .int .i64 b] w fun r w' => r = .returned (.int .i64 (gm a b : Nat)) ∧ ∃ n, w' = w.drewN n := by
  by_cases ha0 : a = 0
  · subst ha0
    have hz : (((0 : Nat) : Int) == 0) = true := by decide
    go_enter Tryz.func204, Tryz.ntmps204
    go_wp2
    go_ret
    rw [zero_gm]
    exact ⟨rfl, 0, rfl⟩
  · have hna : ((a : Int) == 0) = false := by rw [beq_eq_false_iff_ne]; omega
    by_cases hb0 : b = 0
    · subst hb0
      have hz : (((0 : Nat) : Int) == 0) = true := by decide
      go_enter Tryz.func204, Tryz.ntmps204
      go_wp2
      go_ret
      rw [gm_zero]
      exact ⟨rfl, 0, rfl⟩
    · have hnb : ((b : Int) == 0) = false := by rw [beq_eq_false_iff_ne]; omega
      have c0 := h.obj.cell 0
      have c1 := h.obj.cell 1
      have c4 := h.obj.cell 4
      simp at c0 c1 c4
      have da := h.log a ha
      have db := h.log b hb
      have hm := gm_ne a b ha0 hb0
      obtain ⟨g1, g2⟩ := ge_gl a ha ha0
      obtain ⟨g3, g4⟩ := ge_gl b hb hb0
      have HM := Lib.hid hm
      clear g1 g3 hm
      generalize gl a = la at da HM g2
      generalize gl b = lb at db HM g4
      have hmod : (la + lb) % 255 < 255 := Nat.mod_lt _ (by omega)
      have de := h.exp ((la + lb) % 255) (by omega)
      have hmI : (((la + lb) % 255 : Nat) : Int) = ((la : Int) + lb) % 255 := by omega
      have hq1 : (0 : Int) ≤ ((la : Int) + lb) % 255 := by omega
      have hq2 : ((la : Int) + lb) % 255 < 256 := by omega
      clear h
      generalize (la + lb) % 255 = k at de hmod hmI HM
      rw [← hmI] at hq1 hq2
      have hmI' := hmI.symm
      clear hmI
      go_enter Tryz.func204, Tryz.ntmps204
      go_wp2_with fail
      go_quiet (fail)
      go_wp2
      go_ret
      rw [HM.out]
      exact ⟨rfl, _, rfl⟩

theorem gfInverse (f e l z o a : Nat) (w : World) (h : GF w f e l z o) (ha : a < 256) (ha0 : a ≠ 0) :
    Calls Tryz.prog 208 #[.pointer (some ⟨f, 0, none⟩), .int .i64 a] w fun r w' => r = .returned (.tuple #[.int .i64 (ge (255 - gl a) : Nat), .nilIface]) ∧ ∃ n, w' = w.drewN n := by
  have hna : ((a : Int) == 0) = false := by rw [beq_eq_false_iff_ne]; omega
  have c0 := h.obj.cell 0
  have c1 := h.obj.cell 1
  have c4 := h.obj.cell 4
  simp at c0 c1 c4
  have da := h.log a ha
  obtain ⟨g1, g2⟩ := ge_gl a ha ha0
  clear g1
  generalize gl a = la at da g2 ⊢
  have de := h.exp (255 - la) (by omega)
  have e1 : ((255 - la : Nat) : Int) = 256 - (la : Int) - 1 := by omega
  have hk : 255 - la < 256 := by omega
  generalize 255 - la = k at de e1 hk ⊢
  have e2 := e1.symm
  clear h e1
  go_enter Tryz.func208, Tryz.ntmps208
  go_wp2_with fail
  go_quiet (fail)
  go_wp2
  go_ret2
  exact ⟨rfl, _, rfl⟩

theorem gpCoefAt (p f : Nat) (cs : List Nat) (w : World) (i : Int) (h : GP w p f cs) (h0 : 0 ≤ i) (hi : i < cs.length) :
    Calls Tryz.prog 206 #[.pointer (some ⟨p, 0, none⟩), .int .i64 i] w fun r w' => r = .returned (.int .i64 (cs.getD (cs.length - 1 - i.toNat) 0 : Nat)) ∧ ∃ n, w' = w.drewN n := by
  obtain ⟨b, off, xs, h⟩ := h
  obtain ⟨k, rfl⟩ := Int.eq_ofNat_of_zero_le h0
  have hl := h.len
  have hs := h.small
  have c := h.obj.cell 1
  simp at c
  have d := h.cell (cs.length - 1 - k) (by omega)
  have hpos : 0 < cs.length := by omega
  have e1 : ((cs.length - 1 - k : Nat) : Int) = (cs.length : Int) - 1 - k := by omega
  have hj : cs.length - 1 - k < cs.length := by omega
  rw [Int.toNat_natCast]
  generalize cs.getD (cs.length - 1 - k) 0 = v at d ⊢
  generalize cs.length - 1 - k = j at d e1 hj
  have w1 : IntKind.i64.wrap ((cs.length : Int) - 1) = (cs.length : Int) - 1 := wrapi64 _ (by omega) (by omega)
  have w2 : IntKind.i64.wrap ((cs.length : Int) - 1 - k) = (j : Int) := by rw [← e1]; exact wrapi64 _ (by omega) (by omega)
  have hjI : (j : Int) < cs.length := by omega
  clear h e1 hl
  go_enter Tryz.func206, Tryz.ntmps206
  go_wp2_with fail
  go_quiet (fail)
  go_wp2
  go_ret
  exact ⟨rfl, _, rfl⟩
end Go.Proofs.YtnpkihobbcglcaaGreatDoor

/- F4: A new polynomial: leading zeros off. -/
namespace Go.Proofs.YtnpkihobbcglcaaGreatDoor
open Go Go.RowKit

theorem GP.drewN {w : World} {p f : Nat} {cs : List Nat} (h : GP w p f cs) (n : Nat) : GP (w.drewN n) p f cs := h.kept ((Frm.refl _ _).drewN n)
theorem GF.drewN {w : World} {f e l z o : Nat} (h : GF w f e l z o) (n : Nat) : GF (w.drewN n) f e l z o := h.kept ((Frm.refl _ _).drewN n)

/-- A polynomial whose row lies where B says. -/
def GPat (w : World) (p f : Nat) (B : Nat → Prop) (cs : List Nat) : Prop := ∃ b off xs, GPo w p f b off xs cs ∧ B b
theorem GPat.gp {w : World} {p f : Nat} {B : Nat → Prop} {cs : List Nat} (h : GPat w p f B cs) : GP w p f cs := let ⟨b, off, xs, h, _⟩ := h; ⟨b, off, xs, h⟩

set_option maxRecDepth 100000 in
set_option maxHeartbeats 4000000 in
theorem newPoly (f b : Nat) (xs : List Nat) (w : World) (h : Nats w b .i64 3 xs) (h1 : xs ≠ []) (hs : xs.length ≤ 2000) (hby : Bytes xs) :
    Calls Tryz.prog 146 #[.pointer (some ⟨f, 0, none⟩), .slice (some ⟨b, 0, none⟩) xs.length xs.length] w fun r w' => ∃ p, r = .returned (.tuple #[.pointer (some ⟨p, 0, none⟩), .nilIface]) ∧ GPat w' p f (fun k => k = b ∨ w.heap.size ≤ k) (strip xs) ∧ Kept w w' ∧ w.heap.size ≤ p := by
  have hpos : 0 < xs.length := List.length_pos_iff.2 h1
  have hn0 : ((xs.length : Int) == 0) = false := by rw [beq_eq_false_iff_ne]; omega
  have hlb := h.lt
  have hnorm := strip_norm xs h1
  have hbs := strip_bytes xs hby
  have HN := Lib.hid hnorm
  have HB := Lib.hid hbs
  have HBY := Lib.hid hby
  have H1 := Lib.hid h1
  clear hnorm hbs hby h1
  have hplain : strip xs = xs → ∀ w', Blk w' w.heap.size #[.pointer (some ⟨f, 0, none⟩), .slice (some ⟨b, 0, none⟩) xs.length xs.length] 289 → Nats w' b .i64 3 xs → GPat w' w.heap.size f (fun k => k = b ∨ w.heap.size ≤ k) (strip xs) := by
    intro he w' ho hr
    refine ⟨b, 0, xs, ⟨?_, hr, ?_, by omega, by omega, hs, HN.out, HB.out⟩, .inl rfl⟩
    · rw [he]; exact ho
    · rw [he]; rfl
  have HP := Lib.hid hplain
  clear hplain
  have c0 := h.cell 0 hpos
  by_cases hlen : 1 < xs.length
  · have hd1 : decide ((1 : Int) < xs.length) = true := by simp; omega
    by_cases hz : xs.getD 0 0 = 0
    · rw [hz] at c0
      have hzz : (((0 : Nat) : Int) == 0) = true := by decide
      go_enter Tryz.func146, Tryz.ntmps146
      go_wp2
      have hA : Nats (w.alloc (.cells #[.pointer (some ⟨f, 0, none⟩), .slice none 0 0] 289)) b .i64 3 xs := h.alloc _
      go_loop [8] (fun i => ∃ k : Nat, 1 ≤ k ∧ k ≤ xs.length ∧ i = .int .i64 k ∧ Hid (∀ j, j < k → xs.getD j 0 = 0)) (fun i => xs.length - (intOf i).toNat)
      case atStart => exact ⟨1, Nat.le_refl _, by omega, rfl, Lib.hid (fun j hj => by rw [show j = 0 by omega]; exact hz)⟩
      case round =>
        obtain ⟨k, hk1, hk, rfl, HZ⟩ := hrel
        by_cases hlt : k < xs.length
        · have hdk : decide ((k : Int) < xs.length) = true := by simp; omega
          have ck := hA.cell k hlt
          by_cases hzk : xs.getD k 0 = 0
          · rw [hzk] at ck
            go_wp2
            refine ⟨⟨k + 1, by omega, by omega, by go_num, Lib.hid (fun j hj => ?_)⟩, by simp [intOf]; omega⟩
            by_cases e : j = k
            · rw [e]; exact hzk
            · exact HZ.out j (by omega)
          · have hst := strip_drop xs k hlt HZ.out hzk
            have HST := Lib.hid hst
            have hlen2 : (xs.drop k).length = xs.length - k := List.length_drop
            have HL2 := Lib.hid hlen2
            generalize hxk : xs.getD k 0 = xk at ck hzk
            have hxn : ((xk : Int) == 0) = false := by rw [beq_eq_false_iff_ne]; omega
            have hkn : ((k : Int) == xs.length) = false := by rw [beq_eq_false_iff_ne]; omega
            clear hst hlen2 hxk hz c0
            go_wp2
            go_ret2
            refine ⟨w.heap.size, rfl, ⟨b, k, xs, ⟨?_, h.alloc _, ?_, hlt, by omega, hs, HN.out, HB.out⟩, .inl rfl⟩, (Frm.refl _ _).alloc _, Nat.le_refl _⟩
            · rw [HST.out, HL2.out]; exact Blk.new _ _ _
            · exact HST.out.symm
        · obtain rfl : k = xs.length := by omega
          have hst := strip_all xs H1.out HZ.out
          have HST := Lib.hid hst
          have hdk : decide ((xs.length : Int) < xs.length) = false := by simp
          have hkn : ((xs.length : Int) == xs.length) = true := by simp
          clear hst hz c0
          go_wp2
          go_ret2
          have hnew := Nats.new (w.alloc (.cells #[.pointer (some ⟨f, 0, none⟩), .slice (some ⟨w.heap.size + 1, 0, none⟩) 1 1] 289)) .i64 3 [0]
          have hsz : (w.alloc (.cells #[.pointer (some ⟨f, 0, none⟩), .slice (some ⟨w.heap.size + 1, 0, none⟩) 1 1] 289)).heap.size = w.heap.size + 1 := by simp
          rw [hsz] at hnew
          refine ⟨w.heap.size, rfl, ⟨w.heap.size + 1, 0, [0], ⟨?_, hnew, ?_, by simp, by omega, by simp, HN.out, HB.out⟩, .inr (Nat.le_succ _)⟩, ((Frm.refl _ _).alloc _).alloc _, Nat.le_refl _⟩
          · rw [HST.out]; exact (Blk.new _ _ _).alloc _
          · rw [HST.out]; rfl
    · generalize hx0 : xs.getD 0 0 = x0 at c0 hz
      have hst : strip xs = xs := by
        match xs, hlen with
        | x :: y :: r, _ => rw [strip, if_neg]; intro e; exact hz (by rw [← hx0, e]; rfl)
      have HST := Lib.hid hst
      have hxn : ((x0 : Int) == 0) = false := by rw [beq_eq_false_iff_ne]; omega
      clear hst hx0
      go_enter Tryz.func146, Tryz.ntmps146
      go_wp2
      go_ret2
      exact ⟨w.heap.size, rfl, HP.out HST.out _ (Blk.new _ _ _) (h.alloc _), (Frm.refl _ _).alloc _, Nat.le_refl _⟩
  · have hd1 : decide ((1 : Int) < xs.length) = false := by simp; omega
    have hst : strip xs = xs := by
      match xs, hpos, hlen with
      | [x], _, _ => rfl
      | x :: y :: r, _, hl => exact absurd (by simp) hl
    have HST := Lib.hid hst
    clear hst
    go_enter Tryz.func146, Tryz.ntmps146
    go_wp2
    go_ret2
    exact ⟨w.heap.size, rfl, HP.out HST.out _ (Blk.new _ _ _) (h.alloc _), (Frm.refl _ _).alloc _, Nat.le_refl _⟩
end Go.Proofs.YtnpkihobbcglcaaGreatDoor

/- F5: The field made. -/
namespace Go.Proofs.YtnpkihobbcglcaaGreatDoor
open Go Go.RowKit

def geP (k : Nat) : List Nat := (List.range k).map ge ++ List.replicate (256 - k) 0
theorem geP_step (k : Nat) (hk : k < 256) : (geP k).set k (ge k) = geP (k + 1) := by
  unfold geP
  rw [List.set_append_right _ _ (by simp), show k - ((List.range k).map ge).length = 0 by simp, show 256 - k = (256 - (k + 1)) + 1 by omega, List.replicate_succ, List.set_cons_zero, List.range_succ, List.map_append, List.append_assoc]
  rfl
theorem geP_len (k : Nat) (hk : k ≤ 256) : (geP k).length = 256 := by simp [geP]; omega
def lgP : Nat → List Nat
  | 0 => List.replicate 256 0
  | k + 1 => (lgP k).set (ge k) k
theorem lgP_len (k : Nat) : (lgP k).length = 256 := by
  induction k with
  | zero => exact List.length_replicate
  | succ k ih => rw [lgP, List.length_set]; exact ih
theorem lgP_all : lgP 255 = glL := by decide +kernel
theorem geP_all : geP 256 = geL := by simp [geP, geL]
theorem gstep_lt : ∀ x, x < 256 → gstep x < 256 := by decide +kernel
theorem geP_get (k : Nat) (hk : k < 256) : geL.getD k 0 = ge k := by simp [geL, List.getD_eq_getElem?_getD, hk]

set_option maxRecDepth 100000 in
set_option maxHeartbeats 4000000 in
theorem newField (w : World) : Calls Tryz.prog 117 #[.int .i64 285, .int .i64 256, .int .i64 0] w fun r w' => ∃ f e l z o, r = .returned (.pointer (some ⟨f, 0, none⟩)) ∧ GF w' f e l z o ∧ Kept w w' ∧ w.heap.size ≤ f := by
  have hm1 := run_make_ints 117 3 .i64 8 (by kernel_rfl) info3 256 (by omega) (by omega) (w.alloc (.cells #[.slice none 0 0, .slice none 0 0, .pointer none, .pointer none, .int .i64 256, .int .i64 285, .int .i64 0] 242))
  simp only [Int.cast_ofNat_Int] at hm1
  have hm2 := run_make_ints 117 3 .i64 8 (by kernel_rfl) info3 256 (by omega) (by omega) ((w.alloc (.cells #[.slice none 0 0, .slice none 0 0, .pointer none, .pointer none, .int .i64 256, .int .i64 285, .int .i64 0] 242)).alloc (.cells (natCells .i64 (List.replicate 256 0)) 3))
  simp only [Int.cast_ofNat_Int] at hm2
  generalize hrp : List.replicate 256 0 = zs at hm1 hm2
  have HZS := Lib.hid hrp
  clear hrp
  go_enter Tryz.func117, Tryz.ntmps117
  go_wp2
  clear hm1 hm2
  have hob : Blk (((w.alloc (.cells #[.slice none 0 0, .slice none 0 0, .pointer none, .pointer none, .int .i64 256, .int .i64 285, .int .i64 0] 242)).alloc (.cells (natCells .i64 zs) 3)).alloc (.cells (natCells .i64 zs) 3)) w.heap.size #[.slice none 0 0, .slice none 0 0, .pointer none, .pointer none, .int .i64 256, .int .i64 285, .int .i64 0] 242 := ((Blk.new _ _ _).alloc _).alloc _
  have he : Nats (((w.alloc (.cells #[.slice none 0 0, .slice none 0 0, .pointer none, .pointer none, .int .i64 256, .int .i64 285, .int .i64 0] 242)).alloc (.cells (natCells .i64 zs) 3)).alloc (.cells (natCells .i64 zs) 3)) (w.heap.size + 1) .i64 3 zs := by
    have := (Nats.new (w.alloc (.cells #[.slice none 0 0, .slice none 0 0, .pointer none, .pointer none, .int .i64 256, .int .i64 285, .int .i64 0] 242)) .i64 3 zs).alloc (.cells (natCells .i64 zs) 3)
    simpa using this
  have hl : Nats (((w.alloc (.cells #[.slice none 0 0, .slice none 0 0, .pointer none, .pointer none, .int .i64 256, .int .i64 285, .int .i64 0] 242)).alloc (.cells (natCells .i64 zs) 3)).alloc (.cells (natCells .i64 zs) 3)) (w.heap.size + 1 + 1) .i64 3 zs := by
    have := Nats.new ((w.alloc (.cells #[.slice none 0 0, .slice none 0 0, .pointer none, .pointer none, .int .i64 256, .int .i64 285, .int .i64 0] 242)).alloc (.cells (natCells .i64 zs) 3)) .i64 3 zs
    simpa using this
  have hF : Kept w (((w.alloc (.cells #[.slice none 0 0, .slice none 0 0, .pointer none, .pointer none, .int .i64 256, .int .i64 285, .int .i64 0] 242)).alloc (.cells (natCells .i64 zs) 3)).alloc (.cells (natCells .i64 zs) 3)) := (((Frm.refl _ _).alloc _).alloc _).alloc _
  generalize (((w.alloc (.cells #[.slice none 0 0, .slice none 0 0, .pointer none, .pointer none, .int .i64 256, .int .i64 285, .int .i64 0] 242)).alloc (.cells (natCells .i64 zs) 3)).alloc (.cells (natCells .i64 zs) 3)) = w0 at hob he hl hF ⊢
  have z0 : zs = geP 0 := by rw [← HZS.out]; rfl
  have z1 : zs = lgP 0 := by rw [← HZS.out]; rfl
  rw [z0] at he
  rw [z1] at hl
  clear z0 z1 HZS
  go_loopw [10, 11] (fun x i wr => ∃ (k v : Nat), k ≤ 256 ∧ i = .int .i64 k ∧ x = .int .i64 v ∧ v < 256 ∧ (k < 256 → v = ge k) ∧ Blk wr w.heap.size #[.slice none 0 0, .slice none 0 0, .pointer none, .pointer none, .int .i64 256, .int .i64 285, .int .i64 0] 242 ∧ Nats wr (w.heap.size + 1) .i64 3 (geP k) ∧ Nats wr (w.heap.size + 1 + 1) .i64 3 (lgP 0) ∧ Kept w wr) (fun _ i _ => 256 - (intOf i).toNat)
  case atStart => exact ⟨0, 1, Nat.zero_le _, rfl, rfl, by omega, fun _ => ge_step.1.symm, hob, he, hl, hF⟩
  case round =>
    obtain ⟨k, v, hk, rfl, rfl, hv, hge, hob, he, hl, hF⟩ := hrel
    by_cases hlt : k < 256
    · have hgk := hge hlt
      have hG := geP_step k hlt
      have hL := geP_len k hk
      have hcell := he.cell k (by omega)
      have hfree := he.free k
      have hgs := gstep_lt v hv
      have hnext : k + 1 < 256 → gstep v = ge (k + 1) := by
        intro h; rw [ge_step.2 k (by omega), hgk]
      rw [← hgk] at hG
      have HG := Lib.hid hG
      have HNX := Lib.hid hnext
      have HLn := Lib.hid hL
      clear hG hnext hge hgk hL
      have hset := he.set k v
      have hob2 := hob.setOther (a := ⟨w.heap.size + 1, k, none⟩) (show w.heap.size ≠ w.heap.size + 1 by omega) (.int .i64 (v : Nat))
      have hl2 := hl.setOther (a := ⟨w.heap.size + 1, k, none⟩) (show w.heap.size + 1 + 1 ≠ w.heap.size + 1 by omega) (.int .i64 (v : Nat))
      have hF2 := hF.setCell (p := ⟨w.heap.size + 1, k, none⟩) (.inr (show w.heap.size ≤ w.heap.size + 1 by omega)) (.int .i64 (v : Nat))
      rw [HG.out] at hset
      have HSet := Lib.hid hset
      have HO := Lib.hid hob2
      have HL := Lib.hid hl2
      have HF := Lib.hid hF2
      clear hset hob2 hl2 hF2 hob hl hF
      by_cases h2 : 256 ≤ 2 * v
      · have hgv : gstep v = ((2 * v) ^^^ 285) &&& 255 := if_pos h2
        have x1 := i64_xor (2 * v) 285 (by omega) (by omega)
        have x2 := i64_and ((2 * v) ^^^ 285) 255 (by have := Nat.xor_lt_two_pow (n := 9) (x := 2 * v) (y := 285) (by omega) (by omega); omega) (by omega)
        rw [← hgv] at x2
        simp only [Int.natCast_mul, Int.cast_ofNat_Int] at x1 x2
        have hd2 : decide ((256 : Int) ≤ (v : Int) * 2) = true := by simp; omega
        rw [Int.mul_comm] at x1
        have HGV := Lib.hid hgv
        clear hgv
        generalize gstep v = v' at *
        go_wp2
        exact ⟨⟨k + 1, v', by omega, by go_num, rfl, hgs, HNX.out, HO.out, HSet.out, HL.out, HF.out⟩, by simp [intOf]; omega⟩
      · have hgv : gstep v = 2 * v := if_neg h2
        have hd2 : decide ((256 : Int) ≤ (v : Int) * 2) = false := by simp; omega
        have HGV := Lib.hid hgv
        clear hgv
        generalize gstep v = v' at *
        go_wp2
        exact ⟨⟨k + 1, v', by omega, by go_num, congrArg _ (by have := HGV.out; omega), hgs, HNX.out, HO.out, HSet.out, HL.out, HF.out⟩, by simp [intOf]; omega⟩
    · obtain rfl : k = 256 := by omega
      clear hge
      go_wp2
      rw [geP_all] at he
      go_loopw [12] (fun i wx => ∃ (k : Nat), k ≤ 255 ∧ i = .int .i64 k ∧ Blk wx w.heap.size #[.slice none 0 0, .slice none 0 0, .pointer none, .pointer none, .int .i64 256, .int .i64 285, .int .i64 0] 242 ∧ Nats wx (w.heap.size + 1) .i64 3 geL ∧ Nats wx (w.heap.size + 1 + 1) .i64 3 (lgP k) ∧ Kept w wx) (fun i _ => 255 - (intOf i).toNat)
      case atStart => exact ⟨0, Nat.zero_le _, rfl, hob, he, hl, hF⟩
      case round =>
        obtain ⟨k, hk, rfl, hob, he, hl, hF⟩ := hrel
        by_cases hlt : k < 255
        · have hcell := he.cell k (by simp [geL]; omega)
          rw [geP_get k (by omega)] at hcell
          have hgl := ge_lt k
          have hlcell := hl.cell (ge k) (by rw [lgP_len]; exact hgl)
          have hlfree := hl.free (ge k)
          have hset := hl.set (ge k) k
          have hob2 := hob.setOther (a := ⟨w.heap.size + 1 + 1, ge k, none⟩) (show w.heap.size ≠ w.heap.size + 1 + 1 by omega) (.int .i64 (k : Nat))
          have he2 := he.setOther (a := ⟨w.heap.size + 1 + 1, ge k, none⟩) (show w.heap.size + 1 ≠ w.heap.size + 1 + 1 by omega) (.int .i64 (k : Nat))
          have hF2 := hF.setCell (p := ⟨w.heap.size + 1 + 1, ge k, none⟩) (.inr (show w.heap.size ≤ w.heap.size + 1 + 1 by omega)) (.int .i64 (k : Nat))
          have HSet := Lib.hid hset
          have HO := Lib.hid hob2
          have HE := Lib.hid he2
          have HF := Lib.hid hF2
          have hll := lgP_len k
          have HLL := Lib.hid hll
          clear hset hob2 he2 hF2 hob he hF hl hll
          have hdk : decide ((k : Int) < 255) = true := by simp; omega
          generalize hgk : ge k = y at hcell hgl hlcell hlfree HSet HO HE HF
          have HGK := Lib.hid hgk
          clear hgk
          have hyI : (y : Int) < 256 := by omega
          go_wp2
          refine ⟨⟨k + 1, by omega, by go_num, HO.out, HE.out, ?_, HF.out⟩, by simp [intOf]; omega⟩
          rw [lgP, HGK.out]
          exact HSet.out
        · obtain rfl : k = 255 := by omega
          rw [lgP_all] at hl
          have hdk : decide (((255 : Nat) : Int) < 255) = false := by decide
          have hf0 := hob.free 0
          have hf1 := hob.free 1
          have c0 := hob.cell 0
          have c1 := hob.cell 1
          simp at c0 c1
          have B1 : Blk ((wr.setCell ⟨w.heap.size, 0, none⟩ (.slice (some ⟨w.heap.size + 1, 0, none⟩) 256 256)).setCell ⟨w.heap.size, 1, none⟩ (.slice (some ⟨w.heap.size + 1 + 1, 0, none⟩) 256 256)) w.heap.size #[.slice (some ⟨w.heap.size + 1, 0, none⟩) 256 256, .slice (some ⟨w.heap.size + 1 + 1, 0, none⟩) 256 256, .pointer none, .pointer none, .int .i64 256, .int .i64 285, .int .i64 0] 242 := by
            have := (hob.set 0 (.slice (some ⟨w.heap.size + 1, 0, none⟩) 256 256)).set 1 (.slice (some ⟨w.heap.size + 1 + 1, 0, none⟩) 256 256)
            simpa using this
          have E1 := (he.setOther (a := ⟨w.heap.size, 0, none⟩) (show w.heap.size + 1 ≠ w.heap.size by omega) (.slice (some ⟨w.heap.size + 1, 0, none⟩) 256 256)).setOther (a := ⟨w.heap.size, 1, none⟩) (show w.heap.size + 1 ≠ w.heap.size by omega) (.slice (some ⟨w.heap.size + 1 + 1, 0, none⟩) 256 256)
          have L1 := (hl.setOther (a := ⟨w.heap.size, 0, none⟩) (show w.heap.size + 1 + 1 ≠ w.heap.size by omega) (.slice (some ⟨w.heap.size + 1, 0, none⟩) 256 256)).setOther (a := ⟨w.heap.size, 1, none⟩) (show w.heap.size + 1 + 1 ≠ w.heap.size by omega) (.slice (some ⟨w.heap.size + 1 + 1, 0, none⟩) 256 256)
          have F1 := (hF.setCell (p := ⟨w.heap.size, 0, none⟩) (.inr (Nat.le_refl _)) (.slice (some ⟨w.heap.size + 1, 0, none⟩) 256 256)).setCell (p := ⟨w.heap.size, 1, none⟩) (.inr (Nat.le_refl _)) (.slice (some ⟨w.heap.size + 1 + 1, 0, none⟩) 256 256)
          have hsz : ((wr.setCell ⟨w.heap.size, 0, none⟩ (.slice (some ⟨w.heap.size + 1, 0, none⟩) 256 256)).setCell ⟨w.heap.size, 1, none⟩ (.slice (some ⟨w.heap.size + 1 + 1, 0, none⟩) 256 256)).heap.size = wr.heap.size := by simp
          have HSZ := Lib.hid hsz
          clear hob he hl hF hsz
          go_wp2_with fail
          generalize (wr.setCell ⟨w.heap.size, 0, none⟩ (.slice (some ⟨w.heap.size + 1, 0, none⟩) 256 256)).setCell ⟨w.heap.size, 1, none⟩ (.slice (some ⟨w.heap.size + 1 + 1, 0, none⟩) 256 256) = w1 at B1 E1 L1 F1 HSZ ⊢
          clear hf0 hf1 c0 c1
          have hn : Calls Tryz.prog 146 #[.pointer (some ⟨w.heap.size, 0, none⟩), .slice (some ⟨w1.heap.size, 0, none⟩) 1 1] (w1.alloc (.cells #[.int .i64 0] 3)) fun r w' => ∃ p, r = .returned (.tuple #[.pointer (some ⟨p, 0, none⟩), .nilIface]) ∧ GPat w' p w.heap.size (fun k => k = w1.heap.size ∨ (w1.alloc (.cells #[.int .i64 0] 3)).heap.size ≤ k) [0] ∧ Kept (w1.alloc (.cells #[.int .i64 0] 3)) w' ∧ (w1.alloc (.cells #[.int .i64 0] 3)).heap.size ≤ p := newPoly w.heap.size w1.heap.size [0] (w1.alloc (.cells #[.int .i64 0] 3)) (Nats.new w1 .i64 3 [0]) (by simp) (by simp) (by intro c hc; simp at hc; omega)
          rw [HSZ.out] at hn
          with_reducible refine hn.mono ?_
          clear hn
          rintro r w2 ⟨z, rfl, gz, kz, lz⟩
          have K2 : Kept w1 w2 := ((Frm.refl _ _).alloc _).trans kz
          have B2 := B1.frm K2 (fun h => h)
          have E2 := E1.frm K2 (fun h => h)
          have L2 := L1.frm K2 (fun h => h)
          have F2 := F1.trans K2
          have lB := B1.lt
          have hzs : (w1.alloc (.cells #[.int .i64 0] 3)).heap.size = w1.heap.size + 1 := by simp
          have hzne : z ≠ w.heap.size := by omega
          obtain ⟨zb, zo, zxs, gz, hzb⟩ := gz
          have hzbne : zb ≠ w.heap.size := by
            rcases hzb with e | e
            · intro e2; rw [e2] at e; change w.heap.size = wr.heap.size at e; have := HSZ.out; omega
            · intro e2; rw [e2, hzs] at e; omega
          clear hzs hzb
          have g2 := B2.free 2
          have b2 := B2.cell 2
          simp at b2
          have Z3 := gz.frm ((Frm.refl (fun k => k = w.heap.size) w2).setCell (p := ⟨w.heap.size, 2, none⟩) (.inl rfl) (.pointer (some ⟨z, 0, none⟩))) hzne hzbne
          have B3 := B2.set 2 (.pointer (some ⟨z, 0, none⟩))
          simp at B3
          have E3 := E2.setOther (a := ⟨w.heap.size, 2, none⟩) (show w.heap.size + 1 ≠ w.heap.size by omega) (.pointer (some ⟨z, 0, none⟩))
          have L3 := L2.setOther (a := ⟨w.heap.size, 2, none⟩) (show w.heap.size + 1 + 1 ≠ w.heap.size by omega) (.pointer (some ⟨z, 0, none⟩))
          have F3 := F2.setCell (p := ⟨w.heap.size, 2, none⟩) (.inr (Nat.le_refl _)) (.pointer (some ⟨z, 0, none⟩))
          have hsz3 : (w2.setCell ⟨w.heap.size, 2, none⟩ (.pointer (some ⟨z, 0, none⟩))).heap.size = w2.heap.size := by simp
          have HSZ3 := Lib.hid hsz3
          clear B2 E2 L2 F2 gz hsz3 B1 E1 L1 F1 K2 kz
          go_wp2_with fail
          generalize w2.setCell ⟨w.heap.size, 2, none⟩ (.pointer (some ⟨z, 0, none⟩)) = w3 at B3 E3 L3 F3 Z3 HSZ3 ⊢
          clear g2 b2
          have hn : Calls Tryz.prog 146 #[.pointer (some ⟨w.heap.size, 0, none⟩), .slice (some ⟨w3.heap.size, 0, none⟩) 1 1] (w3.alloc (.cells #[.int .i64 1] 3)) fun r w' => ∃ p, r = .returned (.tuple #[.pointer (some ⟨p, 0, none⟩), .nilIface]) ∧ GPat w' p w.heap.size (fun k => k = w3.heap.size ∨ (w3.alloc (.cells #[.int .i64 1] 3)).heap.size ≤ k) [1] ∧ Kept (w3.alloc (.cells #[.int .i64 1] 3)) w' ∧ (w3.alloc (.cells #[.int .i64 1] 3)).heap.size ≤ p := newPoly w.heap.size w3.heap.size [1] (w3.alloc (.cells #[.int .i64 1] 3)) (Nats.new w3 .i64 3 [1]) (by simp) (by simp) (by intro c hc; simp at hc; omega)
          rw [HSZ3.out] at hn
          with_reducible refine hn.mono ?_
          clear hn
          rintro r w4 ⟨o, rfl, go, ko, lo⟩
          have K4 : Kept w3 w4 := ((Frm.refl _ _).alloc _).trans ko
          have B4 := B3.frm K4 (fun h => h)
          have E4 := E3.frm K4 (fun h => h)
          have L4 := L3.frm K4 (fun h => h)
          have F4 := F3.trans K4
          have Z4 := Z3.frm K4 (fun h => h) (fun h => h)
          have g4 := B4.free 3
          have b4 := B4.cell 3
          simp at b4
          have B5 := B4.set 3 (.pointer (some ⟨o, 0, none⟩))
          simp at B5
          have E5 := E4.setOther (a := ⟨w.heap.size, 3, none⟩) (show w.heap.size + 1 ≠ w.heap.size by omega) (.pointer (some ⟨o, 0, none⟩))
          have L5 := L4.setOther (a := ⟨w.heap.size, 3, none⟩) (show w.heap.size + 1 + 1 ≠ w.heap.size by omega) (.pointer (some ⟨o, 0, none⟩))
          have F5 := F4.setCell (p := ⟨w.heap.size, 3, none⟩) (.inr (Nat.le_refl _)) (.pointer (some ⟨o, 0, none⟩))
          have Z5 := Z4.frm ((Frm.refl (fun k => k = w.heap.size) w4).setCell (p := ⟨w.heap.size, 3, none⟩) (.inl rfl) (.pointer (some ⟨o, 0, none⟩))) hzne hzbne
          clear B3 E3 L3 F3 Z3 B4 E4 L4 F4 Z4 K4 ko go
          go_wp2_with fail
          go_ret
          exact ⟨w.heap.size, w.heap.size + 1, w.heap.size + 1 + 1, z, o, rfl, ⟨B5, E5, L5, ⟨zb, zo, zxs, Z5⟩⟩, F5, Nat.le_refl _⟩

theorem qrField (w : World) : Calls Tryz.prog 76 #[] w fun r w' => ∃ f e l z o, r = .returned (.pointer (some ⟨f, 0, none⟩)) ∧ GF w' f e l z o ∧ Kept w w' ∧ w.heap.size ≤ f := by
  go_enter Tryz.func76, Tryz.ntmps76
  go_wp2_with fail
  with_reducible refine (newField _).mono ?_
  rintro r w' ⟨f, e, l, z, o, rfl, g, k, hf⟩
  go_wp2
  go_ret
  exact ⟨f, e, l, z, o, rfl, g, k, hf⟩
end Go.Proofs.YtnpkihobbcglcaaGreatDoor
