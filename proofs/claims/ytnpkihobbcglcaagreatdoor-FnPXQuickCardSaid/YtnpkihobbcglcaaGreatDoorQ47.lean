/- The long conditions of rule 3, conjunct by conjunct. (Printed by gen_e6.py.). -/
import Derived.Test.YtnpkihobbcglcaaGreatDoorQ46
set_option linter.unusedSimpArgs false
set_option linter.unusedVariables false

/- E6: The long conditions of rule 3, conjunct by conjunct. (Printed by gen_e6.py.) -/
namespace Go.Proofs.YtnpkihobbcglcaaGreatDoor
open Go Go.RowKit

theorem want_un {o : Oper} {y : Nat → Option Bool} {g : Nat} {b : Bool} (h : o.guard = some (g, b)) (hy : y g = none) : Region.wanted o y = false := by unfold Region.wanted; rw [h]; simp [hy]
theorem Slots.unyield {a : Act} {f : Nat → Value} (h : Slots a f) {ops : Array Oper} {g c : Nat} (hg : (ops[g]?).bind (·.dst) = some c) (hc : c < 207) (hb : f c = undef) : yielded ops a.tmps g = none := by
  have hv := h.val c
  have hs : a.tmps[c]? = some (f c) := by
    rw [← hv]
    have := h.size
    rw [Array.getD_eq_getD_getElem?, Array.getElem?_eq_getElem (by omega)]
    rfl
  unfold yielded
  rw [hg]
  simp only [Option.bind_some]
  rw [hs, hb]
  rfl

theorem conjH0 {ops : Array Oper} {Q : Exit → Act → World → Prop} {rest : List Oper} {o1 o2 o3 o4 o5 o6 o7 : Oper} {a : Act} {f : Nat → Value} {w : World} {s c g n x y z8 jn : Nat} {k0 : Int} {β : Bool} (h : Slots a f) (h9 : f 9 = .slice (some ⟨x, 0, none⟩) n n) (h8 : f 8 = .int .i64 y) (hn : n ≤ 50) (hcell : ∀ i, i < n → ∃ z : Int, w.cell? ⟨x, i, none⟩ = some (.int .i8 z)) (hbd : β = true → y + 6 < n) (hj : jn ≤ 6)
    (p1 : o1.op = .move (.tmp 9) ∧ o1.guard = some (g, true) ∧ o1.dst = some s)
    (p2 : o2.op = .move (.tmp 8) ∧ o2.guard = some (g, true) ∧ o2.dst = some (s + 1))
    (p3 : o3.op = .indexAddr 124 (.tmp s) (.tmp (s + 1)) ∧ o3.guard = some (g, true) ∧ o3.dst = some (s + 2))
    (p4 : o4.op = .load 57 (.tmp (s + 2)) ∧ o4.guard = some (g, true) ∧ o4.dst = some (s + 3))
    (p5 : o5.op = .binOp .eql 57 (.tmp (s + 3)) (.const (.int .i8 k0)) 57 ∧ o5.guard = some (g, true) ∧ o5.dst = some (s + 4))
    (p6 : o6.op = .pick (.tmp c) (.tmp (s + 4)) (.const (.bool false)) ∧ o6.guard = none ∧ o6.dst = some (s + 5))
    (p7 : o7.op = .move (.tmp (s + 5)) ∧ o7.guard = none ∧ o7.dst = some (s + 6))
    (hg : (ops[g]?).bind (·.dst) = some c) (hc0 : 9 < c) (hc : c < s) (hs : s + 6 < 207) (hβ : f c = .bool β)
    (K : ∀ (a' : Act) (f' : Nat → Value) (β' : Bool), Slots a' f' → (∀ i, i < s ∨ s + 6 < i → f' i = f i) → f' (s + 6) = .bool β' → (β' = true → β = true) → wpList Tryz.prog ops Q rest a' w) :
    wpList Tryz.prog ops Q (o1 :: o2 :: o3 :: o4 :: o5 :: o6 :: o7 :: rest) a w := by
  cases β
  · refine step_skip (want_no p1.2.1 (h.yield hg (by omega) hβ) (by simp)) ?_
    rw [p1.2.2]
    have st1 := h.put s undef (by omega)
    refine step_skip (want_no p2.2.1 (st1.yield hg (by omega) (by simp (disch := omega) only [upd_same, upd_ne]; exact hβ)) (by simp)) ?_
    rw [p2.2.2]
    have st2 := st1.put (s + 1) undef (by omega)
    refine step_skip (want_no p3.2.1 (st2.yield hg (by omega) (by simp (disch := omega) only [upd_same, upd_ne]; exact hβ)) (by simp)) ?_
    rw [p3.2.2]
    have st3 := st2.put (s + 2) undef (by omega)
    refine step_skip (want_no p4.2.1 (st3.yield hg (by omega) (by simp (disch := omega) only [upd_same, upd_ne]; exact hβ)) (by simp)) ?_
    rw [p4.2.2]
    have st4 := st3.put (s + 3) undef (by omega)
    refine step_skip (want_no p5.2.1 (st4.yield hg (by omega) (by simp (disch := omega) only [upd_same, upd_ne]; exact hβ)) (by simp)) ?_
    rw [p5.2.2]
    have st5 := st4.put (s + 4) undef (by omega)
    have r6 := run_pickOp st5 p6.1 (b := false) (by simp (disch := omega) only [upd_same, upd_ne]; exact hβ) w
    rw [if_neg (by simp)] at r6
    refine step_run (want_none p6.2.1) r6 ?_
    rw [p6.2.2]
    have st6 := st5.put (s + 5) (.bool false) (by omega)
    have r7 := run_move st6 p7.1 w
    simp (disch := omega) only [upd_same, upd_ne] at r7
    refine step_run (want_none p7.2.1) r7 ?_
    rw [p7.2.2]
    have st7 := st6.put (s + 6) (.bool false) (by omega)
    exact K _ _ false st7 (fun i hi => by simp (disch := omega) only [upd_ne]) (by simp (disch := omega) only [upd_same]) (fun e => e)
  · have hb := hbd rfl
    obtain ⟨z, hz⟩ := hcell y (by omega)
    have r1 := run_move h p1.1 w
    rw [h9] at r1
    refine step_run (want_yes p1.2.1 (h.yield hg (by omega) hβ)) r1 ?_
    rw [p1.2.2]
    have st1 := h.put s (.slice (some ⟨x, 0, none⟩) n n) (by omega)
    have r2 := run_move st1 p2.1 w
    simp (disch := omega) only [upd_same, upd_ne] at r2
    rw [h8] at r2
    refine step_run (want_yes p2.2.1 (st1.yield hg (by omega) (by simp (disch := omega) only [upd_same, upd_ne]; exact hβ))) r2 ?_
    rw [p2.2.2]
    have st2 := st1.put (s + 1) (.int .i64 y) (by omega)
    refine step_run (want_yes p3.2.1 (st2.yield hg (by omega) (by simp (disch := omega) only [upd_same, upd_ne]; exact hβ))) (run_indexRow st2 p3.1 (b := x) (n := n) (x := y) (by simp (disch := omega) only [upd_same, upd_ne]) (by simp (disch := omega) only [upd_same, upd_ne]) (by omega) w) ?_
    rw [p3.2.2]
    have st3 := st2.put (s + 2) (.pointer (some ⟨x, y, none⟩)) (by omega)
    refine step_run (want_yes p4.2.1 (st3.yield hg (by omega) (by simp (disch := omega) only [upd_same, upd_ne]; exact hβ))) (run_load57 st3 p4.1 (b := x) (x := y) (by simp (disch := omega) only [upd_same, upd_ne]) hz) ?_
    rw [p4.2.2]
    have st4 := st3.put (s + 3) (.int .i8 z) (by omega)
    obtain ⟨bb, r5⟩ := run_eqlOp st4 p5.1 (x := z) (by simp (disch := omega) only [upd_same, upd_ne]) w
    refine step_run (want_yes p5.2.1 (st4.yield hg (by omega) (by simp (disch := omega) only [upd_same, upd_ne]; exact hβ))) r5 ?_
    rw [p5.2.2]
    have st5 := st4.put (s + 4) (.bool bb) (by omega)
    have r6 := run_pickOp st5 p6.1 (b := true) (by simp (disch := omega) only [upd_same, upd_ne]; exact hβ) w
    rw [if_pos rfl] at r6
    simp (disch := omega) only [upd_same, upd_ne] at r6
    refine step_run (want_none p6.2.1) r6 ?_
    rw [p6.2.2]
    have st6 := st5.put (s + 5) (.bool bb) (by omega)
    have r7 := run_move st6 p7.1 w
    simp (disch := omega) only [upd_same, upd_ne] at r7
    refine step_run (want_none p7.2.1) r7 ?_
    rw [p7.2.2]
    have st7 := st6.put (s + 6) (.bool bb) (by omega)
    exact K _ _ bb st7 (fun i hi => by simp (disch := omega) only [upd_ne]) (by simp (disch := omega) only [upd_same]) (fun _ => rfl)
theorem conjH {ops : Array Oper} {Q : Exit → Act → World → Prop} {rest : List Oper} {o1 o2 o3 o4 o5 o6 o7 o8 : Oper} {a : Act} {f : Nat → Value} {w : World} {s c g n x y z8 jn : Nat} {k0 : Int} {β : Bool} (h : Slots a f) (h9 : f 9 = .slice (some ⟨x, 0, none⟩) n n) (h8 : f 8 = .int .i64 y) (hn : n ≤ 50) (hcell : ∀ i, i < n → ∃ z : Int, w.cell? ⟨x, i, none⟩ = some (.int .i8 z)) (hbd : β = true → y + 6 < n) (hj : jn ≤ 6)
    (p1 : o1.op = .move (.tmp 9) ∧ o1.guard = some (g, true) ∧ o1.dst = some s)
    (p2 : o2.op = .move (.tmp 8) ∧ o2.guard = some (g, true) ∧ o2.dst = some (s + 1))
    (p3 : o3.op = .binOp .add 3 (.tmp (s + 1)) (.const (.int .i64 (jn : Nat))) 3 ∧ o3.guard = some (g, true) ∧ o3.dst = some (s + 2))
    (p4 : o4.op = .indexAddr 124 (.tmp s) (.tmp (s + 2)) ∧ o4.guard = some (g, true) ∧ o4.dst = some (s + 3))
    (p5 : o5.op = .load 57 (.tmp (s + 3)) ∧ o5.guard = some (g, true) ∧ o5.dst = some (s + 4))
    (p6 : o6.op = .binOp .eql 57 (.tmp (s + 4)) (.const (.int .i8 k0)) 57 ∧ o6.guard = some (g, true) ∧ o6.dst = some (s + 5))
    (p7 : o7.op = .pick (.tmp c) (.tmp (s + 5)) (.const (.bool false)) ∧ o7.guard = none ∧ o7.dst = some (s + 6))
    (p8 : o8.op = .move (.tmp (s + 6)) ∧ o8.guard = none ∧ o8.dst = some (s + 7))
    (hg : (ops[g]?).bind (·.dst) = some c) (hc0 : 9 < c) (hc : c < s) (hs : s + 7 < 207) (hβ : f c = .bool β)
    (K : ∀ (a' : Act) (f' : Nat → Value) (β' : Bool), Slots a' f' → (∀ i, i < s ∨ s + 7 < i → f' i = f i) → f' (s + 7) = .bool β' → (β' = true → β = true) → wpList Tryz.prog ops Q rest a' w) :
    wpList Tryz.prog ops Q (o1 :: o2 :: o3 :: o4 :: o5 :: o6 :: o7 :: o8 :: rest) a w := by
  cases β
  · refine step_skip (want_no p1.2.1 (h.yield hg (by omega) hβ) (by simp)) ?_
    rw [p1.2.2]
    have st1 := h.put s undef (by omega)
    refine step_skip (want_no p2.2.1 (st1.yield hg (by omega) (by simp (disch := omega) only [upd_same, upd_ne]; exact hβ)) (by simp)) ?_
    rw [p2.2.2]
    have st2 := st1.put (s + 1) undef (by omega)
    refine step_skip (want_no p3.2.1 (st2.yield hg (by omega) (by simp (disch := omega) only [upd_same, upd_ne]; exact hβ)) (by simp)) ?_
    rw [p3.2.2]
    have st3 := st2.put (s + 2) undef (by omega)
    refine step_skip (want_no p4.2.1 (st3.yield hg (by omega) (by simp (disch := omega) only [upd_same, upd_ne]; exact hβ)) (by simp)) ?_
    rw [p4.2.2]
    have st4 := st3.put (s + 3) undef (by omega)
    refine step_skip (want_no p5.2.1 (st4.yield hg (by omega) (by simp (disch := omega) only [upd_same, upd_ne]; exact hβ)) (by simp)) ?_
    rw [p5.2.2]
    have st5 := st4.put (s + 4) undef (by omega)
    refine step_skip (want_no p6.2.1 (st5.yield hg (by omega) (by simp (disch := omega) only [upd_same, upd_ne]; exact hβ)) (by simp)) ?_
    rw [p6.2.2]
    have st6 := st5.put (s + 5) undef (by omega)
    have r7 := run_pickOp st6 p7.1 (b := false) (by simp (disch := omega) only [upd_same, upd_ne]; exact hβ) w
    rw [if_neg (by simp)] at r7
    refine step_run (want_none p7.2.1) r7 ?_
    rw [p7.2.2]
    have st7 := st6.put (s + 6) (.bool false) (by omega)
    have r8 := run_move st7 p8.1 w
    simp (disch := omega) only [upd_same, upd_ne] at r8
    refine step_run (want_none p8.2.1) r8 ?_
    rw [p8.2.2]
    have st8 := st7.put (s + 7) (.bool false) (by omega)
    exact K _ _ false st8 (fun i hi => by simp (disch := omega) only [upd_ne]) (by simp (disch := omega) only [upd_same]) (fun e => e)
  · have hb := hbd rfl
    obtain ⟨z, hz⟩ := hcell (y + jn) (by omega)
    have r1 := run_move h p1.1 w
    rw [h9] at r1
    refine step_run (want_yes p1.2.1 (h.yield hg (by omega) hβ)) r1 ?_
    rw [p1.2.2]
    have st1 := h.put s (.slice (some ⟨x, 0, none⟩) n n) (by omega)
    have r2 := run_move st1 p2.1 w
    simp (disch := omega) only [upd_same, upd_ne] at r2
    rw [h8] at r2
    refine step_run (want_yes p2.2.1 (st1.yield hg (by omega) (by simp (disch := omega) only [upd_same, upd_ne]; exact hβ))) r2 ?_
    rw [p2.2.2]
    have st2 := st1.put (s + 1) (.int .i64 y) (by omega)
    refine step_run (want_yes p3.2.1 (st2.yield hg (by omega) (by simp (disch := omega) only [upd_same, upd_ne]; exact hβ))) (run_addOp st2 p3.1 (x := y) (by simp (disch := omega) only [upd_same, upd_ne]) (by omega) (by omega) (by omega) w) ?_
    rw [p3.2.2]
    have st3 := st2.put (s + 2) (.int .i64 ((y : Int) + (jn : Nat))) (by omega)
    refine step_run (want_yes p4.2.1 (st3.yield hg (by omega) (by simp (disch := omega) only [upd_same, upd_ne]; exact hβ))) (run_indexRow st3 p4.1 (b := x) (n := n) (x := (y + jn)) (by simp (disch := omega) only [upd_same, upd_ne]) (by simp (disch := omega) only [upd_same, upd_ne]; congr 1) (by omega) w) ?_
    rw [p4.2.2]
    have st4 := st3.put (s + 3) (.pointer (some ⟨x, (y + jn), none⟩)) (by omega)
    refine step_run (want_yes p5.2.1 (st4.yield hg (by omega) (by simp (disch := omega) only [upd_same, upd_ne]; exact hβ))) (run_load57 st4 p5.1 (b := x) (x := (y + jn)) (by simp (disch := omega) only [upd_same, upd_ne]) hz) ?_
    rw [p5.2.2]
    have st5 := st4.put (s + 4) (.int .i8 z) (by omega)
    obtain ⟨bb, r6⟩ := run_eqlOp st5 p6.1 (x := z) (by simp (disch := omega) only [upd_same, upd_ne]) w
    refine step_run (want_yes p6.2.1 (st5.yield hg (by omega) (by simp (disch := omega) only [upd_same, upd_ne]; exact hβ))) r6 ?_
    rw [p6.2.2]
    have st6 := st5.put (s + 5) (.bool bb) (by omega)
    have r7 := run_pickOp st6 p7.1 (b := true) (by simp (disch := omega) only [upd_same, upd_ne]; exact hβ) w
    rw [if_pos rfl] at r7
    simp (disch := omega) only [upd_same, upd_ne] at r7
    refine step_run (want_none p7.2.1) r7 ?_
    rw [p7.2.2]
    have st7 := st6.put (s + 6) (.bool bb) (by omega)
    have r8 := run_move st7 p8.1 w
    simp (disch := omega) only [upd_same, upd_ne] at r8
    refine step_run (want_none p8.2.1) r8 ?_
    rw [p8.2.2]
    have st8 := st7.put (s + 7) (.bool bb) (by omega)
    exact K _ _ bb st8 (fun i hi => by simp (disch := omega) only [upd_ne]) (by simp (disch := omega) only [upd_same]) (fun _ => rfl)
theorem conjV0 {ops : Array Oper} {Q : Exit → Act → World → Prop} {rest : List Oper} {o1 o2 o3 o4 o5 o6 o7 o8 o9 o10 : Oper} {a : Act} {f : Nat → Value} {w : World} {s c g n x y z8 jn : Nat} {k0 : Int} {β : Bool} (h : Slots a f) (h4 : f 4 = .slice (some ⟨x, 0, none⟩) n n) (h7 : f 7 = .int .i64 y) (h8 : f 8 = .int .i64 z8) (hn : n ≤ 50) (hm : z8 < n) (htab : ∀ i, i < n → w.cell? ⟨x, i, none⟩ = some (.slice (some ⟨x + 1 + i, 0, none⟩) n n)) (hcell : ∀ i, i < n → ∃ z : Int, w.cell? ⟨x + 1 + i, z8, none⟩ = some (.int .i8 z)) (hbd : β = true → y + 6 < n) (hj : jn ≤ 6)
    (p1 : o1.op = .move (.tmp 4) ∧ o1.guard = some (g, true) ∧ o1.dst = some s)
    (p2 : o2.op = .move (.tmp 7) ∧ o2.guard = some (g, true) ∧ o2.dst = some (s + 1))
    (p3 : o3.op = .indexAddr 121 (.tmp s) (.tmp (s + 1)) ∧ o3.guard = some (g, true) ∧ o3.dst = some (s + 2))
    (p4 : o4.op = .load 124 (.tmp (s + 2)) ∧ o4.guard = some (g, true) ∧ o4.dst = some (s + 3))
    (p5 : o5.op = .move (.tmp 8) ∧ o5.guard = some (g, true) ∧ o5.dst = some (s + 4))
    (p6 : o6.op = .indexAddr 124 (.tmp (s + 3)) (.tmp (s + 4)) ∧ o6.guard = some (g, true) ∧ o6.dst = some (s + 5))
    (p7 : o7.op = .load 57 (.tmp (s + 5)) ∧ o7.guard = some (g, true) ∧ o7.dst = some (s + 6))
    (p8 : o8.op = .binOp .eql 57 (.tmp (s + 6)) (.const (.int .i8 k0)) 57 ∧ o8.guard = some (g, true) ∧ o8.dst = some (s + 7))
    (p9 : o9.op = .pick (.tmp c) (.tmp (s + 7)) (.const (.bool false)) ∧ o9.guard = none ∧ o9.dst = some (s + 8))
    (p10 : o10.op = .move (.tmp (s + 8)) ∧ o10.guard = none ∧ o10.dst = some (s + 9))
    (hg : (ops[g]?).bind (·.dst) = some c) (hc0 : 9 < c) (hc : c < s) (hs : s + 9 < 207) (hβ : f c = .bool β)
    (K : ∀ (a' : Act) (f' : Nat → Value) (β' : Bool), Slots a' f' → (∀ i, i < s ∨ s + 9 < i → f' i = f i) → f' (s + 9) = .bool β' → (β' = true → β = true) → wpList Tryz.prog ops Q rest a' w) :
    wpList Tryz.prog ops Q (o1 :: o2 :: o3 :: o4 :: o5 :: o6 :: o7 :: o8 :: o9 :: o10 :: rest) a w := by
  cases β
  · refine step_skip (want_no p1.2.1 (h.yield hg (by omega) hβ) (by simp)) ?_
    rw [p1.2.2]
    have st1 := h.put s undef (by omega)
    refine step_skip (want_no p2.2.1 (st1.yield hg (by omega) (by simp (disch := omega) only [upd_same, upd_ne]; exact hβ)) (by simp)) ?_
    rw [p2.2.2]
    have st2 := st1.put (s + 1) undef (by omega)
    refine step_skip (want_no p3.2.1 (st2.yield hg (by omega) (by simp (disch := omega) only [upd_same, upd_ne]; exact hβ)) (by simp)) ?_
    rw [p3.2.2]
    have st3 := st2.put (s + 2) undef (by omega)
    refine step_skip (want_no p4.2.1 (st3.yield hg (by omega) (by simp (disch := omega) only [upd_same, upd_ne]; exact hβ)) (by simp)) ?_
    rw [p4.2.2]
    have st4 := st3.put (s + 3) undef (by omega)
    refine step_skip (want_no p5.2.1 (st4.yield hg (by omega) (by simp (disch := omega) only [upd_same, upd_ne]; exact hβ)) (by simp)) ?_
    rw [p5.2.2]
    have st5 := st4.put (s + 4) undef (by omega)
    refine step_skip (want_no p6.2.1 (st5.yield hg (by omega) (by simp (disch := omega) only [upd_same, upd_ne]; exact hβ)) (by simp)) ?_
    rw [p6.2.2]
    have st6 := st5.put (s + 5) undef (by omega)
    refine step_skip (want_no p7.2.1 (st6.yield hg (by omega) (by simp (disch := omega) only [upd_same, upd_ne]; exact hβ)) (by simp)) ?_
    rw [p7.2.2]
    have st7 := st6.put (s + 6) undef (by omega)
    refine step_skip (want_no p8.2.1 (st7.yield hg (by omega) (by simp (disch := omega) only [upd_same, upd_ne]; exact hβ)) (by simp)) ?_
    rw [p8.2.2]
    have st8 := st7.put (s + 7) undef (by omega)
    have r9 := run_pickOp st8 p9.1 (b := false) (by simp (disch := omega) only [upd_same, upd_ne]; exact hβ) w
    rw [if_neg (by simp)] at r9
    refine step_run (want_none p9.2.1) r9 ?_
    rw [p9.2.2]
    have st9 := st8.put (s + 8) (.bool false) (by omega)
    have r10 := run_move st9 p10.1 w
    simp (disch := omega) only [upd_same, upd_ne] at r10
    refine step_run (want_none p10.2.1) r10 ?_
    rw [p10.2.2]
    have st10 := st9.put (s + 9) (.bool false) (by omega)
    exact K _ _ false st10 (fun i hi => by simp (disch := omega) only [upd_ne]) (by simp (disch := omega) only [upd_same]) (fun e => e)
  · have hb := hbd rfl
    obtain ⟨z, hz⟩ := hcell y (by omega)
    have r1 := run_move h p1.1 w
    rw [h4] at r1
    refine step_run (want_yes p1.2.1 (h.yield hg (by omega) hβ)) r1 ?_
    rw [p1.2.2]
    have st1 := h.put s (.slice (some ⟨x, 0, none⟩) n n) (by omega)
    have r2 := run_move st1 p2.1 w
    simp (disch := omega) only [upd_same, upd_ne] at r2
    rw [h7] at r2
    refine step_run (want_yes p2.2.1 (st1.yield hg (by omega) (by simp (disch := omega) only [upd_same, upd_ne]; exact hβ))) r2 ?_
    rw [p2.2.2]
    have st2 := st1.put (s + 1) (.int .i64 y) (by omega)
    refine step_run (want_yes p3.2.1 (st2.yield hg (by omega) (by simp (disch := omega) only [upd_same, upd_ne]; exact hβ))) (run_indexTab st2 p3.1 (b := x) (n := n) (x := y) (by simp (disch := omega) only [upd_same, upd_ne]) (by simp (disch := omega) only [upd_same, upd_ne]) (by omega) w) ?_
    rw [p3.2.2]
    have st3 := st2.put (s + 2) (.pointer (some ⟨x, y, none⟩)) (by omega)
    refine step_run (want_yes p4.2.1 (st3.yield hg (by omega) (by simp (disch := omega) only [upd_same, upd_ne]; exact hβ))) (run_load124 st3 p4.1 (b := x) (x := y) (by simp (disch := omega) only [upd_same, upd_ne]) (htab y (by omega))) ?_
    rw [p4.2.2]
    have st4 := st3.put (s + 3) (.slice (some ⟨x + 1 + y, 0, none⟩) n n) (by omega)
    have r5 := run_move st4 p5.1 w
    simp (disch := omega) only [upd_same, upd_ne] at r5
    rw [h8] at r5
    refine step_run (want_yes p5.2.1 (st4.yield hg (by omega) (by simp (disch := omega) only [upd_same, upd_ne]; exact hβ))) r5 ?_
    rw [p5.2.2]
    have st5 := st4.put (s + 4) (.int .i64 z8) (by omega)
    refine step_run (want_yes p6.2.1 (st5.yield hg (by omega) (by simp (disch := omega) only [upd_same, upd_ne]; exact hβ))) (run_indexRow st5 p6.1 (b := x + 1 + y) (n := n) (x := z8) (by simp (disch := omega) only [upd_same, upd_ne]) (by simp (disch := omega) only [upd_same, upd_ne]) (by omega) w) ?_
    rw [p6.2.2]
    have st6 := st5.put (s + 5) (.pointer (some ⟨x + 1 + y, z8, none⟩)) (by omega)
    refine step_run (want_yes p7.2.1 (st6.yield hg (by omega) (by simp (disch := omega) only [upd_same, upd_ne]; exact hβ))) (run_load57 st6 p7.1 (b := x + 1 + y) (x := z8) (by simp (disch := omega) only [upd_same, upd_ne]) hz) ?_
    rw [p7.2.2]
    have st7 := st6.put (s + 6) (.int .i8 z) (by omega)
    obtain ⟨bb, r8⟩ := run_eqlOp st7 p8.1 (x := z) (by simp (disch := omega) only [upd_same, upd_ne]) w
    refine step_run (want_yes p8.2.1 (st7.yield hg (by omega) (by simp (disch := omega) only [upd_same, upd_ne]; exact hβ))) r8 ?_
    rw [p8.2.2]
    have st8 := st7.put (s + 7) (.bool bb) (by omega)
    have r9 := run_pickOp st8 p9.1 (b := true) (by simp (disch := omega) only [upd_same, upd_ne]; exact hβ) w
    rw [if_pos rfl] at r9
    simp (disch := omega) only [upd_same, upd_ne] at r9
    refine step_run (want_none p9.2.1) r9 ?_
    rw [p9.2.2]
    have st9 := st8.put (s + 8) (.bool bb) (by omega)
    have r10 := run_move st9 p10.1 w
    simp (disch := omega) only [upd_same, upd_ne] at r10
    refine step_run (want_none p10.2.1) r10 ?_
    rw [p10.2.2]
    have st10 := st9.put (s + 9) (.bool bb) (by omega)
    exact K _ _ bb st10 (fun i hi => by simp (disch := omega) only [upd_ne]) (by simp (disch := omega) only [upd_same]) (fun _ => rfl)
theorem conjV {ops : Array Oper} {Q : Exit → Act → World → Prop} {rest : List Oper} {o1 o2 o3 o4 o5 o6 o7 o8 o9 o10 o11 : Oper} {a : Act} {f : Nat → Value} {w : World} {s c g n x y z8 jn : Nat} {k0 : Int} {β : Bool} (h : Slots a f) (h4 : f 4 = .slice (some ⟨x, 0, none⟩) n n) (h7 : f 7 = .int .i64 y) (h8 : f 8 = .int .i64 z8) (hn : n ≤ 50) (hm : z8 < n) (htab : ∀ i, i < n → w.cell? ⟨x, i, none⟩ = some (.slice (some ⟨x + 1 + i, 0, none⟩) n n)) (hcell : ∀ i, i < n → ∃ z : Int, w.cell? ⟨x + 1 + i, z8, none⟩ = some (.int .i8 z)) (hbd : β = true → y + 6 < n) (hj : jn ≤ 6)
    (p1 : o1.op = .move (.tmp 4) ∧ o1.guard = some (g, true) ∧ o1.dst = some s)
    (p2 : o2.op = .move (.tmp 7) ∧ o2.guard = some (g, true) ∧ o2.dst = some (s + 1))
    (p3 : o3.op = .binOp .add 3 (.tmp (s + 1)) (.const (.int .i64 (jn : Nat))) 3 ∧ o3.guard = some (g, true) ∧ o3.dst = some (s + 2))
    (p4 : o4.op = .indexAddr 121 (.tmp s) (.tmp (s + 2)) ∧ o4.guard = some (g, true) ∧ o4.dst = some (s + 3))
    (p5 : o5.op = .load 124 (.tmp (s + 3)) ∧ o5.guard = some (g, true) ∧ o5.dst = some (s + 4))
    (p6 : o6.op = .move (.tmp 8) ∧ o6.guard = some (g, true) ∧ o6.dst = some (s + 5))
    (p7 : o7.op = .indexAddr 124 (.tmp (s + 4)) (.tmp (s + 5)) ∧ o7.guard = some (g, true) ∧ o7.dst = some (s + 6))
    (p8 : o8.op = .load 57 (.tmp (s + 6)) ∧ o8.guard = some (g, true) ∧ o8.dst = some (s + 7))
    (p9 : o9.op = .binOp .eql 57 (.tmp (s + 7)) (.const (.int .i8 k0)) 57 ∧ o9.guard = some (g, true) ∧ o9.dst = some (s + 8))
    (p10 : o10.op = .pick (.tmp c) (.tmp (s + 8)) (.const (.bool false)) ∧ o10.guard = none ∧ o10.dst = some (s + 9))
    (p11 : o11.op = .move (.tmp (s + 9)) ∧ o11.guard = none ∧ o11.dst = some (s + 10))
    (hg : (ops[g]?).bind (·.dst) = some c) (hc0 : 9 < c) (hc : c < s) (hs : s + 10 < 207) (hβ : f c = .bool β)
    (K : ∀ (a' : Act) (f' : Nat → Value) (β' : Bool), Slots a' f' → (∀ i, i < s ∨ s + 10 < i → f' i = f i) → f' (s + 10) = .bool β' → (β' = true → β = true) → wpList Tryz.prog ops Q rest a' w) :
    wpList Tryz.prog ops Q (o1 :: o2 :: o3 :: o4 :: o5 :: o6 :: o7 :: o8 :: o9 :: o10 :: o11 :: rest) a w := by
  cases β
  · refine step_skip (want_no p1.2.1 (h.yield hg (by omega) hβ) (by simp)) ?_
    rw [p1.2.2]
    have st1 := h.put s undef (by omega)
    refine step_skip (want_no p2.2.1 (st1.yield hg (by omega) (by simp (disch := omega) only [upd_same, upd_ne]; exact hβ)) (by simp)) ?_
    rw [p2.2.2]
    have st2 := st1.put (s + 1) undef (by omega)
    refine step_skip (want_no p3.2.1 (st2.yield hg (by omega) (by simp (disch := omega) only [upd_same, upd_ne]; exact hβ)) (by simp)) ?_
    rw [p3.2.2]
    have st3 := st2.put (s + 2) undef (by omega)
    refine step_skip (want_no p4.2.1 (st3.yield hg (by omega) (by simp (disch := omega) only [upd_same, upd_ne]; exact hβ)) (by simp)) ?_
    rw [p4.2.2]
    have st4 := st3.put (s + 3) undef (by omega)
    refine step_skip (want_no p5.2.1 (st4.yield hg (by omega) (by simp (disch := omega) only [upd_same, upd_ne]; exact hβ)) (by simp)) ?_
    rw [p5.2.2]
    have st5 := st4.put (s + 4) undef (by omega)
    refine step_skip (want_no p6.2.1 (st5.yield hg (by omega) (by simp (disch := omega) only [upd_same, upd_ne]; exact hβ)) (by simp)) ?_
    rw [p6.2.2]
    have st6 := st5.put (s + 5) undef (by omega)
    refine step_skip (want_no p7.2.1 (st6.yield hg (by omega) (by simp (disch := omega) only [upd_same, upd_ne]; exact hβ)) (by simp)) ?_
    rw [p7.2.2]
    have st7 := st6.put (s + 6) undef (by omega)
    refine step_skip (want_no p8.2.1 (st7.yield hg (by omega) (by simp (disch := omega) only [upd_same, upd_ne]; exact hβ)) (by simp)) ?_
    rw [p8.2.2]
    have st8 := st7.put (s + 7) undef (by omega)
    refine step_skip (want_no p9.2.1 (st8.yield hg (by omega) (by simp (disch := omega) only [upd_same, upd_ne]; exact hβ)) (by simp)) ?_
    rw [p9.2.2]
    have st9 := st8.put (s + 8) undef (by omega)
    have r10 := run_pickOp st9 p10.1 (b := false) (by simp (disch := omega) only [upd_same, upd_ne]; exact hβ) w
    rw [if_neg (by simp)] at r10
    refine step_run (want_none p10.2.1) r10 ?_
    rw [p10.2.2]
    have st10 := st9.put (s + 9) (.bool false) (by omega)
    have r11 := run_move st10 p11.1 w
    simp (disch := omega) only [upd_same, upd_ne] at r11
    refine step_run (want_none p11.2.1) r11 ?_
    rw [p11.2.2]
    have st11 := st10.put (s + 10) (.bool false) (by omega)
    exact K _ _ false st11 (fun i hi => by simp (disch := omega) only [upd_ne]) (by simp (disch := omega) only [upd_same]) (fun e => e)
  · have hb := hbd rfl
    obtain ⟨z, hz⟩ := hcell (y + jn) (by omega)
    have r1 := run_move h p1.1 w
    rw [h4] at r1
    refine step_run (want_yes p1.2.1 (h.yield hg (by omega) hβ)) r1 ?_
    rw [p1.2.2]
    have st1 := h.put s (.slice (some ⟨x, 0, none⟩) n n) (by omega)
    have r2 := run_move st1 p2.1 w
    simp (disch := omega) only [upd_same, upd_ne] at r2
    rw [h7] at r2
    refine step_run (want_yes p2.2.1 (st1.yield hg (by omega) (by simp (disch := omega) only [upd_same, upd_ne]; exact hβ))) r2 ?_
    rw [p2.2.2]
    have st2 := st1.put (s + 1) (.int .i64 y) (by omega)
    refine step_run (want_yes p3.2.1 (st2.yield hg (by omega) (by simp (disch := omega) only [upd_same, upd_ne]; exact hβ))) (run_addOp st2 p3.1 (x := y) (by simp (disch := omega) only [upd_same, upd_ne]) (by omega) (by omega) (by omega) w) ?_
    rw [p3.2.2]
    have st3 := st2.put (s + 2) (.int .i64 ((y : Int) + (jn : Nat))) (by omega)
    refine step_run (want_yes p4.2.1 (st3.yield hg (by omega) (by simp (disch := omega) only [upd_same, upd_ne]; exact hβ))) (run_indexTab st3 p4.1 (b := x) (n := n) (x := (y + jn)) (by simp (disch := omega) only [upd_same, upd_ne]) (by simp (disch := omega) only [upd_same, upd_ne]; congr 1) (by omega) w) ?_
    rw [p4.2.2]
    have st4 := st3.put (s + 3) (.pointer (some ⟨x, (y + jn), none⟩)) (by omega)
    refine step_run (want_yes p5.2.1 (st4.yield hg (by omega) (by simp (disch := omega) only [upd_same, upd_ne]; exact hβ))) (run_load124 st4 p5.1 (b := x) (x := (y + jn)) (by simp (disch := omega) only [upd_same, upd_ne]) (htab (y + jn) (by omega))) ?_
    rw [p5.2.2]
    have st5 := st4.put (s + 4) (.slice (some ⟨x + 1 + (y + jn), 0, none⟩) n n) (by omega)
    have r6 := run_move st5 p6.1 w
    simp (disch := omega) only [upd_same, upd_ne] at r6
    rw [h8] at r6
    refine step_run (want_yes p6.2.1 (st5.yield hg (by omega) (by simp (disch := omega) only [upd_same, upd_ne]; exact hβ))) r6 ?_
    rw [p6.2.2]
    have st6 := st5.put (s + 5) (.int .i64 z8) (by omega)
    refine step_run (want_yes p7.2.1 (st6.yield hg (by omega) (by simp (disch := omega) only [upd_same, upd_ne]; exact hβ))) (run_indexRow st6 p7.1 (b := x + 1 + (y + jn)) (n := n) (x := z8) (by simp (disch := omega) only [upd_same, upd_ne]) (by simp (disch := omega) only [upd_same, upd_ne]) (by omega) w) ?_
    rw [p7.2.2]
    have st7 := st6.put (s + 6) (.pointer (some ⟨x + 1 + (y + jn), z8, none⟩)) (by omega)
    refine step_run (want_yes p8.2.1 (st7.yield hg (by omega) (by simp (disch := omega) only [upd_same, upd_ne]; exact hβ))) (run_load57 st7 p8.1 (b := x + 1 + (y + jn)) (x := z8) (by simp (disch := omega) only [upd_same, upd_ne]) hz) ?_
    rw [p8.2.2]
    have st8 := st7.put (s + 7) (.int .i8 z) (by omega)
    obtain ⟨bb, r9⟩ := run_eqlOp st8 p9.1 (x := z) (by simp (disch := omega) only [upd_same, upd_ne]) w
    refine step_run (want_yes p9.2.1 (st8.yield hg (by omega) (by simp (disch := omega) only [upd_same, upd_ne]; exact hβ))) r9 ?_
    rw [p9.2.2]
    have st9 := st8.put (s + 8) (.bool bb) (by omega)
    have r10 := run_pickOp st9 p10.1 (b := true) (by simp (disch := omega) only [upd_same, upd_ne]; exact hβ) w
    rw [if_pos rfl] at r10
    simp (disch := omega) only [upd_same, upd_ne] at r10
    refine step_run (want_none p10.2.1) r10 ?_
    rw [p10.2.2]
    have st10 := st9.put (s + 9) (.bool bb) (by omega)
    have r11 := run_move st10 p11.1 w
    simp (disch := omega) only [upd_same, upd_ne] at r11
    refine step_run (want_none p11.2.1) r11 ?_
    rw [p11.2.2]
    have st11 := st10.put (s + 10) (.bool bb) (by omega)
    exact K _ _ bb st11 (fun i hi => by simp (disch := omega) only [upd_ne]) (by simp (disch := omega) only [upd_same]) (fun _ => rfl)
theorem tailH {ops : Array Oper} {Q : Exit → Act → World → Prop} {rest : List Oper} {o1 o2 o3 o4 o5 o6 o7 o8 o9 o10 o11 o12 o13 o14 : Oper} {a : Act} {f : Nat → Value} {w : World} {s c g n x y z8 jn : Nat} {g2 : Nat} {k0 : Int} {β : Bool} {ty1 ty2 : Array TypeId} (h : Slots a f) (h9 : f 9 = .slice (some ⟨x, 0, none⟩) n n) (h8 : f 8 = .int .i64 y) (hn : n ≤ 50) (hwh : ∀ A B : Int, -100 ≤ A → A ≤ 100 → Calls Tryz.prog 171 #[.slice (some ⟨x, 0, none⟩) n n, .int .i64 A, .int .i64 B] w fun e w' => ABool e ∧ w = w') (hbd : β = true → y + 6 < n)
    (p1 : o1.op = .move (.tmp 9) ∧ o1.guard = some (g, true) ∧ o1.dst = some s)
    (p2 : o2.op = .move (.tmp 8) ∧ o2.guard = some (g, true) ∧ o2.dst = some (s + 1))
    (p3 : o3.op = .binOp .sub 3 (.tmp (s + 1)) (.const (.int .i64 4)) 3 ∧ o3.guard = some (g, true) ∧ o3.dst = some (s + 2))
    (p4 : o4.op = .move (.tmp 8) ∧ o4.guard = some (g, true) ∧ o4.dst = some (s + 3))
    (p5 : o5.op = .call { callee := .value (.func 171), args := #[.tmp s, .tmp (s + 2), .tmp (s + 3)], argTypes := ty1 } ∧ o5.guard = some (g, true) ∧ o5.dst = some (s + 4))
    (p6 : o6.op = .move (.tmp (s + 4)) ∧ o6.guard = some (g, true) ∧ o6.dst = some (s + 5))
    (p7 : o7.op = .move (.tmp 9) ∧ o7.guard = some (g2, false) ∧ o7.dst = some (s + 6))
    (p8 : o8.op = .move (.tmp 8) ∧ o8.guard = some (g2, false) ∧ o8.dst = some (s + 7))
    (p9 : o9.op = .binOp .add 3 (.tmp (s + 7)) (.const (.int .i64 7)) 3 ∧ o9.guard = some (g2, false) ∧ o9.dst = some (s + 8))
    (p10 : o10.op = .move (.tmp 8) ∧ o10.guard = some (g2, false) ∧ o10.dst = some (s + 9))
    (p11 : o11.op = .binOp .add 3 (.tmp (s + 9)) (.const (.int .i64 11)) 3 ∧ o11.guard = some (g2, false) ∧ o11.dst = some (s + 10))
    (p12 : o12.op = .call { callee := .value (.func 171), args := #[.tmp (s + 6), .tmp (s + 8), .tmp (s + 10)], argTypes := ty2 } ∧ o12.guard = some (g2, false) ∧ o12.dst = some (s + 11))
    (p13 : o13.op = .pick (.tmp (s + 5)) (.const (.bool true)) (.tmp (s + 11)) ∧ o13.guard = some (g, true) ∧ o13.dst = some (s + 12))
    (p14 : o14.op = .pick (.tmp c) (.tmp (s + 12)) (.const (.bool false)) ∧ o14.guard = none ∧ o14.dst = some (s + 13))
    (hg : (ops[g]?).bind (·.dst) = some c) (hg2 : (ops[g2]?).bind (·.dst) = some (s + 5)) (hc0 : 9 < c) (hc : c < s) (hs : s + 13 < 207) (hβ : f c = .bool β)
    (K : ∀ (a' : Act) (f' : Nat → Value) (β' : Bool), Slots a' f' → (∀ i, i < s ∨ s + 13 < i → f' i = f i) → f' (s + 13) = .bool β' → wpList Tryz.prog ops Q rest a' w) :
    wpList Tryz.prog ops Q (o1 :: o2 :: o3 :: o4 :: o5 :: o6 :: o7 :: o8 :: o9 :: o10 :: o11 :: o12 :: o13 :: o14 :: rest) a w := by
  cases β
  · refine step_skip (want_no p1.2.1 (h.yield hg (by omega) hβ) (by simp)) ?_
    rw [p1.2.2]
    have st1 := h.put s undef (by omega)
    refine step_skip (want_no p2.2.1 (st1.yield hg (by omega) (by simp (disch := omega) only [upd_same, upd_ne]; exact hβ)) (by simp)) ?_
    rw [p2.2.2]
    have st2 := st1.put (s + 1) undef (by omega)
    refine step_skip (want_no p3.2.1 (st2.yield hg (by omega) (by simp (disch := omega) only [upd_same, upd_ne]; exact hβ)) (by simp)) ?_
    rw [p3.2.2]
    have st3 := st2.put (s + 2) undef (by omega)
    refine step_skip (want_no p4.2.1 (st3.yield hg (by omega) (by simp (disch := omega) only [upd_same, upd_ne]; exact hβ)) (by simp)) ?_
    rw [p4.2.2]
    have st4 := st3.put (s + 3) undef (by omega)
    refine step_skip (want_no p5.2.1 (st4.yield hg (by omega) (by simp (disch := omega) only [upd_same, upd_ne]; exact hβ)) (by simp)) ?_
    rw [p5.2.2]
    have st5 := st4.put (s + 4) undef (by omega)
    refine step_skip (want_no p6.2.1 (st5.yield hg (by omega) (by simp (disch := omega) only [upd_same, upd_ne]; exact hβ)) (by simp)) ?_
    rw [p6.2.2]
    have st6 := st5.put (s + 5) undef (by omega)
    refine step_skip (want_un p7.2.1 (st6.unyield hg2 (by omega) (by simp (disch := omega) only [upd_same, upd_ne]))) ?_
    rw [p7.2.2]
    have st7 := st6.put (s + 6) undef (by omega)
    refine step_skip (want_un p8.2.1 (st7.unyield hg2 (by omega) (by simp (disch := omega) only [upd_same, upd_ne]))) ?_
    rw [p8.2.2]
    have st8 := st7.put (s + 7) undef (by omega)
    refine step_skip (want_un p9.2.1 (st8.unyield hg2 (by omega) (by simp (disch := omega) only [upd_same, upd_ne]))) ?_
    rw [p9.2.2]
    have st9 := st8.put (s + 8) undef (by omega)
    refine step_skip (want_un p10.2.1 (st9.unyield hg2 (by omega) (by simp (disch := omega) only [upd_same, upd_ne]))) ?_
    rw [p10.2.2]
    have st10 := st9.put (s + 9) undef (by omega)
    refine step_skip (want_un p11.2.1 (st10.unyield hg2 (by omega) (by simp (disch := omega) only [upd_same, upd_ne]))) ?_
    rw [p11.2.2]
    have st11 := st10.put (s + 10) undef (by omega)
    refine step_skip (want_un p12.2.1 (st11.unyield hg2 (by omega) (by simp (disch := omega) only [upd_same, upd_ne]))) ?_
    rw [p12.2.2]
    have st12 := st11.put (s + 11) undef (by omega)
    refine step_skip (want_no p13.2.1 (st12.yield hg (by omega) (by simp (disch := omega) only [upd_same, upd_ne]; exact hβ)) (by simp)) ?_
    rw [p13.2.2]
    have st13 := st12.put (s + 12) undef (by omega)
    have r14 := run_pickOp st13 p14.1 (b := false) (by simp (disch := omega) only [upd_same, upd_ne]; exact hβ) w
    rw [if_neg (by simp)] at r14
    refine step_run (want_none p14.2.1) r14 ?_
    rw [p14.2.2]
    have st14 := st13.put (s + 13) (.bool false) (by omega)
    exact K _ _ false st14 (fun i hi => by simp (disch := omega) only [upd_ne]) (by simp (disch := omega) only [upd_same])
  · have hb := hbd rfl
    have r1 := run_move h p1.1 w
    rw [h9] at r1
    refine step_run (want_yes p1.2.1 (h.yield hg (by omega) hβ)) r1 ?_
    rw [p1.2.2]
    have st1 := h.put s (.slice (some ⟨x, 0, none⟩) n n) (by omega)
    have r2 := run_move st1 p2.1 w
    simp (disch := omega) only [upd_same, upd_ne] at r2
    rw [h8] at r2
    refine step_run (want_yes p2.2.1 (st1.yield hg (by omega) (by simp (disch := omega) only [upd_same, upd_ne]; exact hβ))) r2 ?_
    rw [p2.2.2]
    have st2 := st1.put (s + 1) (.int .i64 y) (by omega)
    refine step_run (want_yes p3.2.1 (st2.yield hg (by omega) (by simp (disch := omega) only [upd_same, upd_ne]; exact hβ))) (run_subOp st2 p3.1 (x := y) (by simp (disch := omega) only [upd_same, upd_ne]) (by omega) (by omega) (by omega) w) ?_
    rw [p3.2.2]
    have st3 := st2.put (s + 2) (.int .i64 ((y : Int) - 4)) (by omega)
    have r4 := run_move st3 p4.1 w
    simp (disch := omega) only [upd_same, upd_ne] at r4
    rw [h8] at r4
    refine step_run (want_yes p4.2.1 (st3.yield hg (by omega) (by simp (disch := omega) only [upd_same, upd_ne]; exact hβ))) r4 ?_
    rw [p4.2.2]
    have st4 := st3.put (s + 3) (.int .i64 y) (by omega)
    have r5 := run_call171 st4 p5.1 w
    simp (disch := omega) only [upd_same, upd_ne] at r5
    skip
    refine step_call (want_yes p5.2.1 (st4.yield hg (by omega) (by simp (disch := omega) only [upd_same, upd_ne]; exact hβ))) r5 (hwh _ _ (by omega) (by omega)) (fun b1 => ?_)
    rw [p5.2.2]
    cases b1
    · have st5 := st4.put (s + 4) (.bool false) (by omega)
      have r6 := run_move st5 p6.1 w
      simp (disch := omega) only [upd_same, upd_ne] at r6
      refine step_run (want_yes p6.2.1 (st5.yield hg (by omega) (by simp (disch := omega) only [upd_same, upd_ne]; exact hβ))) r6 ?_
      rw [p6.2.2]
      have st6 := st5.put (s + 5) (.bool false) (by omega)
      have r7 := run_move st6 p7.1 w
      simp (disch := omega) only [upd_same, upd_ne] at r7
      rw [h9] at r7
      refine step_run (want_yes p7.2.1 (st6.yield hg2 (by omega) (by simp (disch := omega) only [upd_same, upd_ne]))) r7 ?_
      rw [p7.2.2]
      have st7 := st6.put (s + 6) (.slice (some ⟨x, 0, none⟩) n n) (by omega)
      have r8 := run_move st7 p8.1 w
      simp (disch := omega) only [upd_same, upd_ne] at r8
      rw [h8] at r8
      refine step_run (want_yes p8.2.1 (st7.yield hg2 (by omega) (by simp (disch := omega) only [upd_same, upd_ne]))) r8 ?_
      rw [p8.2.2]
      have st8 := st7.put (s + 7) (.int .i64 y) (by omega)
      refine step_run (want_yes p9.2.1 (st8.yield hg2 (by omega) (by simp (disch := omega) only [upd_same, upd_ne]))) (run_addOp st8 p9.1 (x := y) (by simp (disch := omega) only [upd_same, upd_ne]) (by omega) (by omega) (by omega) w) ?_
      rw [p9.2.2]
      have st9 := st8.put (s + 8) (.int .i64 ((y : Int) + 7)) (by omega)
      have r10 := run_move st9 p10.1 w
      simp (disch := omega) only [upd_same, upd_ne] at r10
      rw [h8] at r10
      refine step_run (want_yes p10.2.1 (st9.yield hg2 (by omega) (by simp (disch := omega) only [upd_same, upd_ne]))) r10 ?_
      rw [p10.2.2]
      have st10 := st9.put (s + 9) (.int .i64 y) (by omega)
      refine step_run (want_yes p11.2.1 (st10.yield hg2 (by omega) (by simp (disch := omega) only [upd_same, upd_ne]))) (run_addOp st10 p11.1 (x := y) (by simp (disch := omega) only [upd_same, upd_ne]) (by omega) (by omega) (by omega) w) ?_
      rw [p11.2.2]
      have st11 := st10.put (s + 10) (.int .i64 ((y : Int) + 11)) (by omega)
      have r12 := run_call171 st11 p12.1 w
      simp (disch := omega) only [upd_same, upd_ne] at r12
      refine step_call (want_yes p12.2.1 (st11.yield hg2 (by omega) (by simp (disch := omega) only [upd_same, upd_ne]))) r12 (hwh _ _ (by omega) (by omega)) (fun b2 => ?_)
      rw [p12.2.2]
      have st12 := st11.put (s + 11) (.bool b2) (by omega)
      have r13 := run_pickOr st12 p13.1 (b := false) (by simp (disch := omega) only [upd_same, upd_ne]) w
      rw [if_neg (by simp)] at r13
      simp (disch := omega) only [upd_same, upd_ne] at r13
      refine step_run (want_yes p13.2.1 (st12.yield hg (by omega) (by simp (disch := omega) only [upd_same, upd_ne]; exact hβ))) r13 ?_
      rw [p13.2.2]
      have st13 := st12.put (s + 12) (.bool b2) (by omega)
      have r14 := run_pickOp st13 p14.1 (b := true) (by simp (disch := omega) only [upd_same, upd_ne]; exact hβ) w
      rw [if_pos rfl] at r14
      simp (disch := omega) only [upd_same, upd_ne] at r14
      refine step_run (want_none p14.2.1) r14 ?_
      rw [p14.2.2]
      have st14 := st13.put (s + 13) (.bool b2) (by omega)
      exact K _ _ b2 st14 (fun i hi => by simp (disch := omega) only [upd_ne]) (by simp (disch := omega) only [upd_same])
    · have st5 := st4.put (s + 4) (.bool true) (by omega)
      have r6 := run_move st5 p6.1 w
      simp (disch := omega) only [upd_same, upd_ne] at r6
      refine step_run (want_yes p6.2.1 (st5.yield hg (by omega) (by simp (disch := omega) only [upd_same, upd_ne]; exact hβ))) r6 ?_
      rw [p6.2.2]
      have st6 := st5.put (s + 5) (.bool true) (by omega)
      refine step_skip (want_no (c := true) p7.2.1 (st6.yield hg2 (by omega) (by simp (disch := omega) only [upd_same, upd_ne])) (by simp)) ?_
      rw [p7.2.2]
      have st7 := st6.put (s + 6) undef (by omega)
      refine step_skip (want_no (c := true) p8.2.1 (st7.yield hg2 (by omega) (by simp (disch := omega) only [upd_same, upd_ne])) (by simp)) ?_
      rw [p8.2.2]
      have st8 := st7.put (s + 7) undef (by omega)
      refine step_skip (want_no (c := true) p9.2.1 (st8.yield hg2 (by omega) (by simp (disch := omega) only [upd_same, upd_ne])) (by simp)) ?_
      rw [p9.2.2]
      have st9 := st8.put (s + 8) undef (by omega)
      refine step_skip (want_no (c := true) p10.2.1 (st9.yield hg2 (by omega) (by simp (disch := omega) only [upd_same, upd_ne])) (by simp)) ?_
      rw [p10.2.2]
      have st10 := st9.put (s + 9) undef (by omega)
      refine step_skip (want_no (c := true) p11.2.1 (st10.yield hg2 (by omega) (by simp (disch := omega) only [upd_same, upd_ne])) (by simp)) ?_
      rw [p11.2.2]
      have st11 := st10.put (s + 10) undef (by omega)
      refine step_skip (want_no (c := true) p12.2.1 (st11.yield hg2 (by omega) (by simp (disch := omega) only [upd_same, upd_ne])) (by simp)) ?_
      rw [p12.2.2]
      have st12 := st11.put (s + 11) undef (by omega)
      have r13 := run_pickOr st12 p13.1 (b := true) (by simp (disch := omega) only [upd_same, upd_ne]) w
      rw [if_pos rfl] at r13
      refine step_run (want_yes p13.2.1 (st12.yield hg (by omega) (by simp (disch := omega) only [upd_same, upd_ne]; exact hβ))) r13 ?_
      rw [p13.2.2]
      have st13 := st12.put (s + 12) (.bool true) (by omega)
      have r14 := run_pickOp st13 p14.1 (b := true) (by simp (disch := omega) only [upd_same, upd_ne]; exact hβ) w
      rw [if_pos rfl] at r14
      simp (disch := omega) only [upd_same, upd_ne] at r14
      refine step_run (want_none p14.2.1) r14 ?_
      rw [p14.2.2]
      have st14 := st13.put (s + 13) (.bool true) (by omega)
      exact K _ _ true st14 (fun i hi => by simp (disch := omega) only [upd_ne]) (by simp (disch := omega) only [upd_same])
theorem tailV {ops : Array Oper} {Q : Exit → Act → World → Prop} {rest : List Oper} {o1 o2 o3 o4 o5 o6 o7 o8 o9 o10 o11 o12 o13 o14 o15 o16 : Oper} {a : Act} {f : Nat → Value} {w : World} {s c g n x y z8 jn : Nat} {g2 : Nat} {k0 : Int} {β : Bool} {ty1 ty2 : Array TypeId} (h : Slots a f) (h4 : f 4 = .slice (some ⟨x, 0, none⟩) n n) (h7 : f 7 = .int .i64 y) (h8 : f 8 = .int .i64 z8) (hn : n ≤ 50) (hwh : ∀ A B : Int, -100 ≤ A → A ≤ 100 → Calls Tryz.prog 172 #[.slice (some ⟨x, 0, none⟩) n n, .int .i64 z8, .int .i64 A, .int .i64 B] w fun e w' => ABool e ∧ w = w') (hbd : β = true → y + 6 < n)
    (p1 : o1.op = .move (.tmp 4) ∧ o1.guard = some (g, true) ∧ o1.dst = some s)
    (p2 : o2.op = .move (.tmp 8) ∧ o2.guard = some (g, true) ∧ o2.dst = some (s + 1))
    (p3 : o3.op = .move (.tmp 7) ∧ o3.guard = some (g, true) ∧ o3.dst = some (s + 2))
    (p4 : o4.op = .binOp .sub 3 (.tmp (s + 2)) (.const (.int .i64 4)) 3 ∧ o4.guard = some (g, true) ∧ o4.dst = some (s + 3))
    (p5 : o5.op = .move (.tmp 7) ∧ o5.guard = some (g, true) ∧ o5.dst = some (s + 4))
    (p6 : o6.op = .call { callee := .value (.func 172), args := #[.tmp s, .tmp (s + 1), .tmp (s + 3), .tmp (s + 4)], argTypes := ty1 } ∧ o6.guard = some (g, true) ∧ o6.dst = some (s + 5))
    (p7 : o7.op = .move (.tmp (s + 5)) ∧ o7.guard = some (g, true) ∧ o7.dst = some (s + 6))
    (p8 : o8.op = .move (.tmp 4) ∧ o8.guard = some (g2, false) ∧ o8.dst = some (s + 7))
    (p9 : o9.op = .move (.tmp 8) ∧ o9.guard = some (g2, false) ∧ o9.dst = some (s + 8))
    (p10 : o10.op = .move (.tmp 7) ∧ o10.guard = some (g2, false) ∧ o10.dst = some (s + 9))
    (p11 : o11.op = .binOp .add 3 (.tmp (s + 9)) (.const (.int .i64 7)) 3 ∧ o11.guard = some (g2, false) ∧ o11.dst = some (s + 10))
    (p12 : o12.op = .move (.tmp 7) ∧ o12.guard = some (g2, false) ∧ o12.dst = some (s + 11))
    (p13 : o13.op = .binOp .add 3 (.tmp (s + 11)) (.const (.int .i64 11)) 3 ∧ o13.guard = some (g2, false) ∧ o13.dst = some (s + 12))
    (p14 : o14.op = .call { callee := .value (.func 172), args := #[.tmp (s + 7), .tmp (s + 8), .tmp (s + 10), .tmp (s + 12)], argTypes := ty2 } ∧ o14.guard = some (g2, false) ∧ o14.dst = some (s + 13))
    (p15 : o15.op = .pick (.tmp (s + 6)) (.const (.bool true)) (.tmp (s + 13)) ∧ o15.guard = some (g, true) ∧ o15.dst = some (s + 14))
    (p16 : o16.op = .pick (.tmp c) (.tmp (s + 14)) (.const (.bool false)) ∧ o16.guard = none ∧ o16.dst = some (s + 15))
    (hg : (ops[g]?).bind (·.dst) = some c) (hg2 : (ops[g2]?).bind (·.dst) = some (s + 6)) (hc0 : 9 < c) (hc : c < s) (hs : s + 15 < 207) (hβ : f c = .bool β)
    (K : ∀ (a' : Act) (f' : Nat → Value) (β' : Bool), Slots a' f' → (∀ i, i < s ∨ s + 15 < i → f' i = f i) → f' (s + 15) = .bool β' → wpList Tryz.prog ops Q rest a' w) :
    wpList Tryz.prog ops Q (o1 :: o2 :: o3 :: o4 :: o5 :: o6 :: o7 :: o8 :: o9 :: o10 :: o11 :: o12 :: o13 :: o14 :: o15 :: o16 :: rest) a w := by
  cases β
  · refine step_skip (want_no p1.2.1 (h.yield hg (by omega) hβ) (by simp)) ?_
    rw [p1.2.2]
    have st1 := h.put s undef (by omega)
    refine step_skip (want_no p2.2.1 (st1.yield hg (by omega) (by simp (disch := omega) only [upd_same, upd_ne]; exact hβ)) (by simp)) ?_
    rw [p2.2.2]
    have st2 := st1.put (s + 1) undef (by omega)
    refine step_skip (want_no p3.2.1 (st2.yield hg (by omega) (by simp (disch := omega) only [upd_same, upd_ne]; exact hβ)) (by simp)) ?_
    rw [p3.2.2]
    have st3 := st2.put (s + 2) undef (by omega)
    refine step_skip (want_no p4.2.1 (st3.yield hg (by omega) (by simp (disch := omega) only [upd_same, upd_ne]; exact hβ)) (by simp)) ?_
    rw [p4.2.2]
    have st4 := st3.put (s + 3) undef (by omega)
    refine step_skip (want_no p5.2.1 (st4.yield hg (by omega) (by simp (disch := omega) only [upd_same, upd_ne]; exact hβ)) (by simp)) ?_
    rw [p5.2.2]
    have st5 := st4.put (s + 4) undef (by omega)
    refine step_skip (want_no p6.2.1 (st5.yield hg (by omega) (by simp (disch := omega) only [upd_same, upd_ne]; exact hβ)) (by simp)) ?_
    rw [p6.2.2]
    have st6 := st5.put (s + 5) undef (by omega)
    refine step_skip (want_no p7.2.1 (st6.yield hg (by omega) (by simp (disch := omega) only [upd_same, upd_ne]; exact hβ)) (by simp)) ?_
    rw [p7.2.2]
    have st7 := st6.put (s + 6) undef (by omega)
    refine step_skip (want_un p8.2.1 (st7.unyield hg2 (by omega) (by simp (disch := omega) only [upd_same, upd_ne]))) ?_
    rw [p8.2.2]
    have st8 := st7.put (s + 7) undef (by omega)
    refine step_skip (want_un p9.2.1 (st8.unyield hg2 (by omega) (by simp (disch := omega) only [upd_same, upd_ne]))) ?_
    rw [p9.2.2]
    have st9 := st8.put (s + 8) undef (by omega)
    refine step_skip (want_un p10.2.1 (st9.unyield hg2 (by omega) (by simp (disch := omega) only [upd_same, upd_ne]))) ?_
    rw [p10.2.2]
    have st10 := st9.put (s + 9) undef (by omega)
    refine step_skip (want_un p11.2.1 (st10.unyield hg2 (by omega) (by simp (disch := omega) only [upd_same, upd_ne]))) ?_
    rw [p11.2.2]
    have st11 := st10.put (s + 10) undef (by omega)
    refine step_skip (want_un p12.2.1 (st11.unyield hg2 (by omega) (by simp (disch := omega) only [upd_same, upd_ne]))) ?_
    rw [p12.2.2]
    have st12 := st11.put (s + 11) undef (by omega)
    refine step_skip (want_un p13.2.1 (st12.unyield hg2 (by omega) (by simp (disch := omega) only [upd_same, upd_ne]))) ?_
    rw [p13.2.2]
    have st13 := st12.put (s + 12) undef (by omega)
    refine step_skip (want_un p14.2.1 (st13.unyield hg2 (by omega) (by simp (disch := omega) only [upd_same, upd_ne]))) ?_
    rw [p14.2.2]
    have st14 := st13.put (s + 13) undef (by omega)
    refine step_skip (want_no p15.2.1 (st14.yield hg (by omega) (by simp (disch := omega) only [upd_same, upd_ne]; exact hβ)) (by simp)) ?_
    rw [p15.2.2]
    have st15 := st14.put (s + 14) undef (by omega)
    have r16 := run_pickOp st15 p16.1 (b := false) (by simp (disch := omega) only [upd_same, upd_ne]; exact hβ) w
    rw [if_neg (by simp)] at r16
    refine step_run (want_none p16.2.1) r16 ?_
    rw [p16.2.2]
    have st16 := st15.put (s + 15) (.bool false) (by omega)
    exact K _ _ false st16 (fun i hi => by simp (disch := omega) only [upd_ne]) (by simp (disch := omega) only [upd_same])
  · have hb := hbd rfl
    have r1 := run_move h p1.1 w
    rw [h4] at r1
    refine step_run (want_yes p1.2.1 (h.yield hg (by omega) hβ)) r1 ?_
    rw [p1.2.2]
    have st1 := h.put s (.slice (some ⟨x, 0, none⟩) n n) (by omega)
    have r2 := run_move st1 p2.1 w
    simp (disch := omega) only [upd_same, upd_ne] at r2
    rw [h8] at r2
    refine step_run (want_yes p2.2.1 (st1.yield hg (by omega) (by simp (disch := omega) only [upd_same, upd_ne]; exact hβ))) r2 ?_
    rw [p2.2.2]
    have st2 := st1.put (s + 1) (.int .i64 z8) (by omega)
    have r3 := run_move st2 p3.1 w
    simp (disch := omega) only [upd_same, upd_ne] at r3
    rw [h7] at r3
    refine step_run (want_yes p3.2.1 (st2.yield hg (by omega) (by simp (disch := omega) only [upd_same, upd_ne]; exact hβ))) r3 ?_
    rw [p3.2.2]
    have st3 := st2.put (s + 2) (.int .i64 y) (by omega)
    refine step_run (want_yes p4.2.1 (st3.yield hg (by omega) (by simp (disch := omega) only [upd_same, upd_ne]; exact hβ))) (run_subOp st3 p4.1 (x := y) (by simp (disch := omega) only [upd_same, upd_ne]) (by omega) (by omega) (by omega) w) ?_
    rw [p4.2.2]
    have st4 := st3.put (s + 3) (.int .i64 ((y : Int) - 4)) (by omega)
    have r5 := run_move st4 p5.1 w
    simp (disch := omega) only [upd_same, upd_ne] at r5
    rw [h7] at r5
    refine step_run (want_yes p5.2.1 (st4.yield hg (by omega) (by simp (disch := omega) only [upd_same, upd_ne]; exact hβ))) r5 ?_
    rw [p5.2.2]
    have st5 := st4.put (s + 4) (.int .i64 y) (by omega)
    have r6 := run_call172 st5 p6.1 w
    simp (disch := omega) only [upd_same, upd_ne] at r6
    skip
    refine step_call (want_yes p6.2.1 (st5.yield hg (by omega) (by simp (disch := omega) only [upd_same, upd_ne]; exact hβ))) r6 (hwh _ _ (by omega) (by omega)) (fun b1 => ?_)
    rw [p6.2.2]
    cases b1
    · have st6 := st5.put (s + 5) (.bool false) (by omega)
      have r7 := run_move st6 p7.1 w
      simp (disch := omega) only [upd_same, upd_ne] at r7
      refine step_run (want_yes p7.2.1 (st6.yield hg (by omega) (by simp (disch := omega) only [upd_same, upd_ne]; exact hβ))) r7 ?_
      rw [p7.2.2]
      have st7 := st6.put (s + 6) (.bool false) (by omega)
      have r8 := run_move st7 p8.1 w
      simp (disch := omega) only [upd_same, upd_ne] at r8
      rw [h4] at r8
      refine step_run (want_yes p8.2.1 (st7.yield hg2 (by omega) (by simp (disch := omega) only [upd_same, upd_ne]))) r8 ?_
      rw [p8.2.2]
      have st8 := st7.put (s + 7) (.slice (some ⟨x, 0, none⟩) n n) (by omega)
      have r9 := run_move st8 p9.1 w
      simp (disch := omega) only [upd_same, upd_ne] at r9
      rw [h8] at r9
      refine step_run (want_yes p9.2.1 (st8.yield hg2 (by omega) (by simp (disch := omega) only [upd_same, upd_ne]))) r9 ?_
      rw [p9.2.2]
      have st9 := st8.put (s + 8) (.int .i64 z8) (by omega)
      have r10 := run_move st9 p10.1 w
      simp (disch := omega) only [upd_same, upd_ne] at r10
      rw [h7] at r10
      refine step_run (want_yes p10.2.1 (st9.yield hg2 (by omega) (by simp (disch := omega) only [upd_same, upd_ne]))) r10 ?_
      rw [p10.2.2]
      have st10 := st9.put (s + 9) (.int .i64 y) (by omega)
      refine step_run (want_yes p11.2.1 (st10.yield hg2 (by omega) (by simp (disch := omega) only [upd_same, upd_ne]))) (run_addOp st10 p11.1 (x := y) (by simp (disch := omega) only [upd_same, upd_ne]) (by omega) (by omega) (by omega) w) ?_
      rw [p11.2.2]
      have st11 := st10.put (s + 10) (.int .i64 ((y : Int) + 7)) (by omega)
      have r12 := run_move st11 p12.1 w
      simp (disch := omega) only [upd_same, upd_ne] at r12
      rw [h7] at r12
      refine step_run (want_yes p12.2.1 (st11.yield hg2 (by omega) (by simp (disch := omega) only [upd_same, upd_ne]))) r12 ?_
      rw [p12.2.2]
      have st12 := st11.put (s + 11) (.int .i64 y) (by omega)
      refine step_run (want_yes p13.2.1 (st12.yield hg2 (by omega) (by simp (disch := omega) only [upd_same, upd_ne]))) (run_addOp st12 p13.1 (x := y) (by simp (disch := omega) only [upd_same, upd_ne]) (by omega) (by omega) (by omega) w) ?_
      rw [p13.2.2]
      have st13 := st12.put (s + 12) (.int .i64 ((y : Int) + 11)) (by omega)
      have r14 := run_call172 st13 p14.1 w
      simp (disch := omega) only [upd_same, upd_ne] at r14
      refine step_call (want_yes p14.2.1 (st13.yield hg2 (by omega) (by simp (disch := omega) only [upd_same, upd_ne]))) r14 (hwh _ _ (by omega) (by omega)) (fun b2 => ?_)
      rw [p14.2.2]
      have st14 := st13.put (s + 13) (.bool b2) (by omega)
      have r15 := run_pickOr st14 p15.1 (b := false) (by simp (disch := omega) only [upd_same, upd_ne]) w
      rw [if_neg (by simp)] at r15
      simp (disch := omega) only [upd_same, upd_ne] at r15
      refine step_run (want_yes p15.2.1 (st14.yield hg (by omega) (by simp (disch := omega) only [upd_same, upd_ne]; exact hβ))) r15 ?_
      rw [p15.2.2]
      have st15 := st14.put (s + 14) (.bool b2) (by omega)
      have r16 := run_pickOp st15 p16.1 (b := true) (by simp (disch := omega) only [upd_same, upd_ne]; exact hβ) w
      rw [if_pos rfl] at r16
      simp (disch := omega) only [upd_same, upd_ne] at r16
      refine step_run (want_none p16.2.1) r16 ?_
      rw [p16.2.2]
      have st16 := st15.put (s + 15) (.bool b2) (by omega)
      exact K _ _ b2 st16 (fun i hi => by simp (disch := omega) only [upd_ne]) (by simp (disch := omega) only [upd_same])
    · have st6 := st5.put (s + 5) (.bool true) (by omega)
      have r7 := run_move st6 p7.1 w
      simp (disch := omega) only [upd_same, upd_ne] at r7
      refine step_run (want_yes p7.2.1 (st6.yield hg (by omega) (by simp (disch := omega) only [upd_same, upd_ne]; exact hβ))) r7 ?_
      rw [p7.2.2]
      have st7 := st6.put (s + 6) (.bool true) (by omega)
      refine step_skip (want_no (c := true) p8.2.1 (st7.yield hg2 (by omega) (by simp (disch := omega) only [upd_same, upd_ne])) (by simp)) ?_
      rw [p8.2.2]
      have st8 := st7.put (s + 7) undef (by omega)
      refine step_skip (want_no (c := true) p9.2.1 (st8.yield hg2 (by omega) (by simp (disch := omega) only [upd_same, upd_ne])) (by simp)) ?_
      rw [p9.2.2]
      have st9 := st8.put (s + 8) undef (by omega)
      refine step_skip (want_no (c := true) p10.2.1 (st9.yield hg2 (by omega) (by simp (disch := omega) only [upd_same, upd_ne])) (by simp)) ?_
      rw [p10.2.2]
      have st10 := st9.put (s + 9) undef (by omega)
      refine step_skip (want_no (c := true) p11.2.1 (st10.yield hg2 (by omega) (by simp (disch := omega) only [upd_same, upd_ne])) (by simp)) ?_
      rw [p11.2.2]
      have st11 := st10.put (s + 10) undef (by omega)
      refine step_skip (want_no (c := true) p12.2.1 (st11.yield hg2 (by omega) (by simp (disch := omega) only [upd_same, upd_ne])) (by simp)) ?_
      rw [p12.2.2]
      have st12 := st11.put (s + 11) undef (by omega)
      refine step_skip (want_no (c := true) p13.2.1 (st12.yield hg2 (by omega) (by simp (disch := omega) only [upd_same, upd_ne])) (by simp)) ?_
      rw [p13.2.2]
      have st13 := st12.put (s + 12) undef (by omega)
      refine step_skip (want_no (c := true) p14.2.1 (st13.yield hg2 (by omega) (by simp (disch := omega) only [upd_same, upd_ne])) (by simp)) ?_
      rw [p14.2.2]
      have st14 := st13.put (s + 13) undef (by omega)
      have r15 := run_pickOr st14 p15.1 (b := true) (by simp (disch := omega) only [upd_same, upd_ne]) w
      rw [if_pos rfl] at r15
      refine step_run (want_yes p15.2.1 (st14.yield hg (by omega) (by simp (disch := omega) only [upd_same, upd_ne]; exact hβ))) r15 ?_
      rw [p15.2.2]
      have st15 := st14.put (s + 14) (.bool true) (by omega)
      have r16 := run_pickOp st15 p16.1 (b := true) (by simp (disch := omega) only [upd_same, upd_ne]; exact hβ) w
      rw [if_pos rfl] at r16
      simp (disch := omega) only [upd_same, upd_ne] at r16
      refine step_run (want_none p16.2.1) r16 ?_
      rw [p16.2.2]
      have st16 := st15.put (s + 15) (.bool true) (by omega)
      exact K _ _ true st16 (fun i hi => by simp (disch := omega) only [upd_ne]) (by simp (disch := omega) only [upd_same])
end Go.Proofs.YtnpkihobbcglcaaGreatDoor
