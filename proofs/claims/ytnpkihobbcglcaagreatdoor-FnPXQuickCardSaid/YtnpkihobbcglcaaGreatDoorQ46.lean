/- Steps over an abstract frame. -/
import Derived.Test.YtnpkihobbcglcaaGreatDoorQ12
import Derived.WalkKit
import Derived.IntWalk
set_option linter.unusedSimpArgs false
set_option linter.unusedVariables false

/- E5: Steps over an abstract frame. -/
namespace Go.Proofs.YtnpkihobbcglcaaGreatDoor
open Go Go.RowKit

/-- A frame of 207 slots, by what stands in them. -/
structure Slots (a : Act) (f : Nat → Value) : Prop where
  size : a.tmps.size = 207
  val : ∀ i, a.tmps.getD i undef = f i
  dfr : a.defers = []
def upd (f : Nat → Value) (d : Nat) (v : Value) : Nat → Value := fun i => if i = d then v else f i
theorem upd_same (f : Nat → Value) (d : Nat) (v : Value) : upd f d v d = v := if_pos rfl
theorem upd_ne (f : Nat → Value) (d i : Nat) (v : Value) (h : i ≠ d) : upd f d v i = f i := if_neg h
theorem Slots.put {a : Act} {f : Nat → Value} (h : Slots a f) (d : Nat) (v : Value) (hd : d < 207) : Slots (a.put (some d) v) (upd f d v) := by
  refine ⟨by simp [Act.put, h.size], fun i => ?_, h.dfr⟩
  have hv := h.val i
  by_cases e : i = d
  · subst e
    rw [upd_same]
    simp [Act.put, h.size, hd]
  · rw [upd_ne _ _ _ _ e, ← hv]
    simp [Act.put, Ne.symm e]
theorem Slots.yield {a : Act} {f : Nat → Value} (h : Slots a f) {ops : Array Oper} {g c : Nat} {b : Bool} (hg : (ops[g]?).bind (·.dst) = some c) (hc : c < 207) (hb : f c = .bool b) : yielded ops a.tmps g = some b := by
  have hv := h.val c
  have hs : a.tmps[c]? = some (f c) := by
    rw [← hv]
    have := h.size
    rw [Array.getD_eq_getD_getElem?, Array.getElem?_eq_getElem (by omega)]
    rfl
  unfold yielded
  rw [hg]
  simp only [Option.bind_some]
  rw [hs, hb]
theorem step_run {ops : Array Oper} {Q : Exit → Act → World → Prop} {rest : List Oper} {o : Oper} {a : Act} {w w' : World} {v : Value} (hw : Region.wanted o (yielded ops a.tmps) = true) (hr : (execOp a.eval o).run Tryz.prog w = .ok (.value v) w')
    (h : wpList Tryz.prog ops Q rest (a.put o.dst v) w') : wpList Tryz.prog ops Q (o :: rest) a w := by
  unfold wpList
  rw [if_pos hw]
  refine .inl ?_
  unfold Oper.wp
  rw [hr]
  exact h
theorem step_skip {ops : Array Oper} {Q : Exit → Act → World → Prop} {rest : List Oper} {o : Oper} {a : Act} {w : World} (hw : Region.wanted o (yielded ops a.tmps) = false)
    (h : wpList Tryz.prog ops Q rest (a.put o.dst undef) w) : wpList Tryz.prog ops Q (o :: rest) a w := by
  unfold wpList
  rw [if_neg (by rw [hw]; simp)]
  exact h
theorem want_none {o : Oper} {y : Nat → Option Bool} (h : o.guard = none) : Region.wanted o y = true := by unfold Region.wanted; rw [h]
theorem want_yes {o : Oper} {y : Nat → Option Bool} {g : Nat} {b : Bool} (h : o.guard = some (g, b)) (hy : y g = some b) : Region.wanted o y = true := by unfold Region.wanted; rw [h]; simp [hy]
theorem want_no {o : Oper} {y : Nat → Option Bool} {g : Nat} {b c : Bool} (h : o.guard = some (g, b)) (hy : y g = some c) (hn : c ≠ b) : Region.wanted o y = false := by unfold Region.wanted; rw [h]; simp [hy, hn]

/-- What each operation gives. -/
theorem run_move {a : Act} {f : Nat → Value} (h : Slots a f) {o : Oper} {t : Nat} (ho : o.op = .move (.tmp t)) (w : World) : (execOp a.eval o).run Tryz.prog w = .ok (.value (f t)) w := by
  have hv := h.val t
  unfold execOp
  simp only [ho, Act.eval, hv]
  rfl
theorem run_pickOp {a : Act} {f : Nat → Value} (h : Slots a f) {o : Oper} {t u : Nat} {c : Value} {b : Bool} (ho : o.op = .pick (.tmp t) (.tmp u) (.const c)) (hb : f t = .bool b) (w : World) : (execOp a.eval o).run Tryz.prog w = .ok (.value (if b then f u else c)) w := by
  have hv := h.val t
  have hu := h.val u
  unfold execOp
  simp only [ho, Act.eval, hv, hu, hb]
  simp [asBool]
theorem run_pickOr {a : Act} {f : Nat → Value} (h : Slots a f) {o : Oper} {t u : Nat} {c : Value} {b : Bool} (ho : o.op = .pick (.tmp t) (.const c) (.tmp u)) (hb : f t = .bool b) (w : World) : (execOp a.eval o).run Tryz.prog w = .ok (.value (if b then c else f u)) w := by
  have hv := h.val t
  have hu := h.val u
  unfold execOp
  simp only [ho, Act.eval, hv, hu, hb]
  simp [asBool]
theorem run_addOp {a : Act} {f : Nat → Value} (h : Slots a f) {o : Oper} {t : Nat} {x : Nat} {j : Int} (ho : o.op = .binOp .add 3 (.tmp t) (.const (.int .i64 j)) 3) (hx : f t = .int .i64 x) (h1 : 0 ≤ j) (h2 : j ≤ 100) (h3 : x ≤ 100) (w : World) : (execOp a.eval o).run Tryz.prog w = .ok (.value (.int .i64 (x + j))) w := by
  have hv := h.val t
  have hw : IntKind.i64.wrap ((x : Int) + j) = (x : Int) + j := wrapi64 _ (by omega) (by omega)
  unfold execOp
  simp only [ho, Act.eval, hv, hx]
  simp [go_sem, hw]
theorem run_subOp {a : Act} {f : Nat → Value} (h : Slots a f) {o : Oper} {t : Nat} {x : Nat} {j : Int} (ho : o.op = .binOp .sub 3 (.tmp t) (.const (.int .i64 j)) 3) (hx : f t = .int .i64 x) (h1 : 0 ≤ j) (h2 : j ≤ 100) (h3 : x ≤ 100) (w : World) : (execOp a.eval o).run Tryz.prog w = .ok (.value (.int .i64 (x - j))) w := by
  have hv := h.val t
  have hw : IntKind.i64.wrap ((x : Int) - j) = (x : Int) - j := IntWalk.i64_in _ (by omega)
  unfold execOp
  simp only [ho, Act.eval, hv, hx]
  simp [go_sem, hw]
theorem run_eqlOp {a : Act} {f : Nat → Value} (h : Slots a f) {o : Oper} {t : Nat} {x j : Int} (ho : o.op = .binOp .eql 57 (.tmp t) (.const (.int .i8 j)) 57) (hx : f t = .int .i8 x) (w : World) : ∃ b : Bool, (execOp a.eval o).run Tryz.prog w = .ok (.value (.bool b)) w := by
  have hv := h.val t
  unfold execOp
  simp only [ho, Act.eval, hv, hx]
  simp [go_sem]
theorem run_indexRow {a : Act} {f : Nat → Value} (h : Slots a f) {o : Oper} {t u : Nat} {b n x : Nat} (ho : o.op = .indexAddr 124 (.tmp t) (.tmp u)) (ht : f t = .slice (some ⟨b, 0, none⟩) n n) (hu : f u = .int .i64 x) (hx : x < n) (w : World) : (execOp a.eval o).run Tryz.prog w = .ok (.value (.pointer (some ⟨b, x, none⟩))) w := by
  have hv := h.val t
  have hz := h.val u
  unfold execOp
  simp only [ho, Act.eval, hv, hz, ht, hu]
  have h0 : (0 : Int) ≤ x := by omega
  have h1 : (x : Int) < n := by omega
  simp [go_sem, h0, h1]
theorem run_indexTab {a : Act} {f : Nat → Value} (h : Slots a f) {o : Oper} {t u : Nat} {b n x : Nat} (ho : o.op = .indexAddr 121 (.tmp t) (.tmp u)) (ht : f t = .slice (some ⟨b, 0, none⟩) n n) (hu : f u = .int .i64 x) (hx : x < n) (w : World) : (execOp a.eval o).run Tryz.prog w = .ok (.value (.pointer (some ⟨b, x, none⟩))) w := by
  have hv := h.val t
  have hz := h.val u
  unfold execOp
  simp only [ho, Act.eval, hv, hz, ht, hu]
  have h0 : (0 : Int) ≤ x := by omega
  have h1 : (x : Int) < n := by omega
  simp [go_sem, h0, h1]
theorem run_load57 {a : Act} {f : Nat → Value} (h : Slots a f) {o : Oper} {t : Nat} {b x : Nat} {z : Int} {w : World} (ho : o.op = .load 57 (.tmp t)) (ht : f t = .pointer (some ⟨b, x, none⟩)) (hc : w.cell? ⟨b, x, none⟩ = some (.int .i8 z)) : (execOp a.eval o).run Tryz.prog w = .ok (.value (.int .i8 z)) w := by
  have hv := h.val t
  unfold execOp
  simp only [ho, Act.eval, hv, ht]
  simp [go_sem, hc]
theorem run_load124 {a : Act} {f : Nat → Value} (h : Slots a f) {o : Oper} {t : Nat} {b x : Nat} {v : Value} {w : World} (ho : o.op = .load 124 (.tmp t)) (ht : f t = .pointer (some ⟨b, x, none⟩)) (hc : w.cell? ⟨b, x, none⟩ = some v) : (execOp a.eval o).run Tryz.prog w = .ok (.value v) w := by
  have hv := h.val t
  unfold execOp
  simp only [ho, Act.eval, hv, ht]
  simp [go_sem, hc]
theorem step_call {ops : Array Oper} {Q : Exit → Act → World → Prop} {rest : List Oper} {o : Oper} {a : Act} {w : World} {F : FuncId} {args : Array Value} (hw : Region.wanted o (yielded ops a.tmps) = true) (hr : (execOp a.eval o).run Tryz.prog w = .ok (.enter F args) w)
    (hc : Calls Tryz.prog F args w fun e w' => ABool e ∧ w = w') (h : ∀ b : Bool, wpList Tryz.prog ops Q rest (a.put o.dst (.bool b)) w) : wpList Tryz.prog ops Q (o :: rest) a w := by
  unfold wpList
  rw [if_pos hw]
  refine .inl ?_
  unfold Oper.wp
  rw [hr]
  refine hc.mono ?_
  rintro e w' ⟨⟨b, rfl⟩, rfl⟩
  exact h b
theorem run_call171 {a : Act} {f : Nat → Value} (h : Slots a f) {o : Oper} {t u v : Nat} {ty : Array TypeId} (ho : o.op = .call { callee := .value (.func 171), args := #[.tmp t, .tmp u, .tmp v], argTypes := ty }) (w : World) : (execOp a.eval o).run Tryz.prog w = .ok (.enter 171 #[f t, f u, f v]) w := by
  have h1 := h.val t
  have h2 := h.val u
  have h3 := h.val v
  unfold execOp
  simp only [ho]
  simp [go_sem, h1, h2, h3, Act.eval]
theorem run_call172 {a : Act} {f : Nat → Value} (h : Slots a f) {o : Oper} {t u v x : Nat} {ty : Array TypeId} (ho : o.op = .call { callee := .value (.func 172), args := #[.tmp t, .tmp u, .tmp v, .tmp x], argTypes := ty }) (w : World) : (execOp a.eval o).run Tryz.prog w = .ok (.enter 172 #[f t, f u, f v, f x]) w := by
  have h1 := h.val t
  have h2 := h.val u
  have h3 := h.val v
  have h4 := h.val x
  unfold execOp
  simp only [ho]
  simp [go_sem, h1, h2, h3, h4, Act.eval]
end Go.Proofs.YtnpkihobbcglcaaGreatDoor
