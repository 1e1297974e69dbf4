/- Facts on the program's types: what make and append ask of them. One operation of a table's text: a row of constants is laid. -/
import Derived.Test.YtnpkihobbcglcaaGreatDoorProg
import Derived.Test.YtnpkihobbcglcaaGreatDoorQ02
import Derived.KernelRfl
set_option linter.unusedSimpArgs false
set_option linter.unusedVariables false

/- P1: Facts on the program's types: what make and append ask of them. -/
namespace Go.Proofs.YtnpkihobbcglcaaGreatDoor
open Go Go.RowKit

theorem info3 : (Tryz.prog.info? 3).map (fun i => (i.zero, i.size, i.bytes)) = some (some (.int .i64 0), 1, 8) := by kernel_rfl
theorem info4 : (Tryz.prog.info? 4).map (fun i => (i.zero, i.size, i.bytes)) = some (some (.bool false), 1, 1) := by kernel_rfl
theorem info5 : (Tryz.prog.info? 5).map (fun i => (i.zero, i.size, i.bytes)) = some (some (.int .u8 0), 1, 1) := by kernel_rfl
theorem info204 : (Tryz.prog.info? 204).map (fun i => (i.zero, i.size, i.bytes)) = some (some (.int .u32 0), 1, 4) := by kernel_rfl

theorem info57 : (Tryz.prog.info? 57).map (fun i => (i.zero, i.size, i.bytes)) = some (some (.int .i8 0), 1, 1) := by kernel_rfl
theorem info124 : (Tryz.prog.info? 124).map (fun i => (i.zero, i.size, i.bytes)) = some (some (.slice none 0 0), 1, 24) := by kernel_rfl
theorem info32 : (Tryz.prog.info? 32).map (fun i => (i.zero, i.size, i.bytes)) = some (some (.slice none 0 0), 1, 24) := by kernel_rfl
theorem info56 : (Tryz.prog.info? 56).map (fun i => (i.zero, i.size, i.bytes)) = some (some (.slice none 0 0), 1, 24) := by kernel_rfl
theorem info117 : (Tryz.prog.info? 117).map (fun i => (i.zero, i.size, i.bytes)) = some (some (.slice none 0 0), 1, 24) := by kernel_rfl

theorem made_rep (z : Value) (n : Nat) : madeCells #[z] n = Array.replicate n z := by
  apply Array.ext
  · simp [madeCells]
  · intro i h1 h2
    simp [madeCells, Nat.mod_one]
/-- make([]T, n) of one-cell elements: the run. -/
theorem run_make_one (t e : TypeId) (z : Value) (bytes : Nat) (ht : Tryz.prog.underlying t = some (.slice e)) (hi : (Tryz.prog.info? e).map (fun i => (i.zero, i.size, i.bytes)) = some (some z, 1, bytes)) (hz : z.cells = #[z])
    (n : Nat) (hn : bytes * n ≤ 281474976710656) (h63 : n ≤ 281474976710656) (w : World) :
    (Instr.makeSlice t (.int .i64 (n : Int)) (.int .i64 (n : Int))).run Tryz.prog w = .ok (.slice (some ⟨w.heap.size, 0, none⟩) n n) (w.alloc (.cells (Array.replicate n z) e)) := by
  obtain ⟨i, hi, hz0, hz1, hz2⟩ := info_parts hi
  have h := run_make (P := Tryz.prog) w t e i _ ht hi hz0 .i64 .i64 (n : Int) (n : Int) (by omega) (by omega) (by
    rw [hz2, ← Int.natCast_mul]; omega) (by omega)
  rw [← made_rep]
  simpa [hz1, hz] using h
/-- The same with a length and a capacity. -/
theorem run_make_cap (t e : TypeId) (z : Value) (bytes : Nat) (ht : Tryz.prog.underlying t = some (.slice e)) (hi : (Tryz.prog.info? e).map (fun i => (i.zero, i.size, i.bytes)) = some (some z, 1, bytes)) (hz : z.cells = #[z])
    (m n : Nat) (hmn : m ≤ n) (hn : bytes * n ≤ 281474976710656) (h63 : n ≤ 281474976710656) (w : World) :
    (Instr.makeSlice t (.int .i64 (m : Int)) (.int .i64 (n : Int))).run Tryz.prog w = .ok (.slice (some ⟨w.heap.size, 0, none⟩) m n) (w.alloc (.cells (Array.replicate n z) e)) := by
  obtain ⟨i, hi, hz0, hz1, hz2⟩ := info_parts hi
  have h := run_make (P := Tryz.prog) w t e i _ ht hi hz0 .i64 .i64 (m : Int) (n : Int) (by omega) (by omega) (by
    rw [hz2, ← Int.natCast_mul]; omega) (by omega)
  rw [← made_rep]
  simpa [hz1, hz] using h

theorem made_nats (k : IntKind) (n : Nat) : madeCells #[Value.int k 0] n = natCells k (List.replicate n 0) := by
  apply Array.ext
  · simp [madeCells, natCells, natVals]
  · intro i h1 h2
    simp [madeCells, natCells, natVals, Nat.mod_one]

/-- make([]T, n) of whole numbers: the run. -/
theorem run_make_ints (t e : TypeId) (k : IntKind) (bytes : Nat) (ht : Tryz.prog.underlying t = some (.slice e)) (hi : (Tryz.prog.info? e).map (fun i => (i.zero, i.size, i.bytes)) = some (some (.int k 0), 1, bytes))
    (n : Nat) (hn : bytes * n ≤ 281474976710656) (h63 : n ≤ 281474976710656) (w : World) :
    (Instr.makeSlice t (.int .i64 (n : Int)) (.int .i64 (n : Int))).run Tryz.prog w = .ok (.slice (some ⟨w.heap.size, 0, none⟩) n n) (w.alloc (.cells (natCells k (List.replicate n 0)) e)) := by
  obtain ⟨i, hi, hz0, hz1, hz2⟩ := info_parts hi
  have h := run_make (P := Tryz.prog) w t e i _ ht hi hz0 .i64 .i64 (n : Int) (n : Int) (by omega) (by omega) (by
    rw [hz2, ← Int.natCast_mul]; omega) (by omega)
  rw [← made_nats]
  simpa [hz1, Value.cells] using h

end Go.Proofs.YtnpkihobbcglcaaGreatDoor

/- T0: One operation of a table's text: a row of constants is laid. -/
namespace Go.Proofs.YtnpkihobbcglcaaGreatDoor
open Go Go.RowKit

def intCells (k : IntKind) (xs : List Int) : Array Value := (xs.map (Value.int k)).toArray

theorem wpList_build {P : Program} {ops : Array Oper} {Q : Exit → Act → World → Prop} {a : Act} {w : World} {rest : List Oper} {o : Oper} (hg : o.guard = none) (t len : Nat) (parts : Array (Nat × Operand))
    (ho : o.op = .buildSlice t len parts) (cells : Array Value) (el : TypeId)
    (hrun : ∀ w, (Instr.buildSlice t len (parts.map fun (i, x) => (i, a.eval x))).run P w = .ok (.slice (some ⟨w.heap.size, 0, none⟩) len len) (w.alloc (.cells cells el)))
    (h : ∀ b w', Blk w' b cells el → b = w.heap.size → Kept w w' → wpList P ops Q rest (a.put o.dst (.slice (some ⟨b, 0, none⟩) len len)) w') : wpList P ops Q (o :: rest) a w := by
  refine BigFrame.wpList_want (by simp [Region.wanted, hg]) (fun K hK => ?_)
  have e : execOp a.eval o = Sem.bind (Instr.buildSlice t len (parts.map fun (i, x) => (i, a.eval x))) (fun v => Sem.pure (Next.value v)) := by
    obtain ⟨dst, op, type, pos, after, guard⟩ := o
    simp only at ho
    subst ho
    rfl
  unfold Oper.wp
  rw [e, Sem.run_bind', hrun w, Result.andThen_ok]
  exact hK _ _ (h _ _ (Blk.new w cells el) rfl ((Frm.refl _ _).alloc _))
end Go.Proofs.YtnpkihobbcglcaaGreatDoor
