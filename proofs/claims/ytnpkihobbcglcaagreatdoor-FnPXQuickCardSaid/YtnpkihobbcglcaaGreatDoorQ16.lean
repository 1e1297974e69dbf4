/- Slices that grow: a row of one-cell elements known up to its length; what append makes of it. No program in sight. -/
import Derived.Test.YtnpkihobbcglcaaGreatDoorQ03
import Derived.Maps.AppendAt
import Derived.WalkKit
set_option linter.unusedSimpArgs false
set_option linter.unusedVariables false

/- O1: Slices that grow: a row of one-cell elements known up to its length; what append makes of it. No program in sight. -/
namespace Go.Proofs.YtnpkihobbcglcaaGreatDoor
open Go Go.RowKit

/-- The block g has room for cap elements; the first n of them are xs. -/
structure Row (w : World) (e : TypeId) (g n cap : Nat) (xs : List Value) : Prop where
  len : xs.length = n
  cells : ∃ cur, Blk w g cur e ∧ cur.size = cap ∧ cur.toList.take n = xs
  room : n ≤ cap
  small : cap ≤ maxLen

theorem Row.lt {w : World} {e : TypeId} {g n cap : Nat} {xs : List Value} (h : Row w e g n cap xs) : g < w.heap.size := by
  obtain ⟨cur, h1, _⟩ := h.cells; exact h1.lt
theorem Row.frm {S : Nat → Prop} {w w' : World} {e : TypeId} {g n cap : Nat} {xs : List Value} (h : Row w e g n cap xs) (hf : Frm S w w') (hn : ¬ S g) : Row w' e g n cap xs := by
  obtain ⟨cur, h1, h2, h3⟩ := h.cells
  exact ⟨h.len, ⟨cur, h1.frm hf hn, h2, h3⟩, h.room, h.small⟩
theorem Row.kept {w w' : World} {e : TypeId} {g n cap : Nat} {xs : List Value} (h : Row w e g n cap xs) (hf : Kept w w') : Row w' e g n cap xs := h.frm hf (fun h => h)
theorem Row.alloc {w : World} {e : TypeId} {g n cap : Nat} {xs : List Value} (h : Row w e g n cap xs) (o : Obj) : Row (w.alloc o) e g n cap xs := h.kept ((Frm.refl _ _).alloc o)
theorem Row.drewN {w : World} {e : TypeId} {g n cap : Nat} {xs : List Value} (h : Row w e g n cap xs) (m : Nat) : Row (w.drewN m) e g n cap xs := h.kept ((Frm.refl _ _).drewN m)
theorem Row.cell {w : World} {e : TypeId} {g n cap : Nat} {xs : List Value} (h : Row w e g n cap xs) (i : Nat) (hi : i < n) : w.cell? ⟨g, i, none⟩ = xs[i]? := by
  obtain ⟨cur, h1, h2, h3⟩ := h.cells
  rw [h1.cell, ← h3, List.getElem?_take]
  simp [hi]
theorem Row.free {w : World} {e : TypeId} {g n cap : Nat} {xs : List Value} (h : Row w e g n cap xs) (i : Nat) : w.frozen? ⟨g, i, none⟩ = false := by
  obtain ⟨cur, h1, _⟩ := h.cells; exact h1.free i
theorem Row.of_blk {w : World} {e : TypeId} {g : Nat} {cs : Array Value} (h : Blk w g cs e) (hs : cs.size ≤ maxLen) : Row w e g cs.size cs.size cs.toList :=
  ⟨Array.length_toList, ⟨cs, h, rfl, by rw [← Array.length_toList, List.take_length]⟩, Nat.le_refl _, hs⟩
/-- make([]T, 0, cap). -/
theorem Row.made {w : World} {e : TypeId} {g : Nat} {cs : Array Value} (h : Blk w g cs e) (hs : cs.size ≤ maxLen) : Row w e g 0 cs.size [] :=
  ⟨rfl, ⟨cs, h, rfl, by simp⟩, Nat.zero_le _, hs⟩

theorem Row.own {w : World} {e : TypeId} {g n cap : Nat} {xs : List Value} (h : Row w e g n cap xs) : w.ownsRow 0 e 1 (.slice (some ⟨g, 0, none⟩) n cap) n xs := by
  obtain ⟨cur, h1, h2, h3⟩ := h.cells
  exact ⟨by rw [h.len]; omega, .inr ⟨g, cap, cur, rfl, Nat.zero_le _, h1, h.room, h.small, by omega, by rw [Nat.mul_one]; exact h3⟩⟩
theorem Row.of_own {w : World} {e : TypeId} {v : Value} {n : Nat} {xs : List Value} (h : w.ownsRow 0 e 1 v n xs) (hv : v ≠ .slice none 0 0) : ∃ g cap, v = .slice (some ⟨g, 0, none⟩) n cap ∧ Row w e g n cap xs := by
  obtain ⟨h0, h1⟩ := h
  rcases h1 with ⟨rfl, _⟩ | ⟨g, cap, cur, rfl, _, hg, hn, hc, hs, ht⟩
  · exact absurd rfl hv
  · exact ⟨g, cap, rfl, by rw [h0]; omega, ⟨cur, hg, by omega, by rw [Nat.mul_one] at ht; exact ht⟩, hn, hc⟩

section
variable (t ty e : TypeId) (z : Value) (bytes : Nat) (ht : Tryz.prog.underlying t = some (.slice e)) (hi : (Tryz.prog.info? e).map (fun i => (i.zero, i.size, i.bytes)) = some (some z, 1, bytes)) (hz : z.cells.size = 1)
include ht hi hz

/-- append onto a row: there was room, or it lies anew. -/
theorem run_append_row {w : World} {g n cap : Nat} {xs : List Value} (h : Row w e g n cap xs) (ad : Addr) (m c : Nat) (news : List Value) (hl : news.length = m) (hm : m ≠ 0)
    (hnews : ∀ j u, news[j]? = some u → w.cell? (ad.add j) = some u) (h1 : ∀ u ∈ news, u.oneCell' = true) (h63 : n + m ≤ maxLen) (hb : (n + m) * bytes ≤ 140737488355328) :
    ∃ g' cap' w', (Builtin.append_ #[t, t] ty #[.slice (some ⟨g, 0, none⟩) n cap, .slice (some ad) m c]).run Tryz.prog w = .ok (.slice (some ⟨g', 0, none⟩) ((n + m : Nat) : Nat) cap') w' ∧ Row w' e g' (n + m) cap' (xs ++ news) ∧ Frm (fun k => k = g) w w' ∧ (g' = g ∨ g' = w.heap.size) := by
  obtain ⟨i, hi1, hi2, hi3, hi4⟩ := info_parts hi
  obtain ⟨v', w', hr, hown, hgr, hnil, hat⟩ := run_append_own_at (P := Tryz.prog) w 0 t ty e i z 1 bytes ht hi1 hi2 hi3 hi4 hz (by omega) _ n xs h.own ad m c news (by omega) hnews h1 h63 hb (Nat.zero_le _)
  obtain ⟨g', cap', rfl, hrow⟩ := Row.of_own hown (fun e => by have := (hnil.1 e).2; exact hm this)
  refine ⟨g', cap', w', hr, hrow, (Frm.refl _ w).grown hgr ?_, ?_⟩
  · intro k hk; simp [Value.ownBlock] at hk; exact .inl hk.symm
  · simpa [Value.ownBlock] using hat

/-- append onto nil. -/
theorem run_append_nil {w : World} (ad : Addr) (m c : Nat) (news : List Value) (hl : news.length = m) (hm : m ≠ 0)
    (hnews : ∀ j u, news[j]? = some u → w.cell? (ad.add j) = some u) (h1 : ∀ u ∈ news, u.oneCell' = true) (h63 : m ≤ maxLen) (hb : m * bytes ≤ 140737488355328) :
    ∃ g' cap' w', (Builtin.append_ #[t, t] ty #[.slice none 0 0, .slice (some ad) m c]).run Tryz.prog w = .ok (.slice (some ⟨g', 0, none⟩) m cap') w' ∧ Row w' e g' m cap' news ∧ Kept w w' ∧ g' = w.heap.size := by
  obtain ⟨i, hi1, hi2, hi3, hi4⟩ := info_parts hi
  obtain ⟨v', w', hr, hown, hgr, hnil, hat⟩ := run_append_own_at (P := Tryz.prog) w 0 t ty e i z 1 bytes ht hi1 hi2 hi3 hi4 hz (by omega) _ 0 [] (World.ownsRow_nil w 0 e 1) ad m c news (by omega) hnews h1 (by omega) (by rw [Nat.zero_add]; exact hb) (Nat.zero_le _)
  obtain ⟨g', cap', rfl, hrow⟩ := Row.of_own hown (fun e => by have := (hnil.1 e).2; exact hm this)
  rw [Nat.zero_add] at hr hrow
  refine ⟨g', cap', w', hr, by simpa using hrow, (Frm.refl _ w).grown hgr ?_, ?_⟩
  · intro k hk; simp [Value.ownBlock] at hk
  · simpa [Value.ownBlock] using hat

/-- append of one element, which lies in a block of its own. -/
theorem run_append_row1 {w : World} {g n cap : Nat} {xs : List Value} (h : Row w e g n cap xs) (u : Value) (hu : u.oneCell' = true) (h63 : n + 1 ≤ maxLen) (hb : (n + 1) * bytes ≤ 140737488355328) :
    ∃ g' cap' w', (Builtin.append_ #[t, t] ty #[.slice (some ⟨g, 0, none⟩) n cap, .slice (some ⟨w.heap.size, 0, none⟩) 1 1]).run Tryz.prog (w.alloc (.cells #[u] e)) = .ok (.slice (some ⟨g', 0, none⟩) (n + 1) cap') w' ∧ Row w' e g' (n + 1) cap' (xs ++ [u]) ∧ Frm (fun k => k = g) w w' ∧ (g' = g ∨ w.heap.size ≤ g') := by
  have hb2 := Blk.new w #[u] e
  obtain ⟨g', cap', w', hr, hrow, hf, hg⟩ := run_append_row t ty e z bytes ht hi hz (h.alloc (.cells #[u] e)) ⟨w.heap.size, 0, none⟩ 1 1 [u] rfl (by omega)
    (by
      intro j v hj
      match j with
      | 0 => simp at hj; subst hj; exact hb2.cell 0
      | j + 1 => simp at hj)
    (by intro v hv; simp at hv; subst hv; exact hu) h63 hb
  refine ⟨g', cap', w', hr, hrow, ((Frm.refl _ w).alloc _).trans hf, ?_⟩
  rcases hg with h | h
  · exact .inl h
  · right; rw [h]; simp
theorem run_append_nil1 {w : World} (u : Value) (hu : u.oneCell' = true) (hb : bytes ≤ 140737488355328) :
    ∃ g' cap' w', (Builtin.append_ #[t, t] ty #[.slice none 0 0, .slice (some ⟨w.heap.size, 0, none⟩) 1 1]).run Tryz.prog (w.alloc (.cells #[u] e)) = .ok (.slice (some ⟨g', 0, none⟩) 1 cap') w' ∧ Row w' e g' 1 cap' [u] ∧ Kept w w' ∧ w.heap.size ≤ g' := by
  have hb2 := Blk.new w #[u] e
  obtain ⟨g', cap', w', hr, hrow, hf, hg⟩ := run_append_nil t ty e z bytes ht hi hz (w := w.alloc (.cells #[u] e)) ⟨w.heap.size, 0, none⟩ 1 1 [u] rfl (by omega)
    (by
      intro j v hj
      match j with
      | 0 => simp at hj; subst hj; exact hb2.cell 0
      | j + 1 => simp at hj)
    (by intro v hv; simp at hv; subst hv; exact hu) (by unfold maxLen; omega) (by omega)
  exact ⟨g', cap', w', hr, hrow, ((Frm.refl _ w).alloc _).trans hf, by rw [hg]; simp⟩
end

/-- For the walk: an append whose run is known. -/
theorem wpList_append_run {P : Program} {w : World} {ops : Array Oper} {rest : List Oper} {o : Oper} {a : Act} {Q : Exit → Act → World → Prop} (hgd : o.guard = none) (s x : Operand) (t u : TypeId)
    (ho : o.op = .call { callee := .builtin .append, args := #[s, x], argTypes := #[t, u] }) (v y : Value) (hs : a.eval s = v) (hx : a.eval x = y) (v' : Value) (w' : World)
    (hrun : (Builtin.append_ #[t, u] o.type #[v, y]).run P w = .ok v' w') (h : wpList P ops Q rest (a.put o.dst v') w') : wpList P ops Q (o :: rest) a w :=
  wpList_plain hgd fun _ hK => by
    unfold Oper.wp execOp
    simp only [ho, resolve, invoke, builtin, Sem.run_bind, Sem.run_pure, Result.andThen_ok, List.map_toArray, List.map_cons, List.map_nil, hs, hx, hrun]
    exact hK _ _ h
end Go.Proofs.YtnpkihobbcglcaaGreatDoor
