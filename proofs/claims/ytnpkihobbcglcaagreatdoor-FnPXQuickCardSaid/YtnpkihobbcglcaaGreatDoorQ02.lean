/- Shared words: a frame relation between worlds, and blocks of memory that are known whole. No program in sight. -/
import Derived.WalkKit
import Derived.Lib.Hide
import Derived.Laws.CopyOwn
import Derived.Deep.Draws
import Derived.WalkLawsBesides
import Derived.WalkSpells
set_option linter.unusedSimpArgs false
set_option linter.unusedVariables false

/- V: Shared words: a frame relation between worlds, and blocks of memory that are known whole. No program in sight. -/
namespace Go.Proofs.YtnpkihobbcglcaaGreatDoor
open Go Go.RowKit

/-- Of what was there, nothing has turned but the blocks of S. -/
structure Frm (S : Nat → Prop) (w w' : World) : Prop where
  os : w'.os = w.os
  tape : w'.tape = w.tape
  output : w'.output = w.output
  size : w.heap.size ≤ w'.heap.size
  block : ∀ k, k < w.heap.size → ¬ S k → w'.heap[k]? = w.heap[k]?

theorem Frm.refl (S : Nat → Prop) (w : World) : Frm S w w := ⟨rfl, rfl, rfl, Nat.le_refl _, fun _ _ _ => rfl⟩
theorem Frm.trans {S : Nat → Prop} {a b c : World} (h : Frm S a b) (k : Frm S b c) : Frm S a c :=
  ⟨k.os.trans h.os, k.tape.trans h.tape, k.output.trans h.output, Nat.le_trans h.size k.size,
   fun i hi hn => (k.block i (Nat.lt_of_lt_of_le hi h.size) hn).trans (h.block i hi hn)⟩
theorem Frm.mono {S S' : Nat → Prop} {a b : World} (h : Frm S a b) (hs : ∀ k, k < a.heap.size → S k → S' k) : Frm S' a b :=
  ⟨h.os, h.tape, h.output, h.size, fun i hi hn => h.block i hi (fun hc => hn (hs i hi hc))⟩
theorem Frm.step {S S' : Nat → Prop} {a b c : World} (h : Frm S a b) (k : Frm S' b c) (hs : ∀ k, k < a.heap.size → S' k → S k) : Frm S a c :=
  ⟨k.os.trans h.os, k.tape.trans h.tape, k.output.trans h.output, Nat.le_trans h.size k.size,
   fun i hi hn => (k.block i (Nat.lt_of_lt_of_le hi h.size) (fun hc => hn (hs i hi hc))).trans (h.block i hi hn)⟩
theorem Frm.drew {S : Nat → Prop} {a w : World} (h : Frm S a w) : Frm S a w.drew := ⟨h.os, h.tape, h.output, h.size, h.block⟩
theorem Frm.drewN {S : Nat → Prop} {a w : World} (h : Frm S a w) (n : Nat) : Frm S a (w.drewN n) := ⟨h.os, h.tape, h.output, h.size, h.block⟩
theorem Frm.alloc {S : Nat → Prop} {a w : World} (h : Frm S a w) (o : Obj) : Frm S a (w.alloc o) :=
  h.trans ⟨rfl, rfl, rfl, by simp, fun k hk _ => Below.heap_alloc _ _ _ hk⟩
theorem Frm.setCell {S : Nat → Prop} {a w : World} (h : Frm S a w) {p : Addr} (hp : S p.block ∨ a.heap.size ≤ p.block) (u : Value) : Frm S a (w.setCell p u) :=
  ⟨h.os, h.tape, h.output, by simpa [World.setCell] using h.size, fun k hk hn => by
    rw [Below.heap_setCell _ _ _ _ (fun e => ?_)]
    · exact h.block k hk hn
    · subst e; rcases hp with hp | hp
      · exact hn hp
      · omega⟩
theorem Frm.below {S : Nat → Prop} {a w w' : World} (h : Frm S a w) (hb : Below w.heap.size w w') : Frm S a w' :=
  ⟨hb.os.trans h.os, hb.tape.trans h.tape, hb.output.trans h.output, Nat.le_trans h.size hb.size,
   fun k hk hn => (hb.block k (Nat.lt_of_lt_of_le hk h.size)).trans (h.block k hk hn)⟩
theorem Frm.grown {S : Nat → Prop} {a w w' : World} {row : Option Nat} (h : Frm S a w) (hg : w.grownBy w' row) (hr : ∀ k, row = some k → S k ∨ a.heap.size ≤ k) : Frm S a w' :=
  ⟨hg.os.trans h.os, hg.tape.trans h.tape, hg.output.trans h.output, Nat.le_trans h.size hg.size,
   fun k hk hn => (hg.block k (Nat.lt_of_lt_of_le hk h.size) (fun e => by
     rcases hr k e.symm with h1 | h1
     · exact hn h1
     · omega)).trans (h.block k hk hn)⟩
theorem Frm.toBelow {S : Nat → Prop} {a w : World} (h : Frm S a w) (hs : ∀ k, k < a.heap.size → ¬ S k) : Below a.heap.size a w :=
  ⟨h.os, h.tape, h.output, h.size, fun k hk => h.block k hk (hs k hk)⟩
theorem Frm.cell {S : Nat → Prop} {a w : World} (h : Frm S a w) {p : Addr} (hp : p.block < a.heap.size) (hn : ¬ S p.block) : w.cell? p = a.cell? p :=
  World.cell?_of_block (h.block p.block hp hn)
theorem Frm.frozen {S : Nat → Prop} {a w : World} (h : Frm S a w) {p : Addr} (hp : p.block < a.heap.size) (hn : ¬ S p.block) : w.frozen? p = a.frozen? p :=
  World.frozen?_of_block (h.block p.block hp hn)

/-- Nothing that was there has turned. -/
abbrev Kept (w w' : World) : Prop := Frm (fun _ => False) w w'
theorem Kept.toFrm {S : Nat → Prop} {a b : World} (h : Kept a b) : Frm S a b := h.mono (fun _ _ hf => hf.elim)

/-- A block is known whole. -/
def Blk (w : World) (b : Nat) (cs : Array Value) (T : TypeId) : Prop := w.heap[b]? = some (.cells cs T (0, 0))
theorem Blk.lt {w : World} {b : Nat} {cs : Array Value} {T : TypeId} (h : Blk w b cs T) : b < w.heap.size := by
  unfold Blk at h
  rcases Nat.lt_or_ge b w.heap.size with h' | h'
  · exact h'
  · rw [Array.getElem?_eq_none h'] at h; cases h
theorem Blk.cell {w : World} {b : Nat} {cs : Array Value} {T : TypeId} (h : Blk w b cs T) (i : Nat) : w.cell? ⟨b, i, none⟩ = cs[i]? := by
  unfold Blk at h; simp [World.cell?, h]
theorem Blk.free {w : World} {b : Nat} {cs : Array Value} {T : TypeId} (h : Blk w b cs T) (i : Nat) : w.frozen? ⟨b, i, none⟩ = false := by
  unfold Blk at h; simp [World.frozen?, h]
theorem Blk.new (w : World) (cs : Array Value) (T : TypeId) : Blk (w.alloc (.cells cs T)) w.heap.size cs T := heap_alloc_new w _
theorem Blk.alloc {w : World} {b : Nat} {cs : Array Value} {T : TypeId} (h : Blk w b cs T) (o : Obj) : Blk (w.alloc o) b cs T :=
  (Below.heap_alloc w o b h.lt).trans h
theorem Blk.drew {w : World} {b : Nat} {cs : Array Value} {T : TypeId} (h : Blk w b cs T) : Blk w.drew b cs T := h
theorem Blk.frm {S : Nat → Prop} {w w' : World} {b : Nat} {cs : Array Value} {T : TypeId} (h : Blk w b cs T) (hf : Frm S w w') (hn : ¬ S b) : Blk w' b cs T :=
  (hf.block b h.lt hn).trans h
theorem Blk.setOther {w : World} {b : Nat} {cs : Array Value} {T : TypeId} (h : Blk w b cs T) {a : Addr} (hn : b ≠ a.block) (v : Value) : Blk (w.setCell a v) b cs T :=
  (Below.heap_setCell w a v b hn).trans h
theorem Blk.set {w : World} {b : Nat} {cs : Array Value} {T : TypeId} (h : Blk w b cs T) (i : Nat) (v : Value) : Blk (w.setCell ⟨b, i, none⟩ v) b (cs.setIfInBounds i v) T := by
  unfold Blk at *
  simp [World.setCell, Array.getElem?_modify, h]

/-- A block of whole numbers. -/
def Ints (w : World) (b : Nat) (k : IntKind) (T : TypeId) (xs : List Int) : Prop := Blk w b (xs.map (Value.int k)).toArray T
theorem Ints.lt {w : World} {b : Nat} {k : IntKind} {T : TypeId} {xs : List Int} (h : Ints w b k T xs) : b < w.heap.size := Blk.lt h
theorem Ints.cell {w : World} {b : Nat} {k : IntKind} {T : TypeId} {xs : List Int} (h : Ints w b k T xs) (i : Nat) (hi : i < xs.length) :
    w.cell? ⟨b, i, none⟩ = some (.int k (xs.getD i 0)) := by
  rw [Blk.cell h]; simp [hi]
theorem Ints.free {w : World} {b : Nat} {k : IntKind} {T : TypeId} {xs : List Int} (h : Ints w b k T xs) (i : Nat) : w.frozen? ⟨b, i, none⟩ = false := Blk.free h i
theorem Ints.alloc {w : World} {b : Nat} {k : IntKind} {T : TypeId} {xs : List Int} (h : Ints w b k T xs) (o : Obj) : Ints (w.alloc o) b k T xs := Blk.alloc h o
theorem Ints.drew {w : World} {b : Nat} {k : IntKind} {T : TypeId} {xs : List Int} (h : Ints w b k T xs) : Ints w.drew b k T xs := h
theorem Ints.frm {S : Nat → Prop} {w w' : World} {b : Nat} {k : IntKind} {T : TypeId} {xs : List Int} (h : Ints w b k T xs) (hf : Frm S w w') (hn : ¬ S b) : Ints w' b k T xs := Blk.frm h hf hn
theorem Ints.setOther {w : World} {b : Nat} {k : IntKind} {T : TypeId} {xs : List Int} (h : Ints w b k T xs) {a : Addr} (hn : b ≠ a.block) (v : Value) : Ints (w.setCell a v) b k T xs := Blk.setOther h hn v
theorem Ints.set {w : World} {b : Nat} {k : IntKind} {T : TypeId} {xs : List Int} (h : Ints w b k T xs) (i : Nat) (v : Int) : Ints (w.setCell ⟨b, i, none⟩ (.int k v)) b k T (xs.set i v) := by
  have := Blk.set h i (.int k v)
  simpa [Ints, List.map_set] using this
theorem Ints.new (w : World) (k : IntKind) (T : TypeId) (xs : List Int) : Ints (w.alloc (.cells (xs.map (Value.int k)).toArray T)) w.heap.size k T xs := Blk.new w _ T

/-- A block of whole numbers that are not negative. -/
def natVals (k : IntKind) (xs : List Nat) : List Value := xs.map (fun n : Nat => Value.int k (n : Int))
theorem natVals_length (k : IntKind) (xs : List Nat) : (natVals k xs).length = xs.length := by simp [natVals]
theorem natVals_one (k : IntKind) (xs : List Nat) : ∀ v ∈ natVals k xs, v.oneCell' = true := by
  intro v hv; obtain ⟨x, _, rfl⟩ := List.mem_map.1 hv; rfl
theorem natVals_get (k : IntKind) (xs : List Nat) (i : Nat) (hi : i < xs.length) : (natVals k xs)[i]? = some (.int k ((xs.getD i 0 : Nat) : Int)) := by simp [natVals, hi]
def natCells (k : IntKind) (xs : List Nat) : Array Value := (natVals k xs).toArray
def Nats (w : World) (b : Nat) (k : IntKind) (T : TypeId) (xs : List Nat) : Prop := Blk w b (natCells k xs) T
theorem Nats.lt {w : World} {b : Nat} {k : IntKind} {T : TypeId} {xs : List Nat} (h : Nats w b k T xs) : b < w.heap.size := Blk.lt h
theorem Nats.cell {w : World} {b : Nat} {k : IntKind} {T : TypeId} {xs : List Nat} (h : Nats w b k T xs) (i : Nat) (hi : i < xs.length) :
    w.cell? ⟨b, i, none⟩ = some (.int k ((xs.getD i 0 : Nat) : Int)) := by
  rw [Blk.cell h]; simp [hi, natCells, natVals]
theorem Nats.free {w : World} {b : Nat} {k : IntKind} {T : TypeId} {xs : List Nat} (h : Nats w b k T xs) (i : Nat) : w.frozen? ⟨b, i, none⟩ = false := Blk.free h i
theorem Nats.alloc {w : World} {b : Nat} {k : IntKind} {T : TypeId} {xs : List Nat} (h : Nats w b k T xs) (o : Obj) : Nats (w.alloc o) b k T xs := Blk.alloc h o
theorem Nats.drew {w : World} {b : Nat} {k : IntKind} {T : TypeId} {xs : List Nat} (h : Nats w b k T xs) : Nats w.drew b k T xs := h
theorem Nats.frm {S : Nat → Prop} {w w' : World} {b : Nat} {k : IntKind} {T : TypeId} {xs : List Nat} (h : Nats w b k T xs) (hf : Frm S w w') (hn : ¬ S b) : Nats w' b k T xs := Blk.frm h hf hn
theorem Nats.setOther {w : World} {b : Nat} {k : IntKind} {T : TypeId} {xs : List Nat} (h : Nats w b k T xs) {a : Addr} (hn : b ≠ a.block) (v : Value) : Nats (w.setCell a v) b k T xs := Blk.setOther h hn v
theorem Nats.set {w : World} {b : Nat} {k : IntKind} {T : TypeId} {xs : List Nat} (h : Nats w b k T xs) (i : Nat) (v : Nat) : Nats (w.setCell ⟨b, i, none⟩ (.int k (v : Int))) b k T (xs.set i v) := by
  have := Blk.set h i (.int k (v : Int))
  simpa [Nats, natCells, natVals, List.map_set] using this
theorem Nats.new (w : World) (k : IntKind) (T : TypeId) (xs : List Nat) : Nats (w.alloc (.cells (natCells k xs) T)) w.heap.size k T xs := Blk.new w _ T

theorem Blk.setRow {w : World} {b : Nat} {cs : Array Value} {T : TypeId} (h : Blk w b cs T) (cs' : Array Value) : Blk (w.setRow b cs') b cs' T := by
  unfold Blk at *; exact setRow_heap w b _ cs' T _ h
theorem Blk.setRowOther {w : World} {b g : Nat} {cs : Array Value} {T : TypeId} (h : Blk w b cs T) (hn : b ≠ g) (cs' : Array Value) : Blk (w.setRow g cs') b cs T := by
  unfold Blk at *; rw [setRow_other w g b cs' hn]; exact h
theorem Frm.setRow {S : Nat → Prop} {a w : World} (h : Frm S a w) {g : Nat} (hp : S g ∨ a.heap.size ≤ g) (cs : Array Value) : Frm S a (w.setRow g cs) :=
  ⟨h.os, h.tape, h.output, by simpa [World.setRow] using h.size, fun k hk hn => by
    rw [setRow_other w g k cs (fun e => ?_)]
    · exact h.block k hk hn
    · subst e; rcases hp with hp | hp
      · exact hn hp
      · omega⟩

/-- copy between two known blocks of whole numbers: the run. -/
theorem run_copy_nats {P : Program} (w : World) (dT sT ty elem : TypeId) (k : IntKind) (g o dLen dCap sb so sLen sCap m : Nat) (t t2 : TypeId) (xs ys : List Nat)
    (hu : P.underlying dT = some (.slice elem)) (hs : (P.info? elem).map (·.size) = some 1)
    (hg : Nats w g k t xs) (hsb : Nats w sb k t2 ys) (hm : m = Nat.min sLen dLen) (hy : so + m ≤ ys.length) (hfit : o + m ≤ xs.length) :
    (Builtin.copy_ #[dT, sT] ty #[.slice (some ⟨g, o, none⟩) dLen dCap, .slice (some ⟨sb, so, none⟩) sLen sCap]).run P w =
      .ok (goInt m) (w.setRow g (natCells k (xs.take o ++ (ys.drop so).take m ++ xs.drop (o + m)))) := by
  have hl : (natVals k ((ys.drop so).take m)).length = m := by simp [natVals_length]; omega
  have h := run_copy_row (P := P) w dT sT ty elem g o dLen dCap ⟨sb, so, none⟩ sLen sCap (natCells k xs) t (natVals k ((ys.drop so).take m)) hu hs hg (by rw [hl, hm]) (fun j v hj => by
    have hj' : j < m := by have := (List.getElem?_eq_some_iff.1 hj).1; omega
    have h1 := hsb.cell (so + j) (by omega)
    have e : (⟨sb, so, none⟩ : Addr).add j = ⟨sb, so + j, none⟩ := by
      simp only [Addr.add]; split
      · rename_i h0; subst h0; rfl
      · rfl
    rw [e, h1, ← hj]
    simp [natVals, hj', List.getElem?_drop, show so + j < ys.length by omega]) (by rw [hl]; simp [natCells, natVals_length]; omega) (natVals_one _ _)
  rw [hl] at h
  rw [h]
  congr 3
  simp [natCells, natVals]
theorem Nats.setRow {w : World} {g : Nat} {k : IntKind} {T : TypeId} {xs : List Nat} (h : Nats w g k T xs) (ys : List Nat) : Nats (w.setRow g (natCells k ys)) g k T ys := Blk.setRow h _
theorem Nats.setRowOther {w : World} {b g : Nat} {k : IntKind} {T : TypeId} {xs : List Nat} (h : Nats w b k T xs) (hn : b ≠ g) (cs' : Array Value) : Nats (w.setRow g cs') b k T xs := Blk.setRowOther h hn cs'

end Go.Proofs.YtnpkihobbcglcaaGreatDoor
