/- The encoder of error correction bytes: made; its generator. -/
import Derived.Test.YtnpkihobbcglcaaGreatDoorQ15
import Derived.Test.YtnpkihobbcglcaaGreatDoorQ16
set_option linter.unusedSimpArgs false
set_option linter.unusedVariables false

/- F13: The encoder of error correction bytes: made; its generator. -/
namespace Go.Proofs.YtnpkihobbcglcaaGreatDoor
open Go Go.RowKit

theorem info240 : (Tryz.prog.info? 240).map (fun i => (i.zero, i.size, i.bytes)) = some (some (.pointer none), 1, 8) := by kernel_rfl

theorem Blk.ne {w : World} {a b : Nat} {cs ds : Array Value} {T U : TypeId} (h : Blk w a cs T) (k : Blk w b ds U) (hT : T ≠ U) : a ≠ b := by
  rintro rfl
  unfold Blk at h k
  rw [h] at k
  simp at k
  exact hT k.2
/-- No block of S is one of type 3, 289 or 242: so no part of a polynomial or of a field. -/
def Other (w : World) (S : Nat → Prop) : Prop := ∀ k, S k → ∃ cs T, Blk w k cs T ∧ T ≠ 3 ∧ T ≠ 289 ∧ T ≠ 242
theorem Other.not {w : World} {S : Nat → Prop} (h : Other w S) {b : Nat} {cs : Array Value} {T : TypeId} (hb : Blk w b cs T) (hT : T = 3 ∨ T = 289 ∨ T = 242) : ¬ S b := by
  intro hs
  obtain ⟨ds, U, hk, h1, h2, h3⟩ := h b hs
  refine hk.ne hb ?_ rfl
  rcases hT with rfl | rfl | rfl <;> assumption
theorem GPo.other {S : Nat → Prop} {w w' : World} {p f b off : Nat} {xs cs : List Nat} (h : GPo w p f b off xs cs) (hf : Frm S w w') (ho : Other w S) : GPo w' p f b off xs cs :=
  h.frm hf (ho.not h.obj (.inr (.inl rfl))) (ho.not h.row (.inl rfl))
theorem GP.other {S : Nat → Prop} {w w' : World} {p f : Nat} {cs : List Nat} (h : GP w p f cs) (hf : Frm S w w') (ho : Other w S) : GP w' p f cs :=
  let ⟨b, off, xs, h⟩ := h; ⟨b, off, xs, h.other hf ho⟩
theorem GF.other {S : Nat → Prop} {w w' : World} {f e l z o : Nat} (h : GF w f e l z o) (hf : Frm S w w') (ho : Other w S) : GF w' f e l z o :=
  ⟨h.obj.frm hf (ho.not h.obj (.inr (.inr rfl))), h.exps.frm hf (ho.not h.exps (.inl rfl)), h.logs.frm hf (ho.not h.logs (.inl rfl)), h.zero.other hf ho⟩

theorem newEncoder (f : Nat) (w : World) :
    Calls Tryz.prog 128 #[.pointer (some ⟨f, 0, none⟩)] w fun r w' => ∃ eo g p, r = .returned (.pointer (some ⟨eo, 0, none⟩)) ∧ Blk w' eo #[.pointer (some ⟨f, 0, none⟩), .slice (some ⟨g, 0, none⟩) 1 1] 274 ∧ Row w' 240 g 1 1 [.pointer (some ⟨p, 0, none⟩)] ∧ GP w' p f [1] ∧ Kept w w' ∧ w.heap.size ≤ eo ∧ w.heap.size ≤ g := by
  go_enter Tryz.func128, Tryz.ntmps128
  go_wp2_with fail
  have hn : Calls Tryz.prog 146 #[.pointer (some ⟨f, 0, none⟩), .slice (some ⟨w.heap.size, 0, none⟩) 1 1] (w.alloc (.cells #[.int .i64 1] 3)) fun r w' => ∃ p, r = .returned (.tuple #[.pointer (some ⟨p, 0, none⟩), .nilIface]) ∧ GPat w' p f (fun k => k = w.heap.size ∨ (w.alloc (.cells #[.int .i64 1] 3)).heap.size ≤ k) [1] ∧ Kept (w.alloc (.cells #[.int .i64 1] 3)) w' ∧ (w.alloc (.cells #[.int .i64 1] 3)).heap.size ≤ p := newPoly f w.heap.size [1] (w.alloc (.cells #[.int .i64 1] 3)) (Nats.new w .i64 3 [1]) (by simp) (by simp) (by intro c hc; simp at hc; omega)
  with_reducible refine hn.mono ?_
  clear hn
  rintro r w1 ⟨p, rfl, gp, k1, lp⟩
  go_wp2
  go_ret
  have hs1 : w.heap.size ≤ w1.heap.size := Nat.le_trans (by simp) k1.size
  have hb := Blk.new (w1.alloc (.cells #[.pointer (some ⟨p, 0, none⟩)] 240)) #[.pointer (some ⟨f, 0, none⟩), .slice (some ⟨w1.heap.size, 0, none⟩) 1 1] 274
  rw [show (w1.alloc (.cells #[.pointer (some ⟨p, 0, none⟩)] 240)).heap.size = w1.heap.size + 1 by simp] at hb
  refine ⟨_, w1.heap.size, p, rfl, hb, (Row.of_blk (Blk.new w1 #[.pointer (some ⟨p, 0, none⟩)] 240) (by simp [maxLen])).alloc _, ?_, ?_, ?_, hs1⟩
  · exact gp.gp.kept (((Frm.refl _ _).alloc _).alloc _)
  · exact (((Frm.refl _ _).alloc _).trans k1).trans (((Frm.refl _ _).alloc _).alloc _)
  · omega
end Go.Proofs.YtnpkihobbcglcaaGreatDoor
