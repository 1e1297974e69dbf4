/- The row and the card of FnPXQuick, given the walk's result. -/
import Derived.Test.YtnpkihobbcglcaaGreatDoorCards
import Derived.Test.YtnpkihobbcglcaaGreatDoorTie
import Derived.Test.YtnpkihobbcglcaaGreatDoorQ44
import Derived.WalkKit
import Derived.ProofKit
import Derived.OpenShut
import Derived.Deep.DeepHandedRow
import Derived.Lib.LaidTab
import Derived.WideKeyArr2
import Derived.Laws.IdiomArrays
set_option linter.unusedSimpArgs false
set_option linter.unusedVariables false

/- W2: The row and the card of FnPXQuick, given the walk's result. -/
namespace Go.Proofs.YtnpkihobbcglcaaGreatDoor
open Go Go.ChangeShapes Go.WideShapes Go.ChangeAt Go.RowKit
open Go.ChangeMaps (open_string shut_string)

theorem own : ownKnob Tryz.prog.godebug = none := by kernel_rfl
theorem arr22 : Go.WideMaps.ArrKey Tryz.prog 22 5 4 := ⟨Tryz.underlying22, by kernel_rfl, by kernel_rfl, by kernel_rfl⟩
theorem cells5c : Tryz.prog.cellsOf 5 = 1 := by kernel_rfl
theorem cells22c : Tryz.prog.cellsOf 22 = 4 := by kernel_rfl

/-- Nothing that was there has turned. -/
theorem kept_but {W W' : World} (h : Kept W W') : W.keptBut W' (fun _ => False) := by
  refine ⟨h.os, h.output, fun i hi => ?_⟩
  rw [h.block i hi (fun e => e)]
  cases W.heap[i]? with
  | none => rfl
  | some o =>
    cases o with
    | cells c t fr => exact ⟨rfl, rfl, rfl, fun _ _ => rfl⟩
    | map es cl => exact .inr ⟨rfl, rfl⟩
    | _ => rfl

set_option maxRecDepth 100000 in
/-- The four margins' bytes, taken apart. -/
theorem open_four {H : Type} {enc : TypeId × Value → H} {W : World} {base : Nat} {v : Value} {d : DataW H} {p : List MemPlace} (hok : Value.okWide Tryz.prog W .any base 22 v) (h : DataW.Trod enc Tryz.prog W 0 (fun _ => true) true 22 v d p) :
    ∃ a0 a1 a2 a3 : Int, v = .agg #[.int .u8 a0, .int .u8 a1, .int .u8 a2, .int .u8 a3] ∧ d = .agg [.lit (.int .u8 a0), .lit (.int .u8 a1), .lit (.int .u8 a2), .lit (.int .u8 a3)] ∧ p = [] ∧ (Lit.int .u8 a0).wf = true ∧ (Lit.int .u8 a1).wf = true ∧ (Lit.int .u8 a2).wf = true ∧ (Lit.int .u8 a3).wf = true := by
  obtain ⟨xs, rfl, hx⟩ := Go.WideMaps.okWide_arr arr22 hok
  obtain ⟨fuel, hf⟩ := h
  obtain ⟨c0, c1, c2, c3, hc⟩ : ∃ c0 c1 c2 c3, xs = #[c0, c1, c2, c3] := by
    obtain ⟨l⟩ := xs
    match l, hx with
    | [c0, c1, c2, c3], _ => exact ⟨c0, c1, c2, c3, rfl⟩
  subst hc
  obtain ⟨y0, y1, y2, y3, n, e, h0, h1, h2, h3⟩ := trod_array4 Tryz.underlying22 cells5c hf
  obtain ⟨a0, e0, r0, w0⟩ := DataW.trod_int Tryz.underlying5 h0
  obtain ⟨a1, e1, r1, w1⟩ := DataW.trod_int Tryz.underlying5 h1
  obtain ⟨a2, e2, r2, w2⟩ := DataW.trod_int Tryz.underlying5 h2
  obtain ⟨a3, e3, r3, w3⟩ := DataW.trod_int Tryz.underlying5 h3
  simp only [List.cons.injEq, and_true] at e0 e1 e2 e3
  subst e0 e1 e2 e3 r0 r1 r2 r3
  simp only [Prod.mk.injEq, List.append_nil] at e
  exact ⟨a0, a1, a2, a3, rfl, e.1, e.2, w0, w1, w2, w3⟩
theorem shut_four {H : Type} {enc : TypeId × Value → H} {W : World} {base : Nat} {sp : Nat → Bool} {held : Bool} {a0 a1 a2 a3 : Int} (w0 : (Lit.int .u8 a0).wf = true) (w1 : (Lit.int .u8 a1).wf = true) (w2 : (Lit.int .u8 a2).wf = true) (w3 : (Lit.int .u8 a3).wf = true) :
    DataW.Trod enc Tryz.prog W base sp held 22 (.agg #[.int .u8 a0, .int .u8 a1, .int .u8 a2, .int .u8 a3]) (.agg [.lit (.int .u8 a0), .lit (.int .u8 a1), .lit (.int .u8 a2), .lit (.int .u8 a3)]) [] := by
  have r4 : List.range 4 = [0, 1, 2, 3] := rfl
  exact ⟨2, by simp [DataW.trod, Value.cells, Tryz.underlying22, Tryz.underlying5, cells5c, cells22c, r4, w0, w1, w2, w3]⟩
theorem u8_nat {a : Int} (h : (Lit.int .u8 a).wf = true) : ∃ n : Nat, a = n ∧ n < 256 := by
  have := bounds_u8 h
  exact ⟨a.toNat, by omega, by omega⟩

/-- A law's call that answers true and turns nothing, over arguments without memory. -/
theorem post_plain {H : Type} {enc : TypeId × Value → H} {P : Program} {f : Func} {s : ChangeSpec} {apart fresh handsOn again : Bool} {W W' : World} {args : Array Value} {v : Value} {ds gs : List (DataW H)}
    (hW : DataW.Whole enc P f.params.toList s.vars apart W args.toList ds gs [])
    (hres : ∀ (b : Nat) (sp : Nat → Bool) (hd : Bool), DataW.TrodAll enc P W' b sp hd f.resultTypes.toList (v.resultList f.resultTypes.size) (s.fn H (ds ++ gs)).results [])
    (hargs : ∀ sp : Nat → Bool, DataW.TrodAll enc P W' 0 sp true f.params.toList args.toList (s.fn H (ds ++ gs)).args [])
    (hvars : ∀ sp : Nat → Bool, DataW.TrodVars enc P W' sp s.vars (s.fn H (ds ++ gs)).vars [])
    (hk : W.keptBut W' (fun _ => False))
    (hok : ∀ (j : Nat) (t : TypeId) (r : Value), f.resultTypes[j]? = some t → (v.resultList f.resultTypes.size)[j]? = some r → Value.okWide P W' .any 0 t r) :
    s.post enc P f apart fresh handsOn again W args v W' := by
  refine ⟨ds, gs, [], [], [], [], hW, hres _ _ _, hargs _, hvars _, World.keptBut_mono (fun p hp => hp.elim) hk, fun _ => ?_⟩
  refine ⟨hok, _, _, [], ⟨[], [], trodAll_append (hargs _) (hres _ _ _), hvars _, rfl, fun b off hp => ?_, fun _ => ?_⟩, fun p hp _ => ?_⟩
  · cases hp
  · exact List.nodup_nil
  · cases hp
end Go.Proofs.YtnpkihobbcglcaaGreatDoor
