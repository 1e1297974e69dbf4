/- The law FnPXQuick: a QR code that is written for a text says this text in any picture as above; for any text, kind, level, scale, four margins, light grey and arrangement that are handed in. -/
import Derived.Test.YtnpkihobbcglcaaGreatDoorW3
import Derived.Test.YtnpkihobbcglcaaGreatDoorW4
import Derived.Test.YtnpkihobbcglcaaGreatDoorE10
set_option linter.unusedSimpArgs false
set_option linter.unusedVariables false
namespace Go.Proofs.YtnpkihobbcglcaaGreatDoor
open Go Go.ChangeShapes Go.WideShapes Go.ChangeAt Go.RowKit

set_option maxRecDepth 100000 in
theorem said (h3 : Rule3) : Rows.FnPXQuickSaid :=
  OpenClaim.holds_of_cond 3 Tryz.f3 rfl rfl rfl rfl rfl rfl rfl ⟨rfl, rfl, rfl, rfl, rfl⟩ rfl rfl rfl rfl rfl jfn Tryz.func3 closed jinst jwrap
    (fun os started H enc _ F => by rw [OpenClaim.pre_eq_preRow]; exact lifted h3 os started H enc F)
theorem no9 : Tryz.prog.wantsStandIn 9 = false := by kernel_rfl
theorem no5 : Tryz.prog.wantsStandIn 5 = false := by kernel_rfl
theorem no22 : Tryz.prog.wantsStandIn 22 = false := by kernel_rfl
theorem noAll : ∀ t ∈ [9, 5, 5, 5, 22, 5, 5], Tryz.prog.wantsStandIn t = false :=
  List.forall_mem_cons.2 ⟨no9, List.forall_mem_cons.2 ⟨no5, List.forall_mem_cons.2 ⟨no5, List.forall_mem_cons.2 ⟨no5, List.forall_mem_cons.2 ⟨no22, List.forall_mem_cons.2 ⟨no5, List.forall_mem_cons.2 ⟨no5, fun _ h => by cases h⟩⟩⟩⟩⟩⟩⟩
theorem plain (f : FuncId) (fn : Func) (hf : Tryz.pinned.checked.prog.funcNamed "given.example/pub-quietzone/laws.FnPXQuick" = some f) (hfn : Tryz.pinned.checked.prog.funcs[f]? = some fn) :
    true = Tryz.pinned.checked.prog.looks [] ∧ ∀ (j : Nat) t, fn.params[j]? = some t → Tryz.pinned.checked.prog.wantsStandIn t = false := by
  obtain rfl : f = 3 := Option.some.inj ((show Tryz.prog.funcNamed "given.example/pub-quietzone/laws.FnPXQuick" = some 3 by kernel_rfl).symm.trans hf) |>.symm
  obtain rfl : fn = Tryz.f3 := (Option.some.inj (Tryz.func3.symm.trans hfn)).symm
  refine ⟨by kernel_rfl, fun j t ht => ?_⟩
  rw [Tryz.params3] at ht
  have hm := Array.mem_of_getElem? ht
  exact noAll t (Array.mem_toList_iff.2 hm)
theorem card_of (h3 : Rule3) : Rows.FnPXQuickCardSaid :=
  Claim7.holds_tied_plain_at .later [] _ _ _ _ (said h3) (fun _ h => by cases h) (by kernel_rfl) (fun _ h => by cases h) fnPXQuick_row_tie rfl ⟨rfl, rfl⟩ (by kernel_rfl) rfl plain (by kernel_rfl)
theorem fnPXQuick_holds : Rows.FnPXQuickCardSaid := card_of rule3_any
end Go.Proofs.YtnpkihobbcglcaaGreatDoor
