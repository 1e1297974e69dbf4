/- The closed facts of the row, one by one. -/
import Derived.Test.YtnpkihobbcglcaaGreatDoorQ45
set_option linter.unusedSimpArgs false
set_option linter.unusedVariables false
namespace Go.Proofs.YtnpkihobbcglcaaGreatDoor
open Go Go.ChangeShapes Go.WideShapes Go.ChangeAt Go.RowKit
set_option maxRecDepth 100000
theorem jf0 : Rows.fnPXQuickRow.wf (OpenSpec.ofChange Rows.fnPXQuickSpec) = true := by kernel_rfl
theorem jf1 : laidOutB Tryz.prog = true := by kernel_rfl
theorem jf2 : mapsRowed Tryz.prog = true := by kernel_rfl
theorem jf3 : Tryz.f3.params.all (Tryz.prog.readableRec ·) = true := by kernel_rfl
theorem jf4 : namedTie Tryz.prog Rows.fnPXQuickRow.named Rows.fnPXQuickSpec.vars = true := by kernel_rfl
theorem jf5 : (Rows.fnPXQuickRow.stops == []) = true := by kernel_rfl
theorem jf6 : (Tryz.prog.stops == []) = true := by kernel_rfl
theorem jf7 : (Rows.fnPXQuickRow.knobs == []) = true := by kernel_rfl
theorem jf8 : (Tryz.prog.stopKnobs == []) = true := by kernel_rfl
theorem jf9 : (Rows.fnPXQuickRow.inPlace == Tryz.prog.inPlace 3) = true := by kernel_rfl
theorem jf10 : (Rows.fnPXQuickRow.unfollowed == Tryz.prog.unfollowed 3) = true := by kernel_rfl
theorem jf11 : (Rows.fnPXQuickRow.recurses == Tryz.prog.recurses 3) = true := by kernel_rfl
theorem jf12 : (Rows.fnPXQuickRow.named == Tryz.prog.varsNamed 3) = true := by kernel_rfl
theorem jf13 : (Rows.fnPXQuickRow.maps == (Tryz.f3.params.toList ++ Rows.fnPXQuickSpec.plain.varTypes Tryz.prog).any (Tryz.prog.mapsRec ·)) = true := by kernel_rfl
theorem jf14 : (Rows.fnPXQuickRow.ifaces == (Tryz.f3.params.toList ++ Rows.fnPXQuickSpec.plain.varTypes Tryz.prog).any (Tryz.prog.ifacesRec ·)) = true := by kernel_rfl
theorem jf15 : (Rows.fnPXQuickRow.mapsOut == Tryz.prog.mapsAmong Tryz.f3.resultTypes.toList) = true := by kernel_rfl
theorem jf16 : (Rows.fnPXQuickRow.loops == (Tryz.f3.params.toList ++ Rows.fnPXQuickSpec.plain.varTypes Tryz.prog).any (Tryz.prog.loopsFrom ·)) = true := by kernel_rfl
theorem jf17 : (Rows.fnPXQuickRow.wideKeys == (Tryz.f3.params.toList ++ Rows.fnPXQuickSpec.plain.varTypes Tryz.prog ++ Tryz.f3.resultTypes.toList).any (Tryz.prog.wideKeysFrom ·)) = true := by kernel_rfl
theorem jf18 : Rows.fnPXQuickSpec.vars.all (Tryz.prog.varReadable ·) = true := by kernel_rfl
theorem jf19 : Tryz.f3.resultTypes.all (fun t => Tryz.prog.readableRec t && decide (t < Tryz.prog.types.size)) = true := by kernel_rfl
theorem jf20 : (Rows.fnPXQuickRow.ifacesOut == Tryz.f3.resultTypes.toList.any (Tryz.prog.ifacesRec ·)) = true := by kernel_rfl
theorem jf21 : (Rows.fnPXQuickRow.loopsOut == Tryz.f3.resultTypes.toList.any (Tryz.prog.loopsFrom ·)) = true := by kernel_rfl
theorem jf22 : (Rows.fnPXQuickRow.plainKeys == Tryz.prog.plainKeys) = true := by kernel_rfl
theorem jf23 : Rows.fnPXQuickRow.shortTexts.isNone = true := by kernel_rfl
theorem jf24 : Tryz.prog.stopsHeard = true := by kernel_rfl
theorem jf25 : Tryz.prog.mayEnter = true := by kernel_rfl
theorem jf26 : (Rows.fnPXQuickRow.lifted == Tryz.prog.liftsFinal) = true := by kernel_rfl
theorem jf27 : (Tryz.prog.make == some Rows.fnPXQuickRow.make) = true := by kernel_rfl
theorem jf28 : (Rows.fnPXQuickRow.kinds == (if Rows.fnPXQuickRow.domain.isEmpty then [] else Tryz.f3.params.toList.map fun t => match Tryz.prog.underlying t with | some (.int k) => some k | _ => Option.none)) = true := by kernel_rfl
theorem jf29 : (Rows.fnPXQuickRow.pinned == Rows.fnPXQuickRow.pinnedBy) = true := by kernel_rfl
theorem jf30 : (Rows.fnPXQuickRow.veiled == (Tryz.f3.params.toList ++ Rows.fnPXQuickSpec.plain.varTypes Tryz.prog ++ Tryz.f3.resultTypes.toList).any (Tryz.prog.veiledRec ·)) = true := by kernel_rfl
theorem jf31 : Rows.fnPXQuickRow.veiledFits Tryz.prog Tryz.f3.params.toList (Tryz.f3.params.toList ++ Rows.fnPXQuickSpec.plain.varTypes Tryz.prog ++ Tryz.f3.resultTypes.toList) = true := by kernel_rfl
theorem jfn : Tryz.prog.funcNamed Rows.fnPXQuickRow.func = some 3 := by kernel_rfl
theorem jinst : Tryz.f3.isInstance Tryz.prog Rows.fnPXQuickRow.origin Rows.fnPXQuickRow.targs := of_decide_eq_true (by kernel_rfl)
theorem jwrap : Tryz.f3.isWrapper Tryz.prog Rows.fnPXQuickRow.wrapper Rows.fnPXQuickRow.mainSum := by
  unfold Func.isWrapper; first | (rw [if_pos (by decide +kernel)]; kernel_rfl) | (rw [if_neg (by decide +kernel)]; exact ⟨rfl, rfl⟩)
theorem and2 {a b : Bool} (h : a = true) (k : b = true) : (a && b) = true := by rw [h, k]; rfl
theorem closed : joinedFacts Tryz.prog 3 Tryz.f3 Rows.fnPXQuickSpec Rows.fnPXQuickRow = true :=
  and2 (and2 (and2 (and2 (and2 (and2 (and2 (and2 (and2 (and2 (and2 (and2 (and2 (and2 (and2 (and2 (and2 (and2 (and2 (and2 (and2 (and2 (and2 (and2 (and2 (and2 (and2 (and2 (and2 (and2 (and2 jf0 jf1) jf2) jf3) jf4) jf5) jf6) jf7) jf8) jf9) jf10) jf11) jf12) jf13) jf14) jf15) jf16) jf17) jf18) jf19) jf20) jf21) jf22) jf23) jf24) jf25) jf26) jf27) jf28) jf29) jf30) jf31
end Go.Proofs.YtnpkihobbcglcaaGreatDoor
