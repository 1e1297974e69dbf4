/- The row of FnPXQuick: contract, witness, card. -/
import Derived.Test.YtnpkihobbcglcaaGreatDoorQ45
set_option linter.unusedSimpArgs false
set_option linter.unusedVariables false
namespace Go.Proofs.YtnpkihobbcglcaaGreatDoor
open Go Go.ChangeShapes Go.WideShapes Go.ChangeAt Go.RowKit
open Go.ChangeMaps (open_string shut_string)

set_option maxRecDepth 100000 in
theorem contract (h3 : Rule3) (H : Type) (enc : TypeId × Value → H) (W : World) (base : Nat) (args : Array Value) (ds gs : List (DataW H)) (before : List MemPlace)
    (hval : ∀ (j : Nat) t v, Tryz.f3.params[j]? = some t → args[j]? = some v → Value.okWide Tryz.prog W .any base t v)
    (hW : DataW.Whole enc Tryz.prog Tryz.f3.params.toList Rows.fnPXQuickSpec.vars false W args.toList ds gs before) :
    Calls Tryz.prog 3 args W fun e W' => ∃ v, e = .returned v ∧ Rows.fnPXQuickSpec.post enc Tryz.prog Tryz.f3 false true false false W args v W' := by
  have hW' := hW
  obtain ⟨p, q, hA0, hV, rfl, hfz, hnd⟩ := hW
  have hA : DataW.TrodAll enc Tryz.prog W 0 (fun _ => true) true Tryz.f3.params.toList args.toList ds p := hA0
  rw [Tryz.params3] at hA hval
  obtain ⟨v0, vs0, d0, ds0, p0, q0, hargs, rfl, rfl, t0, r0⟩ := trodAll_cons hA
  obtain ⟨v1, vs1, d1, ds1, p1, q1, rfl, rfl, rfl, t1, r1⟩ := trodAll_cons r0
  obtain ⟨v2, vs2, d2, ds2, p2, q2, rfl, rfl, rfl, t2, r2⟩ := trodAll_cons r1
  obtain ⟨v3, vs3, d3, ds3, p3, q3, rfl, rfl, rfl, t3, r3⟩ := trodAll_cons r2
  obtain ⟨v4, vs4, d4, ds4, p4, q4, rfl, rfl, rfl, t4, r4⟩ := trodAll_cons r3
  obtain ⟨v5, vs5, d5, ds5, p5, q5, rfl, rfl, rfl, t5, r5⟩ := trodAll_cons r4
  obtain ⟨v6, vs6, d6, ds6, p6, q6, rfl, rfl, rfl, t6, r6⟩ := trodAll_cons r5
  obtain ⟨rfl, rfl, rfl⟩ := trodAll_nil r6
  obtain rfl : args = #[v0, v1, v2, v3, v4, v5, v6] := by cases args; simp_all
  obtain ⟨rfl, rfl⟩ := trodVars_none hV
  obtain ⟨s, rfl, rfl, rfl, hs⟩ := open_string Tryz.underlying9 (hval 0 9 v0 rfl rfl) t0
  obtain ⟨z1, rfl, rfl, rfl, w1⟩ := open_int Tryz.underlying5 (hval 1 5 v1 rfl rfl) t1
  obtain ⟨z2, rfl, rfl, rfl, w2⟩ := open_int Tryz.underlying5 (hval 2 5 v2 rfl rfl) t2
  obtain ⟨z3, rfl, rfl, rfl, w3⟩ := open_int Tryz.underlying5 (hval 3 5 v3 rfl rfl) t3
  obtain ⟨b0, b1, b2, b3, rfl, rfl, rfl, x0, x1, x2, x3⟩ := open_four (hval 4 22 v4 rfl rfl) t4
  obtain ⟨z5, rfl, rfl, rfl, w5⟩ := open_int Tryz.underlying5 (hval 5 5 v5 rfl rfl) t5
  obtain ⟨z6, rfl, rfl, rfl, w6⟩ := open_int Tryz.underlying5 (hval 6 5 v6 rfl rfl) t6
  clear hA0 hA r0 r1 r2 r3 r4 r5 r6 hargs hV hval t0 t1 t2 t3 t4 t5 t6 hfz hnd
  simp only [List.append_nil] at hW'
  obtain ⟨n1, rfl, l1⟩ := u8_nat w1
  obtain ⟨n2, rfl, l2⟩ := u8_nat w2
  obtain ⟨n3, rfl, l3⟩ := u8_nat w3
  obtain ⟨c0, rfl, m0⟩ := u8_nat x0
  obtain ⟨c1, rfl, m1⟩ := u8_nat x1
  obtain ⟨c2, rfl, m2⟩ := u8_nat x2
  obtain ⟨c3, rfl, m3⟩ := u8_nat x3
  obtain ⟨n5, rfl, l5⟩ := u8_nat w5
  obtain ⟨n6, rfl, l6⟩ := u8_nat w6
  refine (fnPXQuick h3 s n1 n2 n3 c0 c1 c2 c3 n5 n6 W l1 l2 l3 m0 m1 m2 m3 l5 l6).mono fun e W' ⟨he, hg⟩ => ?_
  subst he
  refine ⟨_, rfl, post_plain hW' (fun _ _ _ => trodAll_cons_mk (shut_bool Tryz.underlying4 _) trodAll_mk0) (fun _ => ?_) (fun _ => rfl) (kept_but hg) (ok_one (by kernel_rfl) rfl (okWide_bool_mk Tryz.underlying4 _))⟩
  exact trodAll_cons_mk (shut_string Tryz.underlying9 hs) (trodAll_cons_mk (shut_int Tryz.underlying5 w1) (trodAll_cons_mk (shut_int Tryz.underlying5 w2) (trodAll_cons_mk (shut_int Tryz.underlying5 w3) (trodAll_cons_mk (shut_four x0 x1 x2 x3) (trodAll_cons_mk (shut_int Tryz.underlying5 w5) (trodAll_cons_mk (shut_int Tryz.underlying5 w6) trodAll_mk0))))))

abbrev syntaxS : ByteArray := { data := #[105, 110, 118, 97, 108, 105, 100, 32, 115, 121, 110, 116, 97, 120] }
abbrev rangeS : ByteArray := { data := #[118, 97, 108, 117, 101, 32, 111, 117, 116, 32, 111, 102, 32, 114, 97, 110, 103, 101] }
noncomputable def low : Nat := (World.holding Tryz.prog default ⟨#[], #[], []⟩).heap.size
def litCells {H : Type} : DataW H → Array Value
  | .agg ds => (ds.filterMap fun d => match d with | .lit (.int k n) => some (Value.int k n) | _ => none).toArray
  | _ => #[]
/-- A world for the witness: the five listed variables hold what their initialisers lay. -/
noncomputable def laidWorld (os : Os) : World :=
  let w0 := World.holding Tryz.prog os ⟨#[.cells #[.string syntaxS] 209, .cells #[.string rangeS] 209], #[], []⟩
  { w0 with heap := ((((w0.heap.modify 0 fun
      | .cells _ t frozen => .cells #[.iface 207 (.pointer (some ⟨low, 0, none⟩))] t frozen
      | o => o).modify 1 fun
      | .cells _ t frozen => .cells #[.iface 207 (.pointer (some ⟨low + 1, 0, none⟩))] t frozen
      | o => o).modify 2 fun
      | .cells _ t frozen => .cells (litCells (H := Unit) Rows.laid_internal_strconv_uint64pow10) t frozen
      | o => o).modify 3 fun
      | .cells _ t frozen => .cells (litCells (H := Unit) Rows.laid_math_bits_deBruijn32tab) t frozen
      | o => o).modify 4 fun
      | .cells _ t frozen => .cells (litCells (H := Unit) Rows.laid_math_bits_deBruijn64tab) t frozen
      | o => o }
abbrev wArgs : Array Value := #[.string ⟨#[]⟩, .int .u8 0, .int .u8 0, .int .u8 0, .agg #[.int .u8 0, .int .u8 0, .int .u8 0, .int .u8 0], .int .u8 0, .int .u8 0]
theorem laid_met (os : Os) : laidMet Tryz.prog Rows.fnPXQuickRow.laid ((laidWorld os).forCall (fun _ _ => 0) ⟨#[], wArgs, []⟩).memory :=
  laidMet_of_run' 8 (by kernel_rfl) (by kernel_rfl)
theorem reads (os : Os) {H : Type} (enc : TypeId × Value → H) : ∃ places, DataW.whole enc Tryz.prog ((laidWorld os).forCall (fun _ _ => 0) ⟨#[], wArgs, []⟩).memory Tryz.f3.params.toList Rows.fnPXQuickSpec.vars false wArgs.toList 8 =
    some ([.lit (.string []), .lit (.int .u8 0), .lit (.int .u8 0), .lit (.int .u8 0), .agg [.lit (.int .u8 0), .lit (.int .u8 0), .lit (.int .u8 0), .lit (.int .u8 0)], .lit (.int .u8 0), .lit (.int .u8 0)], [], places) :=
  ⟨[], by kernel_rfl⟩

set_option maxRecDepth 100000 in
theorem lifted (h3 : Rule3) (os : Os) (started : os.Started) (H : Type) (enc : TypeId × Value → H) (F : Stop.Interp) :
    ReturnsInHanded {} Tryz.checked os 3 .any ((OpenSpec.ofChange Rows.fnPXQuickSpec).preRow enc Tryz.prog Tryz.f3 Rows.fnPXQuickRow.domain false Rows.fnPXQuickRow.laid) (((OpenSpec.ofChange Rows.fnPXQuickSpec).at F).post enc Tryz.prog Tryz.f3 false true false false) := by
  obtain ⟨places, hx⟩ := reads os enc
  refine returnsInHanded_of_row (C := Tryz.checked) (s := OpenSpec.ofChange Rows.fnPXQuickSpec) own started (by kernel_rfl) Tryz.func3
    (witness_row_at (enc := enc) (C := Tryz.checked) false (laidWorld os) wArgs rfl (by kernel_rfl) (by kernel_rfl) (by kernel_rfl)
      (OpenSpec.preRow_of_cond 8 hx (by kernel_rfl) (fun k hk => by cases hk) (by kernel_rfl) (laid_met os))) ?_
  intro W base args ds gs before hval hW _ _ _ hL _ _
  exact contract h3 H enc W base args ds gs before hval hW
end Go.Proofs.YtnpkihobbcglcaaGreatDoor
