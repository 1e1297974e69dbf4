/- The two long conditions of rule 3: each region gives a bool and turns no other slot than its own. (Printed by gen_e9.py.) -/
import Derived.Test.YtnpkihobbcglcaaGreatDoorQ48
set_option linter.unusedSimpArgs false
set_option linter.unusedVariables false
namespace Go.Proofs.YtnpkihobbcglcaaGreatDoor
open Go Go.RowKit

theorem out_of {i lo hi s e : Nat} (h : i < lo ∨ hi < i) (h1 : lo ≤ s) (h2 : e ≤ hi) : i < s ∨ e < i := by omega
set_option maxRecDepth 100000 in
set_option maxHeartbeats 4000000 in
theorem regionH {id : Nat} {Q : Exit → Act → World → Prop} {w : World} {x n m : Nat} {o1 o2 o3 o4 o5 o6 o7 o8 o9 o10 o11 o12 o13 o14 o15 o16 o17 o18 o19 o20 o21 o22 o23 o24 o25 o26 o27 o28 o29 o30 o31 o32 o33 o34 o35 o36 o37 o38 o39 o40 o41 o42 o43 o44 o45 o46 o47 o48 o49 o50 o51 o52 o53 o54 o55 o56 o57 o58 o59 o60 o61 o62 o63 o64 o65 o66 o67 o68 o69 o70 o71 o72 o73 o74 : Oper} {v0 v1 v2 v3 v4 v5 v6 v7 v8 v9 v10 v11 v12 v13 v14 v15 v16 v17 v18 v19 v20 v21 v22 v23 v24 v25 v26 v27 v28 v29 v30 v31 v32 v33 v34 v35 v36 v37 v38 v39 v40 v41 v42 v43 v44 v45 v46 v47 v48 v49 v50 v51 v52 v53 v54 v55 v56 v57 v58 v59 v60 v61 v62 v63 v64 v65 v66 v67 v68 v69 v70 v71 v72 v73 v74 v75 v76 v77 v78 v79 v80 v81 v82 v83 v84 v85 v86 v87 v88 v89 v90 v91 v92 v93 v94 v95 v96 v97 v98 v99 v100 v101 v102 v103 v104 v105 v106 v107 v108 v109 v110 v111 v112 v113 v114 v115 v116 v117 v118 v119 v120 v121 v122 v123 v124 v125 v126 v127 v128 v129 v130 v131 v132 v133 v134 v135 v136 v137 v138 v139 v140 v141 v142 v143 v144 v145 v146 v147 v148 v149 v150 v151 v152 v153 v154 v155 v156 v157 v158 v159 v160 v161 v162 v163 v164 v165 v166 v167 v168 v169 v170 v171 v172 v173 v174 v175 v176 v177 v178 v179 v180 v181 v182 v183 v184 v185 v186 v187 v188 v189 v190 v191 v192 v193 v194 v195 v196 v197 v198 v199 v200 v201 v202 v203 v204 v205 v206 : Value} (e9 : v9 = .slice (some ⟨x, 0, none⟩) n n) (e8 : v8 = .int .i64 m) (e5 : v5 = .int .i64 n) (hm : m ≤ 50) (hn : n ≤ 50) (hcell : ∀ i, i < n → ∃ z : Int, w.cell? ⟨x, i, none⟩ = some (.int .i8 z)) (hwh : ∀ A B : Int, -100 ≤ A → A ≤ 100 → Calls Tryz.prog 171 #[.slice (some ⟨x, 0, none⟩) n n, .int .i64 A, .int .i64 B] w fun e w' => ABool e ∧ w = w')
    (spec : (o1.op = .move (.tmp 8) ∧ o1.guard = none ∧ o1.dst = some 30) ∧
      (o2.op = .binOp .add 3 (.tmp 30) (.const (.int .i64 6)) 3 ∧ o2.guard = none ∧ o2.dst = some 31) ∧
      (o3.op = .move (.tmp 5) ∧ o3.guard = none ∧ o3.dst = some 32) ∧
      (o4.op = .binOp .lss 3 (.tmp 31) (.tmp 32) 3 ∧ o4.guard = none ∧ o4.dst = some 33) ∧
      (o5.op = .move (.tmp 33) ∧ o5.guard = none ∧ o5.dst = some 34) ∧
      (o6.op = .move (.tmp 9) ∧ o6.guard = some (4, true) ∧ o6.dst = some 35) ∧
      (o7.op = .move (.tmp 8) ∧ o7.guard = some (4, true) ∧ o7.dst = some 36) ∧
      (o8.op = .indexAddr 124 (.tmp 35) (.tmp 36) ∧ o8.guard = some (4, true) ∧ o8.dst = some 37) ∧
      (o9.op = .load 57 (.tmp 37) ∧ o9.guard = some (4, true) ∧ o9.dst = some 38) ∧
      (o10.op = .binOp .eql 57 (.tmp 38) (.const (.int .i8 1)) 57 ∧ o10.guard = some (4, true) ∧ o10.dst = some 39) ∧
      (o11.op = .pick (.tmp 34) (.tmp 39) (.const (.bool false)) ∧ o11.guard = none ∧ o11.dst = some 40) ∧
      (o12.op = .move (.tmp 40) ∧ o12.guard = none ∧ o12.dst = some 41) ∧
      (o13.op = .move (.tmp 9) ∧ o13.guard = some (11, true) ∧ o13.dst = some 42) ∧
      (o14.op = .move (.tmp 8) ∧ o14.guard = some (11, true) ∧ o14.dst = some 43) ∧
      (o15.op = .binOp .add 3 (.tmp 43) (.const (.int .i64 (1 : Nat))) 3 ∧ o15.guard = some (11, true) ∧ o15.dst = some 44) ∧
      (o16.op = .indexAddr 124 (.tmp 42) (.tmp 44) ∧ o16.guard = some (11, true) ∧ o16.dst = some 45) ∧
      (o17.op = .load 57 (.tmp 45) ∧ o17.guard = some (11, true) ∧ o17.dst = some 46) ∧
      (o18.op = .binOp .eql 57 (.tmp 46) (.const (.int .i8 0)) 57 ∧ o18.guard = some (11, true) ∧ o18.dst = some 47) ∧
      (o19.op = .pick (.tmp 41) (.tmp 47) (.const (.bool false)) ∧ o19.guard = none ∧ o19.dst = some 48) ∧
      (o20.op = .move (.tmp 48) ∧ o20.guard = none ∧ o20.dst = some 49) ∧
      (o21.op = .move (.tmp 9) ∧ o21.guard = some (19, true) ∧ o21.dst = some 50) ∧
      (o22.op = .move (.tmp 8) ∧ o22.guard = some (19, true) ∧ o22.dst = some 51) ∧
      (o23.op = .binOp .add 3 (.tmp 51) (.const (.int .i64 (2 : Nat))) 3 ∧ o23.guard = some (19, true) ∧ o23.dst = some 52) ∧
      (o24.op = .indexAddr 124 (.tmp 50) (.tmp 52) ∧ o24.guard = some (19, true) ∧ o24.dst = some 53) ∧
      (o25.op = .load 57 (.tmp 53) ∧ o25.guard = some (19, true) ∧ o25.dst = some 54) ∧
      (o26.op = .binOp .eql 57 (.tmp 54) (.const (.int .i8 1)) 57 ∧ o26.guard = some (19, true) ∧ o26.dst = some 55) ∧
      (o27.op = .pick (.tmp 49) (.tmp 55) (.const (.bool false)) ∧ o27.guard = none ∧ o27.dst = some 56) ∧
      (o28.op = .move (.tmp 56) ∧ o28.guard = none ∧ o28.dst = some 57) ∧
      (o29.op = .move (.tmp 9) ∧ o29.guard = some (27, true) ∧ o29.dst = some 58) ∧
      (o30.op = .move (.tmp 8) ∧ o30.guard = some (27, true) ∧ o30.dst = some 59) ∧
      (o31.op = .binOp .add 3 (.tmp 59) (.const (.int .i64 (3 : Nat))) 3 ∧ o31.guard = some (27, true) ∧ o31.dst = some 60) ∧
      (o32.op = .indexAddr 124 (.tmp 58) (.tmp 60) ∧ o32.guard = some (27, true) ∧ o32.dst = some 61) ∧
      (o33.op = .load 57 (.tmp 61) ∧ o33.guard = some (27, true) ∧ o33.dst = some 62) ∧
      (o34.op = .binOp .eql 57 (.tmp 62) (.const (.int .i8 1)) 57 ∧ o34.guard = some (27, true) ∧ o34.dst = some 63) ∧
      (o35.op = .pick (.tmp 57) (.tmp 63) (.const (.bool false)) ∧ o35.guard = none ∧ o35.dst = some 64) ∧
      (o36.op = .move (.tmp 64) ∧ o36.guard = none ∧ o36.dst = some 65) ∧
      (o37.op = .move (.tmp 9) ∧ o37.guard = some (35, true) ∧ o37.dst = some 66) ∧
      (o38.op = .move (.tmp 8) ∧ o38.guard = some (35, true) ∧ o38.dst = some 67) ∧
      (o39.op = .binOp .add 3 (.tmp 67) (.const (.int .i64 (4 : Nat))) 3 ∧ o39.guard = some (35, true) ∧ o39.dst = some 68) ∧
      (o40.op = .indexAddr 124 (.tmp 66) (.tmp 68) ∧ o40.guard = some (35, true) ∧ o40.dst = some 69) ∧
      (o41.op = .load 57 (.tmp 69) ∧ o41.guard = some (35, true) ∧ o41.dst = some 70) ∧
      (o42.op = .binOp .eql 57 (.tmp 70) (.const (.int .i8 1)) 57 ∧ o42.guard = some (35, true) ∧ o42.dst = some 71) ∧
      (o43.op = .pick (.tmp 65) (.tmp 71) (.const (.bool false)) ∧ o43.guard = none ∧ o43.dst = some 72) ∧
      (o44.op = .move (.tmp 72) ∧ o44.guard = none ∧ o44.dst = some 73) ∧
      (o45.op = .move (.tmp 9) ∧ o45.guard = some (43, true) ∧ o45.dst = some 74) ∧
      (o46.op = .move (.tmp 8) ∧ o46.guard = some (43, true) ∧ o46.dst = some 75) ∧
      (o47.op = .binOp .add 3 (.tmp 75) (.const (.int .i64 (5 : Nat))) 3 ∧ o47.guard = some (43, true) ∧ o47.dst = some 76) ∧
      (o48.op = .indexAddr 124 (.tmp 74) (.tmp 76) ∧ o48.guard = some (43, true) ∧ o48.dst = some 77) ∧
      (o49.op = .load 57 (.tmp 77) ∧ o49.guard = some (43, true) ∧ o49.dst = some 78) ∧
      (o50.op = .binOp .eql 57 (.tmp 78) (.const (.int .i8 0)) 57 ∧ o50.guard = some (43, true) ∧ o50.dst = some 79) ∧
      (o51.op = .pick (.tmp 73) (.tmp 79) (.const (.bool false)) ∧ o51.guard = none ∧ o51.dst = some 80) ∧
      (o52.op = .move (.tmp 80) ∧ o52.guard = none ∧ o52.dst = some 81) ∧
      (o53.op = .move (.tmp 9) ∧ o53.guard = some (51, true) ∧ o53.dst = some 82) ∧
      (o54.op = .move (.tmp 8) ∧ o54.guard = some (51, true) ∧ o54.dst = some 83) ∧
      (o55.op = .binOp .add 3 (.tmp 83) (.const (.int .i64 (6 : Nat))) 3 ∧ o55.guard = some (51, true) ∧ o55.dst = some 84) ∧
      (o56.op = .indexAddr 124 (.tmp 82) (.tmp 84) ∧ o56.guard = some (51, true) ∧ o56.dst = some 85) ∧
      (o57.op = .load 57 (.tmp 85) ∧ o57.guard = some (51, true) ∧ o57.dst = some 86) ∧
      (o58.op = .binOp .eql 57 (.tmp 86) (.const (.int .i8 1)) 57 ∧ o58.guard = some (51, true) ∧ o58.dst = some 87) ∧
      (o59.op = .pick (.tmp 81) (.tmp 87) (.const (.bool false)) ∧ o59.guard = none ∧ o59.dst = some 88) ∧
      (o60.op = .move (.tmp 88) ∧ o60.guard = none ∧ o60.dst = some 89) ∧
      (o61.op = .move (.tmp 9) ∧ o61.guard = some (59, true) ∧ o61.dst = some 90) ∧
      (o62.op = .move (.tmp 8) ∧ o62.guard = some (59, true) ∧ o62.dst = some 91) ∧
      (o63.op = .binOp .sub 3 (.tmp 91) (.const (.int .i64 4)) 3 ∧ o63.guard = some (59, true) ∧ o63.dst = some 92) ∧
      (o64.op = .move (.tmp 8) ∧ o64.guard = some (59, true) ∧ o64.dst = some 93) ∧
      ((∃ ty : Array TypeId, o65.op = .call { callee := .value (.func 171), args := #[.tmp 90, .tmp 92, .tmp 93], argTypes := ty }) ∧ o65.guard = some (59, true) ∧ o65.dst = some 94) ∧
      (o66.op = .move (.tmp 94) ∧ o66.guard = some (59, true) ∧ o66.dst = some 95) ∧
      (o67.op = .move (.tmp 9) ∧ o67.guard = some (65, false) ∧ o67.dst = some 96) ∧
      (o68.op = .move (.tmp 8) ∧ o68.guard = some (65, false) ∧ o68.dst = some 97) ∧
      (o69.op = .binOp .add 3 (.tmp 97) (.const (.int .i64 7)) 3 ∧ o69.guard = some (65, false) ∧ o69.dst = some 98) ∧
      (o70.op = .move (.tmp 8) ∧ o70.guard = some (65, false) ∧ o70.dst = some 99) ∧
      (o71.op = .binOp .add 3 (.tmp 99) (.const (.int .i64 11)) 3 ∧ o71.guard = some (65, false) ∧ o71.dst = some 100) ∧
      ((∃ ty : Array TypeId, o72.op = .call { callee := .value (.func 171), args := #[.tmp 96, .tmp 98, .tmp 100], argTypes := ty }) ∧ o72.guard = some (65, false) ∧ o72.dst = some 101) ∧
      (o73.op = .pick (.tmp 95) (.const (.bool true)) (.tmp 101) ∧ o73.guard = some (59, true) ∧ o73.dst = some 102) ∧
      (o74.op = .pick (.tmp 89) (.tmp 102) (.const (.bool false)) ∧ o74.guard = none ∧ o74.dst = some 103))
    (K : ∀ (x30 x31 x32 x33 x34 x35 x36 x37 x38 x39 x40 x41 x42 x43 x44 x45 x46 x47 x48 x49 x50 x51 x52 x53 x54 x55 x56 x57 x58 x59 x60 x61 x62 x63 x64 x65 x66 x67 x68 x69 x70 x71 x72 x73 x74 x75 x76 x77 x78 x79 x80 x81 x82 x83 x84 x85 x86 x87 x88 x89 x90 x91 x92 x93 x94 x95 x96 x97 x98 x99 x100 x101 x102 : Value) (β : Bool), Q .normal ⟨#[v0, v1, v2, v3, v4, v5, v6, v7, v8, v9, v10, v11, v12, v13, v14, v15, v16, v17, v18, v19, v20, v21, v22, v23, v24, v25, v26, v27, v28, v29, x30, x31, x32, x33, x34, x35, x36, x37, x38, x39, x40, x41, x42, x43, x44, x45, x46, x47, x48, x49, x50, x51, x52, x53, x54, x55, x56, x57, x58, x59, x60, x61, x62, x63, x64, x65, x66, x67, x68, x69, x70, x71, x72, x73, x74, x75, x76, x77, x78, x79, x80, x81, x82, x83, x84, x85, x86, x87, x88, x89, x90, x91, x92, x93, x94, x95, x96, x97, x98, x99, x100, x101, x102, .bool β, v104, v105, v106, v107, v108, v109, v110, v111, v112, v113, v114, v115, v116, v117, v118, v119, v120, v121, v122, v123, v124, v125, v126, v127, v128, v129, v130, v131, v132, v133, v134, v135, v136, v137, v138, v139, v140, v141, v142, v143, v144, v145, v146, v147, v148, v149, v150, v151, v152, v153, v154, v155, v156, v157, v158, v159, v160, v161, v162, v163, v164, v165, v166, v167, v168, v169, v170, v171, v172, v173, v174, v175, v176, v177, v178, v179, v180, v181, v182, v183, v184, v185, v186, v187, v188, v189, v190, v191, v192, v193, v194, v195, v196, v197, v198, v199, v200, v201, v202, v203, v204, v205, v206], []⟩ w) :
    (Code.region id #[o1, o2, o3, o4, o5, o6, o7, o8, o9, o10, o11, o12, o13, o14, o15, o16, o17, o18, o19, o20, o21, o22, o23, o24, o25, o26, o27, o28, o29, o30, o31, o32, o33, o34, o35, o36, o37, o38, o39, o40, o41, o42, o43, o44, o45, o46, o47, o48, o49, o50, o51, o52, o53, o54, o55, o56, o57, o58, o59, o60, o61, o62, o63, o64, o65, o66, o67, o68, o69, o70, o71, o72, o73, o74] false).wp Tryz.prog Q ⟨#[v0, v1, v2, v3, v4, v5, v6, v7, v8, v9, v10, v11, v12, v13, v14, v15, v16, v17, v18, v19, v20, v21, v22, v23, v24, v25, v26, v27, v28, v29, v30, v31, v32, v33, v34, v35, v36, v37, v38, v39, v40, v41, v42, v43, v44, v45, v46, v47, v48, v49, v50, v51, v52, v53, v54, v55, v56, v57, v58, v59, v60, v61, v62, v63, v64, v65, v66, v67, v68, v69, v70, v71, v72, v73, v74, v75, v76, v77, v78, v79, v80, v81, v82, v83, v84, v85, v86, v87, v88, v89, v90, v91, v92, v93, v94, v95, v96, v97, v98, v99, v100, v101, v102, v103, v104, v105, v106, v107, v108, v109, v110, v111, v112, v113, v114, v115, v116, v117, v118, v119, v120, v121, v122, v123, v124, v125, v126, v127, v128, v129, v130, v131, v132, v133, v134, v135, v136, v137, v138, v139, v140, v141, v142, v143, v144, v145, v146, v147, v148, v149, v150, v151, v152, v153, v154, v155, v156, v157, v158, v159, v160, v161, v162, v163, v164, v165, v166, v167, v168, v169, v170, v171, v172, v173, v174, v175, v176, v177, v178, v179, v180, v181, v182, v183, v184, v185, v186, v187, v188, v189, v190, v191, v192, v193, v194, v195, v196, v197, v198, v199, v200, v201, v202, v203, v204, v205, v206], []⟩ w := by
  obtain ⟨q1, q2, q3, q4, q5, q6, q7, q8, q9, q10, q11, q12, q13, q14, q15, q16, q17, q18, q19, q20, q21, q22, q23, q24, q25, q26, q27, q28, q29, q30, q31, q32, q33, q34, q35, q36, q37, q38, q39, q40, q41, q42, q43, q44, q45, q46, q47, q48, q49, q50, q51, q52, q53, q54, q55, q56, q57, q58, q59, q60, q61, q62, q63, q64, q65, q66, q67, q68, q69, q70, q71, q72, q73, q74⟩ := spec
  obtain ⟨⟨ty65, qq65⟩, qr65⟩ := q65
  have q65 := And.intro qq65 qr65
  obtain ⟨⟨ty72, qq72⟩, qr72⟩ := q72
  have q72 := And.intro qq72 qr72
  refine wp_frame (l := [o1, o2, o3, o4, o5, o6, o7, o8, o9, o10, o11, o12, o13, o14, o15, o16, o17, o18, o19, o20, o21, o22, o23, o24, o25, o26, o27, o28, o29, o30, o31, o32, o33, o34, o35, o36, o37, o38, o39, o40, o41, o42, o43, o44, o45, o46, o47, o48, o49, o50, o51, o52, o53, o54, o55, o56, o57, o58, o59, o60, o61, o62, o63, o64, o65, o66, o67, o68, o69, o70, o71, o72, o73, o74]) rfl ?_
  intro ops Q' a0 f0 hop hQ st0 ag0
  have d0_8 : f0 8 = .int .i64 m := (ag0 8).trans e8
  have d0_5 : f0 5 = .int .i64 n := (ag0 5).trans e5
  refine headC (s := 30) (t := 8) (u := 5) (y := m) (n := n) st0 d0_8 d0_5 hm hn q1 q2 q3 q4 q5 (by decide) (by decide) (by decide) ?_
  rintro a1 f1 β1 st1 ag1 hb1 hd1
  have g9_1 : f1 9 = .slice (some ⟨x, 0, none⟩) n n := (ag1 9 (.inl (by decide))).trans ((ag0 9).trans e9)
  have g8_1 : f1 8 = .int .i64 m := (ag1 8 (.inl (by decide))).trans ((ag0 8).trans e8)
  refine conjH0 (s := 35) (c := 34) (g := 4) (n := n) (x := x) (y := m) (z8 := 0) (jn := 0) (k0 := 1) st1 g9_1 g8_1 hn hcell hd1 (by decide) q6 q7 q8 q9 q10 q11 q12 ((hop 4).trans q5.2.2) (by decide) (by decide) (by decide) hb1 ?_
  rintro a2 f2 β2 st2 ag2 hb2 hi2
  have hd2 : β2 = true → m + 6 < n := fun e => hd1 (hi2 e)
  have g9_2 : f2 9 = .slice (some ⟨x, 0, none⟩) n n := (ag2 9 (.inl (by decide))).trans g9_1
  have g8_2 : f2 8 = .int .i64 m := (ag2 8 (.inl (by decide))).trans g8_1
  refine conjH (s := 42) (c := 41) (g := 11) (n := n) (x := x) (y := m) (z8 := 0) (jn := 1) (k0 := 0) st2 g9_2 g8_2 hn hcell hd2 (by decide) q13 q14 q15 q16 q17 q18 q19 q20 ((hop 11).trans q12.2.2) (by decide) (by decide) (by decide) hb2 ?_
  rintro a3 f3 β3 st3 ag3 hb3 hi3
  have hd3 : β3 = true → m + 6 < n := fun e => hd2 (hi3 e)
  have g9_3 : f3 9 = .slice (some ⟨x, 0, none⟩) n n := (ag3 9 (.inl (by decide))).trans g9_2
  have g8_3 : f3 8 = .int .i64 m := (ag3 8 (.inl (by decide))).trans g8_2
  refine conjH (s := 50) (c := 49) (g := 19) (n := n) (x := x) (y := m) (z8 := 0) (jn := 2) (k0 := 1) st3 g9_3 g8_3 hn hcell hd3 (by decide) q21 q22 q23 q24 q25 q26 q27 q28 ((hop 19).trans q20.2.2) (by decide) (by decide) (by decide) hb3 ?_
  rintro a4 f4 β4 st4 ag4 hb4 hi4
  have hd4 : β4 = true → m + 6 < n := fun e => hd3 (hi4 e)
  have g9_4 : f4 9 = .slice (some ⟨x, 0, none⟩) n n := (ag4 9 (.inl (by decide))).trans g9_3
  have g8_4 : f4 8 = .int .i64 m := (ag4 8 (.inl (by decide))).trans g8_3
  refine conjH (s := 58) (c := 57) (g := 27) (n := n) (x := x) (y := m) (z8 := 0) (jn := 3) (k0 := 1) st4 g9_4 g8_4 hn hcell hd4 (by decide) q29 q30 q31 q32 q33 q34 q35 q36 ((hop 27).trans q28.2.2) (by decide) (by decide) (by decide) hb4 ?_
  rintro a5 f5 β5 st5 ag5 hb5 hi5
  have hd5 : β5 = true → m + 6 < n := fun e => hd4 (hi5 e)
  have g9_5 : f5 9 = .slice (some ⟨x, 0, none⟩) n n := (ag5 9 (.inl (by decide))).trans g9_4
  have g8_5 : f5 8 = .int .i64 m := (ag5 8 (.inl (by decide))).trans g8_4
  refine conjH (s := 66) (c := 65) (g := 35) (n := n) (x := x) (y := m) (z8 := 0) (jn := 4) (k0 := 1) st5 g9_5 g8_5 hn hcell hd5 (by decide) q37 q38 q39 q40 q41 q42 q43 q44 ((hop 35).trans q36.2.2) (by decide) (by decide) (by decide) hb5 ?_
  rintro a6 f6 β6 st6 ag6 hb6 hi6
  have hd6 : β6 = true → m + 6 < n := fun e => hd5 (hi6 e)
  have g9_6 : f6 9 = .slice (some ⟨x, 0, none⟩) n n := (ag6 9 (.inl (by decide))).trans g9_5
  have g8_6 : f6 8 = .int .i64 m := (ag6 8 (.inl (by decide))).trans g8_5
  refine conjH (s := 74) (c := 73) (g := 43) (n := n) (x := x) (y := m) (z8 := 0) (jn := 5) (k0 := 0) st6 g9_6 g8_6 hn hcell hd6 (by decide) q45 q46 q47 q48 q49 q50 q51 q52 ((hop 43).trans q44.2.2) (by decide) (by decide) (by decide) hb6 ?_
  rintro a7 f7 β7 st7 ag7 hb7 hi7
  have hd7 : β7 = true → m + 6 < n := fun e => hd6 (hi7 e)
  have g9_7 : f7 9 = .slice (some ⟨x, 0, none⟩) n n := (ag7 9 (.inl (by decide))).trans g9_6
  have g8_7 : f7 8 = .int .i64 m := (ag7 8 (.inl (by decide))).trans g8_6
  refine conjH (s := 82) (c := 81) (g := 51) (n := n) (x := x) (y := m) (z8 := 0) (jn := 6) (k0 := 1) st7 g9_7 g8_7 hn hcell hd7 (by decide) q53 q54 q55 q56 q57 q58 q59 q60 ((hop 51).trans q52.2.2) (by decide) (by decide) (by decide) hb7 ?_
  rintro a8 f8 β8 st8 ag8 hb8 hi8
  have hd8 : β8 = true → m + 6 < n := fun e => hd7 (hi8 e)
  have g9_8 : f8 9 = .slice (some ⟨x, 0, none⟩) n n := (ag8 9 (.inl (by decide))).trans g9_7
  have g8_8 : f8 8 = .int .i64 m := (ag8 8 (.inl (by decide))).trans g8_7
  refine tailH (s := 90) (c := 89) (g := 59) (g2 := 65) (n := n) (x := x) (y := m) (z8 := 0) (jn := 0) (k0 := 0) st8 g9_8 g8_8 hn hwh hd8 q61 q62 q63 q64 q65 q66 q67 q68 q69 q70 q71 q72 q73 q74 ((hop 59).trans q60.2.2) ((hop 65).trans q66.2.2) (by decide) (by decide) (by decide) hb8 ?_
  rintro a9 f9 β9 st9 ag9 hb9
  refine wpList_nil (hQ _ _ ?_)
  have hfin := act_mixH st9 (fun i hi => (((((((((ag9 i (out_of hi (by decide) (by decide))).trans (ag8 i (out_of hi (by decide) (by decide)))).trans (ag7 i (out_of hi (by decide) (by decide)))).trans (ag6 i (out_of hi (by decide) (by decide)))).trans (ag5 i (out_of hi (by decide) (by decide)))).trans (ag4 i (out_of hi (by decide) (by decide)))).trans (ag3 i (out_of hi (by decide) (by decide)))).trans (ag2 i (out_of hi (by decide) (by decide)))).trans (ag1 i (out_of hi (by decide) (by decide)))).trans (ag0 i))
  rw [hb9] at hfin
  rw [hfin]
  exact K _ _ _ _ _ _ _ _ _ _ _ _ _ _ _ _ _ _ _ _ _ _ _ _ _ _ _ _ _ _ _ _ _ _ _ _ _ _ _ _ _ _ _ _ _ _ _ _ _ _ _ _ _ _ _ _ _ _ _ _ _ _ _ _ _ _ _ _ _ _ _ _ _ β9
set_option maxRecDepth 100000 in
set_option maxHeartbeats 4000000 in
theorem regionV {id : Nat} {Q : Exit → Act → World → Prop} {w : World} {x n m k : Nat} {o1 o2 o3 o4 o5 o6 o7 o8 o9 o10 o11 o12 o13 o14 o15 o16 o17 o18 o19 o20 o21 o22 o23 o24 o25 o26 o27 o28 o29 o30 o31 o32 o33 o34 o35 o36 o37 o38 o39 o40 o41 o42 o43 o44 o45 o46 o47 o48 o49 o50 o51 o52 o53 o54 o55 o56 o57 o58 o59 o60 o61 o62 o63 o64 o65 o66 o67 o68 o69 o70 o71 o72 o73 o74 o75 o76 o77 o78 o79 o80 o81 o82 o83 o84 o85 o86 o87 o88 o89 o90 o91 o92 o93 o94 o95 o96 o97 : Oper} {v0 v1 v2 v3 v4 v5 v6 v7 v8 v9 v10 v11 v12 v13 v14 v15 v16 v17 v18 v19 v20 v21 v22 v23 v24 v25 v26 v27 v28 v29 v30 v31 v32 v33 v34 v35 v36 v37 v38 v39 v40 v41 v42 v43 v44 v45 v46 v47 v48 v49 v50 v51 v52 v53 v54 v55 v56 v57 v58 v59 v60 v61 v62 v63 v64 v65 v66 v67 v68 v69 v70 v71 v72 v73 v74 v75 v76 v77 v78 v79 v80 v81 v82 v83 v84 v85 v86 v87 v88 v89 v90 v91 v92 v93 v94 v95 v96 v97 v98 v99 v100 v101 v102 v103 v104 v105 v106 v107 v108 v109 v110 v111 v112 v113 v114 v115 v116 v117 v118 v119 v120 v121 v122 v123 v124 v125 v126 v127 v128 v129 v130 v131 v132 v133 v134 v135 v136 v137 v138 v139 v140 v141 v142 v143 v144 v145 v146 v147 v148 v149 v150 v151 v152 v153 v154 v155 v156 v157 v158 v159 v160 v161 v162 v163 v164 v165 v166 v167 v168 v169 v170 v171 v172 v173 v174 v175 v176 v177 v178 v179 v180 v181 v182 v183 v184 v185 v186 v187 v188 v189 v190 v191 v192 v193 v194 v195 v196 v197 v198 v199 v200 v201 v202 v203 v204 v205 v206 : Value} (e4 : v4 = .slice (some ⟨x, 0, none⟩) n n) (e7 : v7 = .int .i64 k) (e8 : v8 = .int .i64 m) (e6 : v6 = .int .i64 n) (hk : k ≤ 50) (hn : n ≤ 50) (hm : m < n) (htab : ∀ i, i < n → w.cell? ⟨x, i, none⟩ = some (.slice (some ⟨x + 1 + i, 0, none⟩) n n)) (hcell : ∀ i, i < n → ∃ z : Int, w.cell? ⟨x + 1 + i, m, none⟩ = some (.int .i8 z)) (hwh : ∀ A B : Int, -100 ≤ A → A ≤ 100 → Calls Tryz.prog 172 #[.slice (some ⟨x, 0, none⟩) n n, .int .i64 m, .int .i64 A, .int .i64 B] w fun e w' => ABool e ∧ w = w')
    (spec : (o1.op = .move (.tmp 7) ∧ o1.guard = none ∧ o1.dst = some 106) ∧
      (o2.op = .binOp .add 3 (.tmp 106) (.const (.int .i64 6)) 3 ∧ o2.guard = none ∧ o2.dst = some 107) ∧
      (o3.op = .move (.tmp 6) ∧ o3.guard = none ∧ o3.dst = some 108) ∧
      (o4.op = .binOp .lss 3 (.tmp 107) (.tmp 108) 3 ∧ o4.guard = none ∧ o4.dst = some 109) ∧
      (o5.op = .move (.tmp 109) ∧ o5.guard = none ∧ o5.dst = some 110) ∧
      (o6.op = .move (.tmp 4) ∧ o6.guard = some (4, true) ∧ o6.dst = some 111) ∧
      (o7.op = .move (.tmp 7) ∧ o7.guard = some (4, true) ∧ o7.dst = some 112) ∧
      (o8.op = .indexAddr 121 (.tmp 111) (.tmp 112) ∧ o8.guard = some (4, true) ∧ o8.dst = some 113) ∧
      (o9.op = .load 124 (.tmp 113) ∧ o9.guard = some (4, true) ∧ o9.dst = some 114) ∧
      (o10.op = .move (.tmp 8) ∧ o10.guard = some (4, true) ∧ o10.dst = some 115) ∧
      (o11.op = .indexAddr 124 (.tmp 114) (.tmp 115) ∧ o11.guard = some (4, true) ∧ o11.dst = some 116) ∧
      (o12.op = .load 57 (.tmp 116) ∧ o12.guard = some (4, true) ∧ o12.dst = some 117) ∧
      (o13.op = .binOp .eql 57 (.tmp 117) (.const (.int .i8 1)) 57 ∧ o13.guard = some (4, true) ∧ o13.dst = some 118) ∧
      (o14.op = .pick (.tmp 110) (.tmp 118) (.const (.bool false)) ∧ o14.guard = none ∧ o14.dst = some 119) ∧
      (o15.op = .move (.tmp 119) ∧ o15.guard = none ∧ o15.dst = some 120) ∧
      (o16.op = .move (.tmp 4) ∧ o16.guard = some (14, true) ∧ o16.dst = some 121) ∧
      (o17.op = .move (.tmp 7) ∧ o17.guard = some (14, true) ∧ o17.dst = some 122) ∧
      (o18.op = .binOp .add 3 (.tmp 122) (.const (.int .i64 (1 : Nat))) 3 ∧ o18.guard = some (14, true) ∧ o18.dst = some 123) ∧
      (o19.op = .indexAddr 121 (.tmp 121) (.tmp 123) ∧ o19.guard = some (14, true) ∧ o19.dst = some 124) ∧
      (o20.op = .load 124 (.tmp 124) ∧ o20.guard = some (14, true) ∧ o20.dst = some 125) ∧
      (o21.op = .move (.tmp 8) ∧ o21.guard = some (14, true) ∧ o21.dst = some 126) ∧
      (o22.op = .indexAddr 124 (.tmp 125) (.tmp 126) ∧ o22.guard = some (14, true) ∧ o22.dst = some 127) ∧
      (o23.op = .load 57 (.tmp 127) ∧ o23.guard = some (14, true) ∧ o23.dst = some 128) ∧
      (o24.op = .binOp .eql 57 (.tmp 128) (.const (.int .i8 0)) 57 ∧ o24.guard = some (14, true) ∧ o24.dst = some 129) ∧
      (o25.op = .pick (.tmp 120) (.tmp 129) (.const (.bool false)) ∧ o25.guard = none ∧ o25.dst = some 130) ∧
      (o26.op = .move (.tmp 130) ∧ o26.guard = none ∧ o26.dst = some 131) ∧
      (o27.op = .move (.tmp 4) ∧ o27.guard = some (25, true) ∧ o27.dst = some 132) ∧
      (o28.op = .move (.tmp 7) ∧ o28.guard = some (25, true) ∧ o28.dst = some 133) ∧
      (o29.op = .binOp .add 3 (.tmp 133) (.const (.int .i64 (2 : Nat))) 3 ∧ o29.guard = some (25, true) ∧ o29.dst = some 134) ∧
      (o30.op = .indexAddr 121 (.tmp 132) (.tmp 134) ∧ o30.guard = some (25, true) ∧ o30.dst = some 135) ∧
      (o31.op = .load 124 (.tmp 135) ∧ o31.guard = some (25, true) ∧ o31.dst = some 136) ∧
      (o32.op = .move (.tmp 8) ∧ o32.guard = some (25, true) ∧ o32.dst = some 137) ∧
      (o33.op = .indexAddr 124 (.tmp 136) (.tmp 137) ∧ o33.guard = some (25, true) ∧ o33.dst = some 138) ∧
      (o34.op = .load 57 (.tmp 138) ∧ o34.guard = some (25, true) ∧ o34.dst = some 139) ∧
      (o35.op = .binOp .eql 57 (.tmp 139) (.const (.int .i8 1)) 57 ∧ o35.guard = some (25, true) ∧ o35.dst = some 140) ∧
      (o36.op = .pick (.tmp 131) (.tmp 140) (.const (.bool false)) ∧ o36.guard = none ∧ o36.dst = some 141) ∧
      (o37.op = .move (.tmp 141) ∧ o37.guard = none ∧ o37.dst = some 142) ∧
      (o38.op = .move (.tmp 4) ∧ o38.guard = some (36, true) ∧ o38.dst = some 143) ∧
      (o39.op = .move (.tmp 7) ∧ o39.guard = some (36, true) ∧ o39.dst = some 144) ∧
      (o40.op = .binOp .add 3 (.tmp 144) (.const (.int .i64 (3 : Nat))) 3 ∧ o40.guard = some (36, true) ∧ o40.dst = some 145) ∧
      (o41.op = .indexAddr 121 (.tmp 143) (.tmp 145) ∧ o41.guard = some (36, true) ∧ o41.dst = some 146) ∧
      (o42.op = .load 124 (.tmp 146) ∧ o42.guard = some (36, true) ∧ o42.dst = some 147) ∧
      (o43.op = .move (.tmp 8) ∧ o43.guard = some (36, true) ∧ o43.dst = some 148) ∧
      (o44.op = .indexAddr 124 (.tmp 147) (.tmp 148) ∧ o44.guard = some (36, true) ∧ o44.dst = some 149) ∧
      (o45.op = .load 57 (.tmp 149) ∧ o45.guard = some (36, true) ∧ o45.dst = some 150) ∧
      (o46.op = .binOp .eql 57 (.tmp 150) (.const (.int .i8 1)) 57 ∧ o46.guard = some (36, true) ∧ o46.dst = some 151) ∧
      (o47.op = .pick (.tmp 142) (.tmp 151) (.const (.bool false)) ∧ o47.guard = none ∧ o47.dst = some 152) ∧
      (o48.op = .move (.tmp 152) ∧ o48.guard = none ∧ o48.dst = some 153) ∧
      (o49.op = .move (.tmp 4) ∧ o49.guard = some (47, true) ∧ o49.dst = some 154) ∧
      (o50.op = .move (.tmp 7) ∧ o50.guard = some (47, true) ∧ o50.dst = some 155) ∧
      (o51.op = .binOp .add 3 (.tmp 155) (.const (.int .i64 (4 : Nat))) 3 ∧ o51.guard = some (47, true) ∧ o51.dst = some 156) ∧
      (o52.op = .indexAddr 121 (.tmp 154) (.tmp 156) ∧ o52.guard = some (47, true) ∧ o52.dst = some 157) ∧
      (o53.op = .load 124 (.tmp 157) ∧ o53.guard = some (47, true) ∧ o53.dst = some 158) ∧
      (o54.op = .move (.tmp 8) ∧ o54.guard = some (47, true) ∧ o54.dst = some 159) ∧
      (o55.op = .indexAddr 124 (.tmp 158) (.tmp 159) ∧ o55.guard = some (47, true) ∧ o55.dst = some 160) ∧
      (o56.op = .load 57 (.tmp 160) ∧ o56.guard = some (47, true) ∧ o56.dst = some 161) ∧
      (o57.op = .binOp .eql 57 (.tmp 161) (.const (.int .i8 1)) 57 ∧ o57.guard = some (47, true) ∧ o57.dst = some 162) ∧
      (o58.op = .pick (.tmp 153) (.tmp 162) (.const (.bool false)) ∧ o58.guard = none ∧ o58.dst = some 163) ∧
      (o59.op = .move (.tmp 163) ∧ o59.guard = none ∧ o59.dst = some 164) ∧
      (o60.op = .move (.tmp 4) ∧ o60.guard = some (58, true) ∧ o60.dst = some 165) ∧
      (o61.op = .move (.tmp 7) ∧ o61.guard = some (58, true) ∧ o61.dst = some 166) ∧
      (o62.op = .binOp .add 3 (.tmp 166) (.const (.int .i64 (5 : Nat))) 3 ∧ o62.guard = some (58, true) ∧ o62.dst = some 167) ∧
      (o63.op = .indexAddr 121 (.tmp 165) (.tmp 167) ∧ o63.guard = some (58, true) ∧ o63.dst = some 168) ∧
      (o64.op = .load 124 (.tmp 168) ∧ o64.guard = some (58, true) ∧ o64.dst = some 169) ∧
      (o65.op = .move (.tmp 8) ∧ o65.guard = some (58, true) ∧ o65.dst = some 170) ∧
      (o66.op = .indexAddr 124 (.tmp 169) (.tmp 170) ∧ o66.guard = some (58, true) ∧ o66.dst = some 171) ∧
      (o67.op = .load 57 (.tmp 171) ∧ o67.guard = some (58, true) ∧ o67.dst = some 172) ∧
      (o68.op = .binOp .eql 57 (.tmp 172) (.const (.int .i8 0)) 57 ∧ o68.guard = some (58, true) ∧ o68.dst = some 173) ∧
      (o69.op = .pick (.tmp 164) (.tmp 173) (.const (.bool false)) ∧ o69.guard = none ∧ o69.dst = some 174) ∧
      (o70.op = .move (.tmp 174) ∧ o70.guard = none ∧ o70.dst = some 175) ∧
      (o71.op = .move (.tmp 4) ∧ o71.guard = some (69, true) ∧ o71.dst = some 176) ∧
      (o72.op = .move (.tmp 7) ∧ o72.guard = some (69, true) ∧ o72.dst = some 177) ∧
      (o73.op = .binOp .add 3 (.tmp 177) (.const (.int .i64 (6 : Nat))) 3 ∧ o73.guard = some (69, true) ∧ o73.dst = some 178) ∧
      (o74.op = .indexAddr 121 (.tmp 176) (.tmp 178) ∧ o74.guard = some (69, true) ∧ o74.dst = some 179) ∧
      (o75.op = .load 124 (.tmp 179) ∧ o75.guard = some (69, true) ∧ o75.dst = some 180) ∧
      (o76.op = .move (.tmp 8) ∧ o76.guard = some (69, true) ∧ o76.dst = some 181) ∧
      (o77.op = .indexAddr 124 (.tmp 180) (.tmp 181) ∧ o77.guard = some (69, true) ∧ o77.dst = some 182) ∧
      (o78.op = .load 57 (.tmp 182) ∧ o78.guard = some (69, true) ∧ o78.dst = some 183) ∧
      (o79.op = .binOp .eql 57 (.tmp 183) (.const (.int .i8 1)) 57 ∧ o79.guard = some (69, true) ∧ o79.dst = some 184) ∧
      (o80.op = .pick (.tmp 175) (.tmp 184) (.const (.bool false)) ∧ o80.guard = none ∧ o80.dst = some 185) ∧
      (o81.op = .move (.tmp 185) ∧ o81.guard = none ∧ o81.dst = some 186) ∧
      (o82.op = .move (.tmp 4) ∧ o82.guard = some (80, true) ∧ o82.dst = some 187) ∧
      (o83.op = .move (.tmp 8) ∧ o83.guard = some (80, true) ∧ o83.dst = some 188) ∧
      (o84.op = .move (.tmp 7) ∧ o84.guard = some (80, true) ∧ o84.dst = some 189) ∧
      (o85.op = .binOp .sub 3 (.tmp 189) (.const (.int .i64 4)) 3 ∧ o85.guard = some (80, true) ∧ o85.dst = some 190) ∧
      (o86.op = .move (.tmp 7) ∧ o86.guard = some (80, true) ∧ o86.dst = some 191) ∧
      ((∃ ty : Array TypeId, o87.op = .call { callee := .value (.func 172), args := #[.tmp 187, .tmp 188, .tmp 190, .tmp 191], argTypes := ty }) ∧ o87.guard = some (80, true) ∧ o87.dst = some 192) ∧
      (o88.op = .move (.tmp 192) ∧ o88.guard = some (80, true) ∧ o88.dst = some 193) ∧
      (o89.op = .move (.tmp 4) ∧ o89.guard = some (87, false) ∧ o89.dst = some 194) ∧
      (o90.op = .move (.tmp 8) ∧ o90.guard = some (87, false) ∧ o90.dst = some 195) ∧
      (o91.op = .move (.tmp 7) ∧ o91.guard = some (87, false) ∧ o91.dst = some 196) ∧
      (o92.op = .binOp .add 3 (.tmp 196) (.const (.int .i64 7)) 3 ∧ o92.guard = some (87, false) ∧ o92.dst = some 197) ∧
      (o93.op = .move (.tmp 7) ∧ o93.guard = some (87, false) ∧ o93.dst = some 198) ∧
      (o94.op = .binOp .add 3 (.tmp 198) (.const (.int .i64 11)) 3 ∧ o94.guard = some (87, false) ∧ o94.dst = some 199) ∧
      ((∃ ty : Array TypeId, o95.op = .call { callee := .value (.func 172), args := #[.tmp 194, .tmp 195, .tmp 197, .tmp 199], argTypes := ty }) ∧ o95.guard = some (87, false) ∧ o95.dst = some 200) ∧
      (o96.op = .pick (.tmp 193) (.const (.bool true)) (.tmp 200) ∧ o96.guard = some (80, true) ∧ o96.dst = some 201) ∧
      (o97.op = .pick (.tmp 186) (.tmp 201) (.const (.bool false)) ∧ o97.guard = none ∧ o97.dst = some 202))
    (K : ∀ (x106 x107 x108 x109 x110 x111 x112 x113 x114 x115 x116 x117 x118 x119 x120 x121 x122 x123 x124 x125 x126 x127 x128 x129 x130 x131 x132 x133 x134 x135 x136 x137 x138 x139 x140 x141 x142 x143 x144 x145 x146 x147 x148 x149 x150 x151 x152 x153 x154 x155 x156 x157 x158 x159 x160 x161 x162 x163 x164 x165 x166 x167 x168 x169 x170 x171 x172 x173 x174 x175 x176 x177 x178 x179 x180 x181 x182 x183 x184 x185 x186 x187 x188 x189 x190 x191 x192 x193 x194 x195 x196 x197 x198 x199 x200 x201 : Value) (β : Bool), Q .normal ⟨#[v0, v1, v2, v3, v4, v5, v6, v7, v8, v9, v10, v11, v12, v13, v14, v15, v16, v17, v18, v19, v20, v21, v22, v23, v24, v25, v26, v27, v28, v29, v30, v31, v32, v33, v34, v35, v36, v37, v38, v39, v40, v41, v42, v43, v44, v45, v46, v47, v48, v49, v50, v51, v52, v53, v54, v55, v56, v57, v58, v59, v60, v61, v62, v63, v64, v65, v66, v67, v68, v69, v70, v71, v72, v73, v74, v75, v76, v77, v78, v79, v80, v81, v82, v83, v84, v85, v86, v87, v88, v89, v90, v91, v92, v93, v94, v95, v96, v97, v98, v99, v100, v101, v102, v103, v104, v105, x106, x107, x108, x109, x110, x111, x112, x113, x114, x115, x116, x117, x118, x119, x120, x121, x122, x123, x124, x125, x126, x127, x128, x129, x130, x131, x132, x133, x134, x135, x136, x137, x138, x139, x140, x141, x142, x143, x144, x145, x146, x147, x148, x149, x150, x151, x152, x153, x154, x155, x156, x157, x158, x159, x160, x161, x162, x163, x164, x165, x166, x167, x168, x169, x170, x171, x172, x173, x174, x175, x176, x177, x178, x179, x180, x181, x182, x183, x184, x185, x186, x187, x188, x189, x190, x191, x192, x193, x194, x195, x196, x197, x198, x199, x200, x201, .bool β, v203, v204, v205, v206], []⟩ w) :
    (Code.region id #[o1, o2, o3, o4, o5, o6, o7, o8, o9, o10, o11, o12, o13, o14, o15, o16, o17, o18, o19, o20, o21, o22, o23, o24, o25, o26, o27, o28, o29, o30, o31, o32, o33, o34, o35, o36, o37, o38, o39, o40, o41, o42, o43, o44, o45, o46, o47, o48, o49, o50, o51, o52, o53, o54, o55, o56, o57, o58, o59, o60, o61, o62, o63, o64, o65, o66, o67, o68, o69, o70, o71, o72, o73, o74, o75, o76, o77, o78, o79, o80, o81, o82, o83, o84, o85, o86, o87, o88, o89, o90, o91, o92, o93, o94, o95, o96, o97] false).wp Tryz.prog Q ⟨#[v0, v1, v2, v3, v4, v5, v6, v7, v8, v9, v10, v11, v12, v13, v14, v15, v16, v17, v18, v19, v20, v21, v22, v23, v24, v25, v26, v27, v28, v29, v30, v31, v32, v33, v34, v35, v36, v37, v38, v39, v40, v41, v42, v43, v44, v45, v46, v47, v48, v49, v50, v51, v52, v53, v54, v55, v56, v57, v58, v59, v60, v61, v62, v63, v64, v65, v66, v67, v68, v69, v70, v71, v72, v73, v74, v75, v76, v77, v78, v79, v80, v81, v82, v83, v84, v85, v86, v87, v88, v89, v90, v91, v92, v93, v94, v95, v96, v97, v98, v99, v100, v101, v102, v103, v104, v105, v106, v107, v108, v109, v110, v111, v112, v113, v114, v115, v116, v117, v118, v119, v120, v121, v122, v123, v124, v125, v126, v127, v128, v129, v130, v131, v132, v133, v134, v135, v136, v137, v138, v139, v140, v141, v142, v143, v144, v145, v146, v147, v148, v149, v150, v151, v152, v153, v154, v155, v156, v157, v158, v159, v160, v161, v162, v163, v164, v165, v166, v167, v168, v169, v170, v171, v172, v173, v174, v175, v176, v177, v178, v179, v180, v181, v182, v183, v184, v185, v186, v187, v188, v189, v190, v191, v192, v193, v194, v195, v196, v197, v198, v199, v200, v201, v202, v203, v204, v205, v206], []⟩ w := by
  obtain ⟨q1, q2, q3, q4, q5, q6, q7, q8, q9, q10, q11, q12, q13, q14, q15, q16, q17, q18, q19, q20, q21, q22, q23, q24, q25, q26, q27, q28, q29, q30, q31, q32, q33, q34, q35, q36, q37, q38, q39, q40, q41, q42, q43, q44, q45, q46, q47, q48, q49, q50, q51, q52, q53, q54, q55, q56, q57, q58, q59, q60, q61, q62, q63, q64, q65, q66, q67, q68, q69, q70, q71, q72, q73, q74, q75, q76, q77, q78, q79, q80, q81, q82, q83, q84, q85, q86, q87, q88, q89, q90, q91, q92, q93, q94, q95, q96, q97⟩ := spec
  obtain ⟨⟨ty87, qq87⟩, qr87⟩ := q87
  have q87 := And.intro qq87 qr87
  obtain ⟨⟨ty95, qq95⟩, qr95⟩ := q95
  have q95 := And.intro qq95 qr95
  refine wp_frame (l := [o1, o2, o3, o4, o5, o6, o7, o8, o9, o10, o11, o12, o13, o14, o15, o16, o17, o18, o19, o20, o21, o22, o23, o24, o25, o26, o27, o28, o29, o30, o31, o32, o33, o34, o35, o36, o37, o38, o39, o40, o41, o42, o43, o44, o45, o46, o47, o48, o49, o50, o51, o52, o53, o54, o55, o56, o57, o58, o59, o60, o61, o62, o63, o64, o65, o66, o67, o68, o69, o70, o71, o72, o73, o74, o75, o76, o77, o78, o79, o80, o81, o82, o83, o84, o85, o86, o87, o88, o89, o90, o91, o92, o93, o94, o95, o96, o97]) rfl ?_
  intro ops Q' a0 f0 hop hQ st0 ag0
  have d0_7 : f0 7 = .int .i64 k := (ag0 7).trans e7
  have d0_6 : f0 6 = .int .i64 n := (ag0 6).trans e6
  refine headC (s := 106) (t := 7) (u := 6) (y := k) (n := n) st0 d0_7 d0_6 hk hn q1 q2 q3 q4 q5 (by decide) (by decide) (by decide) ?_
  rintro a1 f1 β1 st1 ag1 hb1 hd1
  have g4_1 : f1 4 = .slice (some ⟨x, 0, none⟩) n n := (ag1 4 (.inl (by decide))).trans ((ag0 4).trans e4)
  have g7_1 : f1 7 = .int .i64 k := (ag1 7 (.inl (by decide))).trans ((ag0 7).trans e7)
  have g8_1 : f1 8 = .int .i64 m := (ag1 8 (.inl (by decide))).trans ((ag0 8).trans e8)
  refine conjV0 (s := 111) (c := 110) (g := 4) (n := n) (x := x) (y := k) (z8 := m) (jn := 0) (k0 := 1) st1 g4_1 g7_1 g8_1 hn hm htab hcell hd1 (by decide) q6 q7 q8 q9 q10 q11 q12 q13 q14 q15 ((hop 4).trans q5.2.2) (by decide) (by decide) (by decide) hb1 ?_
  rintro a2 f2 β2 st2 ag2 hb2 hi2
  have hd2 : β2 = true → k + 6 < n := fun e => hd1 (hi2 e)
  have g4_2 : f2 4 = .slice (some ⟨x, 0, none⟩) n n := (ag2 4 (.inl (by decide))).trans g4_1
  have g7_2 : f2 7 = .int .i64 k := (ag2 7 (.inl (by decide))).trans g7_1
  have g8_2 : f2 8 = .int .i64 m := (ag2 8 (.inl (by decide))).trans g8_1
  refine conjV (s := 121) (c := 120) (g := 14) (n := n) (x := x) (y := k) (z8 := m) (jn := 1) (k0 := 0) st2 g4_2 g7_2 g8_2 hn hm htab hcell hd2 (by decide) q16 q17 q18 q19 q20 q21 q22 q23 q24 q25 q26 ((hop 14).trans q15.2.2) (by decide) (by decide) (by decide) hb2 ?_
  rintro a3 f3 β3 st3 ag3 hb3 hi3
  have hd3 : β3 = true → k + 6 < n := fun e => hd2 (hi3 e)
  have g4_3 : f3 4 = .slice (some ⟨x, 0, none⟩) n n := (ag3 4 (.inl (by decide))).trans g4_2
  have g7_3 : f3 7 = .int .i64 k := (ag3 7 (.inl (by decide))).trans g7_2
  have g8_3 : f3 8 = .int .i64 m := (ag3 8 (.inl (by decide))).trans g8_2
  refine conjV (s := 132) (c := 131) (g := 25) (n := n) (x := x) (y := k) (z8 := m) (jn := 2) (k0 := 1) st3 g4_3 g7_3 g8_3 hn hm htab hcell hd3 (by decide) q27 q28 q29 q30 q31 q32 q33 q34 q35 q36 q37 ((hop 25).trans q26.2.2) (by decide) (by decide) (by decide) hb3 ?_
  rintro a4 f4 β4 st4 ag4 hb4 hi4
  have hd4 : β4 = true → k + 6 < n := fun e => hd3 (hi4 e)
  have g4_4 : f4 4 = .slice (some ⟨x, 0, none⟩) n n := (ag4 4 (.inl (by decide))).trans g4_3
  have g7_4 : f4 7 = .int .i64 k := (ag4 7 (.inl (by decide))).trans g7_3
  have g8_4 : f4 8 = .int .i64 m := (ag4 8 (.inl (by decide))).trans g8_3
  refine conjV (s := 143) (c := 142) (g := 36) (n := n) (x := x) (y := k) (z8 := m) (jn := 3) (k0 := 1) st4 g4_4 g7_4 g8_4 hn hm htab hcell hd4 (by decide) q38 q39 q40 q41 q42 q43 q44 q45 q46 q47 q48 ((hop 36).trans q37.2.2) (by decide) (by decide) (by decide) hb4 ?_
  rintro a5 f5 β5 st5 ag5 hb5 hi5
  have hd5 : β5 = true → k + 6 < n := fun e => hd4 (hi5 e)
  have g4_5 : f5 4 = .slice (some ⟨x, 0, none⟩) n n := (ag5 4 (.inl (by decide))).trans g4_4
  have g7_5 : f5 7 = .int .i64 k := (ag5 7 (.inl (by decide))).trans g7_4
  have g8_5 : f5 8 = .int .i64 m := (ag5 8 (.inl (by decide))).trans g8_4
  refine conjV (s := 154) (c := 153) (g := 47) (n := n) (x := x) (y := k) (z8 := m) (jn := 4) (k0 := 1) st5 g4_5 g7_5 g8_5 hn hm htab hcell hd5 (by decide) q49 q50 q51 q52 q53 q54 q55 q56 q57 q58 q59 ((hop 47).trans q48.2.2) (by decide) (by decide) (by decide) hb5 ?_
  rintro a6 f6 β6 st6 ag6 hb6 hi6
  have hd6 : β6 = true → k + 6 < n := fun e => hd5 (hi6 e)
  have g4_6 : f6 4 = .slice (some ⟨x, 0, none⟩) n n := (ag6 4 (.inl (by decide))).trans g4_5
  have g7_6 : f6 7 = .int .i64 k := (ag6 7 (.inl (by decide))).trans g7_5
  have g8_6 : f6 8 = .int .i64 m := (ag6 8 (.inl (by decide))).trans g8_5
  refine conjV (s := 165) (c := 164) (g := 58) (n := n) (x := x) (y := k) (z8 := m) (jn := 5) (k0 := 0) st6 g4_6 g7_6 g8_6 hn hm htab hcell hd6 (by decide) q60 q61 q62 q63 q64 q65 q66 q67 q68 q69 q70 ((hop 58).trans q59.2.2) (by decide) (by decide) (by decide) hb6 ?_
  rintro a7 f7 β7 st7 ag7 hb7 hi7
  have hd7 : β7 = true → k + 6 < n := fun e => hd6 (hi7 e)
  have g4_7 : f7 4 = .slice (some ⟨x, 0, none⟩) n n := (ag7 4 (.inl (by decide))).trans g4_6
  have g7_7 : f7 7 = .int .i64 k := (ag7 7 (.inl (by decide))).trans g7_6
  have g8_7 : f7 8 = .int .i64 m := (ag7 8 (.inl (by decide))).trans g8_6
  refine conjV (s := 176) (c := 175) (g := 69) (n := n) (x := x) (y := k) (z8 := m) (jn := 6) (k0 := 1) st7 g4_7 g7_7 g8_7 hn hm htab hcell hd7 (by decide) q71 q72 q73 q74 q75 q76 q77 q78 q79 q80 q81 ((hop 69).trans q70.2.2) (by decide) (by decide) (by decide) hb7 ?_
  rintro a8 f8 β8 st8 ag8 hb8 hi8
  have hd8 : β8 = true → k + 6 < n := fun e => hd7 (hi8 e)
  have g4_8 : f8 4 = .slice (some ⟨x, 0, none⟩) n n := (ag8 4 (.inl (by decide))).trans g4_7
  have g7_8 : f8 7 = .int .i64 k := (ag8 7 (.inl (by decide))).trans g7_7
  have g8_8 : f8 8 = .int .i64 m := (ag8 8 (.inl (by decide))).trans g8_7
  refine tailV (s := 187) (c := 186) (g := 80) (g2 := 87) (n := n) (x := x) (y := k) (z8 := m) (jn := 0) (k0 := 0) st8 g4_8 g7_8 g8_8 hn hwh hd8 q82 q83 q84 q85 q86 q87 q88 q89 q90 q91 q92 q93 q94 q95 q96 q97 ((hop 80).trans q81.2.2) ((hop 87).trans q88.2.2) (by decide) (by decide) (by decide) hb8 ?_
  rintro a9 f9 β9 st9 ag9 hb9
  refine wpList_nil (hQ _ _ ?_)
  have hfin := act_mixV st9 (fun i hi => (((((((((ag9 i (out_of hi (by decide) (by decide))).trans (ag8 i (out_of hi (by decide) (by decide)))).trans (ag7 i (out_of hi (by decide) (by decide)))).trans (ag6 i (out_of hi (by decide) (by decide)))).trans (ag5 i (out_of hi (by decide) (by decide)))).trans (ag4 i (out_of hi (by decide) (by decide)))).trans (ag3 i (out_of hi (by decide) (by decide)))).trans (ag2 i (out_of hi (by decide) (by decide)))).trans (ag1 i (out_of hi (by decide) (by decide)))).trans (ag0 i))
  rw [hb9] at hfin
  rw [hfin]
  exact K _ _ _ _ _ _ _ _ _ _ _ _ _ _ _ _ _ _ _ _ _ _ _ _ _ _ _ _ _ _ _ _ _ _ _ _ _ _ _ _ _ _ _ _ _ _ _ _ _ _ _ _ _ _ _ _ _ _ _ _ _ _ _ _ _ _ _ _ _ _ _ _ _ _ _ _ _ _ _ _ _ _ _ _ _ _ _ _ _ _ _ _ _ _ _ _ β9
end Go.Proofs.YtnpkihobbcglcaaGreatDoor
