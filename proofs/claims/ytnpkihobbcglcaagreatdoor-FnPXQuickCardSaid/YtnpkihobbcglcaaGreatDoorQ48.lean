/- The frame written out again; the conditions' heads. -/
import Derived.Test.YtnpkihobbcglcaaGreatDoorQ47
set_option linter.unusedSimpArgs false
set_option linter.unusedVariables false

/- E7: The frame written out again; the conditions' heads. -/
namespace Go.Proofs.YtnpkihobbcglcaaGreatDoor
open Go Go.RowKit

theorem wp_frame {id : Nat} {Q : Exit → Act → World → Prop} {l : List Oper} {t : Array Value} {w : World} (hs : t.size = 207)
    (K : ∀ (ops : Array Oper) (Q' : Exit → Act → World → Prop) (a : Act) (f : Nat → Value), (∀ g : Nat, (ops[g]?).bind (fun o : Oper => o.dst) = (l[g]?).bind (fun o : Oper => o.dst)) → (∀ a w, Q .normal a w → Q' .normal a w) → Slots a f → (∀ i, f i = t.getD i undef) → wpList Tryz.prog ops Q' l a w) :
    (Code.region id l.toArray false).wp Tryz.prog Q ⟨t, []⟩ w :=
  wp_region_lit (K l.toArray Q ⟨t, []⟩ (fun i => t.getD i undef) (fun g => by simp) (fun _ _ h => h) ⟨hs, fun _ => rfl, rfl⟩ (fun _ => rfl))
theorem run_lssOp {a : Act} {f : Nat → Value} (h : Slots a f) {o : Oper} {t u : Nat} {x y : Int} (ho : o.op = .binOp .lss 3 (.tmp t) (.tmp u) 3) (hx : f t = .int .i64 x) (hy : f u = .int .i64 y) (w : World) : (execOp a.eval o).run Tryz.prog w = .ok (.value (.bool (decide (x < y)))) w := by
  have hv := h.val t
  have hz := h.val u
  unfold execOp
  simp only [ho, Act.eval, hv, hx, hz, hy]
  simp [go_sem]
theorem headC {ops : Array Oper} {Q : Exit → Act → World → Prop} {rest : List Oper} {o1 o2 o3 o4 o5 : Oper} {a : Act} {f : Nat → Value} {w : World} {s t u y n : Nat} (h : Slots a f) (hy : f t = .int .i64 y) (hn : f u = .int .i64 n) (hb : y ≤ 50) (hnb : n ≤ 50)
    (p1 : o1.op = .move (.tmp t) ∧ o1.guard = none ∧ o1.dst = some s)
    (p2 : o2.op = .binOp .add 3 (.tmp s) (.const (.int .i64 6)) 3 ∧ o2.guard = none ∧ o2.dst = some (s + 1))
    (p3 : o3.op = .move (.tmp u) ∧ o3.guard = none ∧ o3.dst = some (s + 2))
    (p4 : o4.op = .binOp .lss 3 (.tmp (s + 1)) (.tmp (s + 2)) 3 ∧ o4.guard = none ∧ o4.dst = some (s + 3))
    (p5 : o5.op = .move (.tmp (s + 3)) ∧ o5.guard = none ∧ o5.dst = some (s + 4))
    (ht : t < s) (hu : u < s) (hs : s + 4 < 207)
    (K : ∀ (a' : Act) (f' : Nat → Value) (β' : Bool), Slots a' f' → (∀ i, i < s ∨ s + 4 < i → f' i = f i) → f' (s + 4) = .bool β' → (β' = true → y + 6 < n) → wpList Tryz.prog ops Q rest a' w) :
    wpList Tryz.prog ops Q (o1 :: o2 :: o3 :: o4 :: o5 :: rest) a w := by
  have r1 := run_move h p1.1 w
  rw [hy] at r1
  refine step_run (want_none p1.2.1) r1 ?_
  rw [p1.2.2]
  have st1 := h.put s (.int .i64 y) (by omega)
  refine step_run (want_none p2.2.1) (run_addOp st1 p2.1 (x := y) (by simp (disch := omega) only [upd_same, upd_ne]) (by omega) (by omega) (by omega) w) ?_
  rw [p2.2.2]
  have st2 := st1.put (s + 1) (.int .i64 ((y : Int) + 6)) (by omega)
  have r3 := run_move st2 p3.1 w
  simp (disch := omega) only [upd_ne] at r3
  rw [hn] at r3
  refine step_run (want_none p3.2.1) r3 ?_
  rw [p3.2.2]
  have st3 := st2.put (s + 2) (.int .i64 n) (by omega)
  refine step_run (want_none p4.2.1) (run_lssOp st3 p4.1 (x := (y : Int) + 6) (y := n) (by simp (disch := omega) only [upd_same, upd_ne]) (by simp (disch := omega) only [upd_same, upd_ne]) w) ?_
  rw [p4.2.2]
  have st4 := st3.put (s + 3) (.bool (decide ((y : Int) + 6 < n))) (by omega)
  have r5 := run_move st4 p5.1 w
  rw [upd_same] at r5
  refine step_run (want_none p5.2.1) r5 ?_
  rw [p5.2.2]
  have st5 := st4.put (s + 4) (.bool (decide ((y : Int) + 6 < n))) (by omega)
  exact K _ _ (decide ((y : Int) + 6 < n)) st5 (fun i hi => by simp (disch := omega) only [upd_ne]) (by simp (disch := omega) only [upd_same]) (fun e => by have := of_decide_eq_true e; omega)

set_option maxRecDepth 100000 in
theorem act_lit {a : Act} {f : Nat → Value} (h : Slots a f) : a = ⟨#[f 0, f 1, f 2, f 3, f 4, f 5, f 6, f 7, f 8, f 9, f 10, f 11, f 12, f 13, f 14, f 15, f 16, f 17, f 18, f 19, f 20, f 21, f 22, f 23, f 24, f 25, f 26, f 27, f 28, f 29, f 30, f 31, f 32, f 33, f 34, f 35, f 36, f 37, f 38, f 39, f 40, f 41, f 42, f 43, f 44, f 45, f 46, f 47, f 48, f 49, f 50, f 51, f 52, f 53, f 54, f 55, f 56, f 57, f 58, f 59, f 60, f 61, f 62, f 63, f 64, f 65, f 66, f 67, f 68, f 69, f 70, f 71, f 72, f 73, f 74, f 75, f 76, f 77, f 78, f 79, f 80, f 81, f 82, f 83, f 84, f 85, f 86, f 87, f 88, f 89, f 90, f 91, f 92, f 93, f 94, f 95, f 96, f 97, f 98, f 99, f 100, f 101, f 102, f 103, f 104, f 105, f 106, f 107, f 108, f 109, f 110, f 111, f 112, f 113, f 114, f 115, f 116, f 117, f 118, f 119, f 120, f 121, f 122, f 123, f 124, f 125, f 126, f 127, f 128, f 129, f 130, f 131, f 132, f 133, f 134, f 135, f 136, f 137, f 138, f 139, f 140, f 141, f 142, f 143, f 144, f 145, f 146, f 147, f 148, f 149, f 150, f 151, f 152, f 153, f 154, f 155, f 156, f 157, f 158, f 159, f 160, f 161, f 162, f 163, f 164, f 165, f 166, f 167, f 168, f 169, f 170, f 171, f 172, f 173, f 174, f 175, f 176, f 177, f 178, f 179, f 180, f 181, f 182, f 183, f 184, f 185, f 186, f 187, f 188, f 189, f 190, f 191, f 192, f 193, f 194, f 195, f 196, f 197, f 198, f 199, f 200, f 201, f 202, f 203, f 204, f 205, f 206], []⟩ := by
  have h1 : a.tmps.toList = (List.range 207).map f := by
    apply List.ext_getElem
    · simp [h.size]
    · intro i h1 h2
      have hv := h.val i
      have hi : i < a.tmps.size := by simpa using h1
      rw [Array.getD_eq_getD_getElem?, Array.getElem?_eq_getElem hi] at hv
      simpa using hv
  obtain ⟨t, d⟩ := a
  have h2 : t = ((List.range 207).map f).toArray := by
    apply Array.toList_inj.1
    exact h1
  have h3 := h.dfr
  simp only at h3
  rw [h2, h3]
  rfl

set_option maxRecDepth 100000 in
set_option maxHeartbeats 4000000 in
theorem act_mixH {a : Act} {g : Nat → Value} {v0 v1 v2 v3 v4 v5 v6 v7 v8 v9 v10 v11 v12 v13 v14 v15 v16 v17 v18 v19 v20 v21 v22 v23 v24 v25 v26 v27 v28 v29 v30 v31 v32 v33 v34 v35 v36 v37 v38 v39 v40 v41 v42 v43 v44 v45 v46 v47 v48 v49 v50 v51 v52 v53 v54 v55 v56 v57 v58 v59 v60 v61 v62 v63 v64 v65 v66 v67 v68 v69 v70 v71 v72 v73 v74 v75 v76 v77 v78 v79 v80 v81 v82 v83 v84 v85 v86 v87 v88 v89 v90 v91 v92 v93 v94 v95 v96 v97 v98 v99 v100 v101 v102 v103 v104 v105 v106 v107 v108 v109 v110 v111 v112 v113 v114 v115 v116 v117 v118 v119 v120 v121 v122 v123 v124 v125 v126 v127 v128 v129 v130 v131 v132 v133 v134 v135 v136 v137 v138 v139 v140 v141 v142 v143 v144 v145 v146 v147 v148 v149 v150 v151 v152 v153 v154 v155 v156 v157 v158 v159 v160 v161 v162 v163 v164 v165 v166 v167 v168 v169 v170 v171 v172 v173 v174 v175 v176 v177 v178 v179 v180 v181 v182 v183 v184 v185 v186 v187 v188 v189 v190 v191 v192 v193 v194 v195 v196 v197 v198 v199 v200 v201 v202 v203 v204 v205 v206 : Value} (h : Slots a g) (ag : ∀ i, i < 30 ∨ 103 < i → g i = (#[v0, v1, v2, v3, v4, v5, v6, v7, v8, v9, v10, v11, v12, v13, v14, v15, v16, v17, v18, v19, v20, v21, v22, v23, v24, v25, v26, v27, v28, v29, v30, v31, v32, v33, v34, v35, v36, v37, v38, v39, v40, v41, v42, v43, v44, v45, v46, v47, v48, v49, v50, v51, v52, v53, v54, v55, v56, v57, v58, v59, v60, v61, v62, v63, v64, v65, v66, v67, v68, v69, v70, v71, v72, v73, v74, v75, v76, v77, v78, v79, v80, v81, v82, v83, v84, v85, v86, v87, v88, v89, v90, v91, v92, v93, v94, v95, v96, v97, v98, v99, v100, v101, v102, v103, v104, v105, v106, v107, v108, v109, v110, v111, v112, v113, v114, v115, v116, v117, v118, v119, v120, v121, v122, v123, v124, v125, v126, v127, v128, v129, v130, v131, v132, v133, v134, v135, v136, v137, v138, v139, v140, v141, v142, v143, v144, v145, v146, v147, v148, v149, v150, v151, v152, v153, v154, v155, v156, v157, v158, v159, v160, v161, v162, v163, v164, v165, v166, v167, v168, v169, v170, v171, v172, v173, v174, v175, v176, v177, v178, v179, v180, v181, v182, v183, v184, v185, v186, v187, v188, v189, v190, v191, v192, v193, v194, v195, v196, v197, v198, v199, v200, v201, v202, v203, v204, v205, v206] : Array Value).getD i undef) : a = ⟨#[v0, v1, v2, v3, v4, v5, v6, v7, v8, v9, v10, v11, v12, v13, v14, v15, v16, v17, v18, v19, v20, v21, v22, v23, v24, v25, v26, v27, v28, v29, g 30, g 31, g 32, g 33, g 34, g 35, g 36, g 37, g 38, g 39, g 40, g 41, g 42, g 43, g 44, g 45, g 46, g 47, g 48, g 49, g 50, g 51, g 52, g 53, g 54, g 55, g 56, g 57, g 58, g 59, g 60, g 61, g 62, g 63, g 64, g 65, g 66, g 67, g 68, g 69, g 70, g 71, g 72, g 73, g 74, g 75, g 76, g 77, g 78, g 79, g 80, g 81, g 82, g 83, g 84, g 85, g 86, g 87, g 88, g 89, g 90, g 91, g 92, g 93, g 94, g 95, g 96, g 97, g 98, g 99, g 100, g 101, g 102, g 103, v104, v105, v106, v107, v108, v109, v110, v111, v112, v113, v114, v115, v116, v117, v118, v119, v120, v121, v122, v123, v124, v125, v126, v127, v128, v129, v130, v131, v132, v133, v134, v135, v136, v137, v138, v139, v140, v141, v142, v143, v144, v145, v146, v147, v148, v149, v150, v151, v152, v153, v154, v155, v156, v157, v158, v159, v160, v161, v162, v163, v164, v165, v166, v167, v168, v169, v170, v171, v172, v173, v174, v175, v176, v177, v178, v179, v180, v181, v182, v183, v184, v185, v186, v187, v188, v189, v190, v191, v192, v193, v194, v195, v196, v197, v198, v199, v200, v201, v202, v203, v204, v205, v206], []⟩ := by
  have e0 : g 0 = v0 := ag 0 (by omega)
  have e1 : g 1 = v1 := ag 1 (by omega)
  have e2 : g 2 = v2 := ag 2 (by omega)
  have e3 : g 3 = v3 := ag 3 (by omega)
  have e4 : g 4 = v4 := ag 4 (by omega)
  have e5 : g 5 = v5 := ag 5 (by omega)
  have e6 : g 6 = v6 := ag 6 (by omega)
  have e7 : g 7 = v7 := ag 7 (by omega)
  have e8 : g 8 = v8 := ag 8 (by omega)
  have e9 : g 9 = v9 := ag 9 (by omega)
  have e10 : g 10 = v10 := ag 10 (by omega)
  have e11 : g 11 = v11 := ag 11 (by omega)
  have e12 : g 12 = v12 := ag 12 (by omega)
  have e13 : g 13 = v13 := ag 13 (by omega)
  have e14 : g 14 = v14 := ag 14 (by omega)
  have e15 : g 15 = v15 := ag 15 (by omega)
  have e16 : g 16 = v16 := ag 16 (by omega)
  have e17 : g 17 = v17 := ag 17 (by omega)
  have e18 : g 18 = v18 := ag 18 (by omega)
  have e19 : g 19 = v19 := ag 19 (by omega)
  have e20 : g 20 = v20 := ag 20 (by omega)
  have e21 : g 21 = v21 := ag 21 (by omega)
  have e22 : g 22 = v22 := ag 22 (by omega)
  have e23 : g 23 = v23 := ag 23 (by omega)
  have e24 : g 24 = v24 := ag 24 (by omega)
  have e25 : g 25 = v25 := ag 25 (by omega)
  have e26 : g 26 = v26 := ag 26 (by omega)
  have e27 : g 27 = v27 := ag 27 (by omega)
  have e28 : g 28 = v28 := ag 28 (by omega)
  have e29 : g 29 = v29 := ag 29 (by omega)
  have e104 : g 104 = v104 := ag 104 (by omega)
  have e105 : g 105 = v105 := ag 105 (by omega)
  have e106 : g 106 = v106 := ag 106 (by omega)
  have e107 : g 107 = v107 := ag 107 (by omega)
  have e108 : g 108 = v108 := ag 108 (by omega)
  have e109 : g 109 = v109 := ag 109 (by omega)
  have e110 : g 110 = v110 := ag 110 (by omega)
  have e111 : g 111 = v111 := ag 111 (by omega)
  have e112 : g 112 = v112 := ag 112 (by omega)
  have e113 : g 113 = v113 := ag 113 (by omega)
  have e114 : g 114 = v114 := ag 114 (by omega)
  have e115 : g 115 = v115 := ag 115 (by omega)
  have e116 : g 116 = v116 := ag 116 (by omega)
  have e117 : g 117 = v117 := ag 117 (by omega)
  have e118 : g 118 = v118 := ag 118 (by omega)
  have e119 : g 119 = v119 := ag 119 (by omega)
  have e120 : g 120 = v120 := ag 120 (by omega)
  have e121 : g 121 = v121 := ag 121 (by omega)
  have e122 : g 122 = v122 := ag 122 (by omega)
  have e123 : g 123 = v123 := ag 123 (by omega)
  have e124 : g 124 = v124 := ag 124 (by omega)
  have e125 : g 125 = v125 := ag 125 (by omega)
  have e126 : g 126 = v126 := ag 126 (by omega)
  have e127 : g 127 = v127 := ag 127 (by omega)
  have e128 : g 128 = v128 := ag 128 (by omega)
  have e129 : g 129 = v129 := ag 129 (by omega)
  have e130 : g 130 = v130 := ag 130 (by omega)
  have e131 : g 131 = v131 := ag 131 (by omega)
  have e132 : g 132 = v132 := ag 132 (by omega)
  have e133 : g 133 = v133 := ag 133 (by omega)
  have e134 : g 134 = v134 := ag 134 (by omega)
  have e135 : g 135 = v135 := ag 135 (by omega)
  have e136 : g 136 = v136 := ag 136 (by omega)
  have e137 : g 137 = v137 := ag 137 (by omega)
  have e138 : g 138 = v138 := ag 138 (by omega)
  have e139 : g 139 = v139 := ag 139 (by omega)
  have e140 : g 140 = v140 := ag 140 (by omega)
  have e141 : g 141 = v141 := ag 141 (by omega)
  have e142 : g 142 = v142 := ag 142 (by omega)
  have e143 : g 143 = v143 := ag 143 (by omega)
  have e144 : g 144 = v144 := ag 144 (by omega)
  have e145 : g 145 = v145 := ag 145 (by omega)
  have e146 : g 146 = v146 := ag 146 (by omega)
  have e147 : g 147 = v147 := ag 147 (by omega)
  have e148 : g 148 = v148 := ag 148 (by omega)
  have e149 : g 149 = v149 := ag 149 (by omega)
  have e150 : g 150 = v150 := ag 150 (by omega)
  have e151 : g 151 = v151 := ag 151 (by omega)
  have e152 : g 152 = v152 := ag 152 (by omega)
  have e153 : g 153 = v153 := ag 153 (by omega)
  have e154 : g 154 = v154 := ag 154 (by omega)
  have e155 : g 155 = v155 := ag 155 (by omega)
  have e156 : g 156 = v156 := ag 156 (by omega)
  have e157 : g 157 = v157 := ag 157 (by omega)
  have e158 : g 158 = v158 := ag 158 (by omega)
  have e159 : g 159 = v159 := ag 159 (by omega)
  have e160 : g 160 = v160 := ag 160 (by omega)
  have e161 : g 161 = v161 := ag 161 (by omega)
  have e162 : g 162 = v162 := ag 162 (by omega)
  have e163 : g 163 = v163 := ag 163 (by omega)
  have e164 : g 164 = v164 := ag 164 (by omega)
  have e165 : g 165 = v165 := ag 165 (by omega)
  have e166 : g 166 = v166 := ag 166 (by omega)
  have e167 : g 167 = v167 := ag 167 (by omega)
  have e168 : g 168 = v168 := ag 168 (by omega)
  have e169 : g 169 = v169 := ag 169 (by omega)
  have e170 : g 170 = v170 := ag 170 (by omega)
  have e171 : g 171 = v171 := ag 171 (by omega)
  have e172 : g 172 = v172 := ag 172 (by omega)
  have e173 : g 173 = v173 := ag 173 (by omega)
  have e174 : g 174 = v174 := ag 174 (by omega)
  have e175 : g 175 = v175 := ag 175 (by omega)
  have e176 : g 176 = v176 := ag 176 (by omega)
  have e177 : g 177 = v177 := ag 177 (by omega)
  have e178 : g 178 = v178 := ag 178 (by omega)
  have e179 : g 179 = v179 := ag 179 (by omega)
  have e180 : g 180 = v180 := ag 180 (by omega)
  have e181 : g 181 = v181 := ag 181 (by omega)
  have e182 : g 182 = v182 := ag 182 (by omega)
  have e183 : g 183 = v183 := ag 183 (by omega)
  have e184 : g 184 = v184 := ag 184 (by omega)
  have e185 : g 185 = v185 := ag 185 (by omega)
  have e186 : g 186 = v186 := ag 186 (by omega)
  have e187 : g 187 = v187 := ag 187 (by omega)
  have e188 : g 188 = v188 := ag 188 (by omega)
  have e189 : g 189 = v189 := ag 189 (by omega)
  have e190 : g 190 = v190 := ag 190 (by omega)
  have e191 : g 191 = v191 := ag 191 (by omega)
  have e192 : g 192 = v192 := ag 192 (by omega)
  have e193 : g 193 = v193 := ag 193 (by omega)
  have e194 : g 194 = v194 := ag 194 (by omega)
  have e195 : g 195 = v195 := ag 195 (by omega)
  have e196 : g 196 = v196 := ag 196 (by omega)
  have e197 : g 197 = v197 := ag 197 (by omega)
  have e198 : g 198 = v198 := ag 198 (by omega)
  have e199 : g 199 = v199 := ag 199 (by omega)
  have e200 : g 200 = v200 := ag 200 (by omega)
  have e201 : g 201 = v201 := ag 201 (by omega)
  have e202 : g 202 = v202 := ag 202 (by omega)
  have e203 : g 203 = v203 := ag 203 (by omega)
  have e204 : g 204 = v204 := ag 204 (by omega)
  have e205 : g 205 = v205 := ag 205 (by omega)
  have e206 : g 206 = v206 := ag 206 (by omega)
  rw [act_lit h]
  simp only [e0, e1, e2, e3, e4, e5, e6, e7, e8, e9, e10, e11, e12, e13, e14, e15, e16, e17, e18, e19, e20, e21, e22, e23, e24, e25, e26, e27, e28, e29, e104, e105, e106, e107, e108, e109, e110, e111, e112, e113, e114, e115, e116, e117, e118, e119, e120, e121, e122, e123, e124, e125, e126, e127, e128, e129, e130, e131, e132, e133, e134, e135, e136, e137, e138, e139, e140, e141, e142, e143, e144, e145, e146, e147, e148, e149, e150, e151, e152, e153, e154, e155, e156, e157, e158, e159, e160, e161, e162, e163, e164, e165, e166, e167, e168, e169, e170, e171, e172, e173, e174, e175, e176, e177, e178, e179, e180, e181, e182, e183, e184, e185, e186, e187, e188, e189, e190, e191, e192, e193, e194, e195, e196, e197, e198, e199, e200, e201, e202, e203, e204, e205, e206]

set_option maxRecDepth 100000 in
set_option maxHeartbeats 4000000 in
theorem act_mixV {a : Act} {g : Nat → Value} {v0 v1 v2 v3 v4 v5 v6 v7 v8 v9 v10 v11 v12 v13 v14 v15 v16 v17 v18 v19 v20 v21 v22 v23 v24 v25 v26 v27 v28 v29 v30 v31 v32 v33 v34 v35 v36 v37 v38 v39 v40 v41 v42 v43 v44 v45 v46 v47 v48 v49 v50 v51 v52 v53 v54 v55 v56 v57 v58 v59 v60 v61 v62 v63 v64 v65 v66 v67 v68 v69 v70 v71 v72 v73 v74 v75 v76 v77 v78 v79 v80 v81 v82 v83 v84 v85 v86 v87 v88 v89 v90 v91 v92 v93 v94 v95 v96 v97 v98 v99 v100 v101 v102 v103 v104 v105 v106 v107 v108 v109 v110 v111 v112 v113 v114 v115 v116 v117 v118 v119 v120 v121 v122 v123 v124 v125 v126 v127 v128 v129 v130 v131 v132 v133 v134 v135 v136 v137 v138 v139 v140 v141 v142 v143 v144 v145 v146 v147 v148 v149 v150 v151 v152 v153 v154 v155 v156 v157 v158 v159 v160 v161 v162 v163 v164 v165 v166 v167 v168 v169 v170 v171 v172 v173 v174 v175 v176 v177 v178 v179 v180 v181 v182 v183 v184 v185 v186 v187 v188 v189 v190 v191 v192 v193 v194 v195 v196 v197 v198 v199 v200 v201 v202 v203 v204 v205 v206 : Value} (h : Slots a g) (ag : ∀ i, i < 106 ∨ 202 < i → g i = (#[v0, v1, v2, v3, v4, v5, v6, v7, v8, v9, v10, v11, v12, v13, v14, v15, v16, v17, v18, v19, v20, v21, v22, v23, v24, v25, v26, v27, v28, v29, v30, v31, v32, v33, v34, v35, v36, v37, v38, v39, v40, v41, v42, v43, v44, v45, v46, v47, v48, v49, v50, v51, v52, v53, v54, v55, v56, v57, v58, v59, v60, v61, v62, v63, v64, v65, v66, v67, v68, v69, v70, v71, v72, v73, v74, v75, v76, v77, v78, v79, v80, v81, v82, v83, v84, v85, v86, v87, v88, v89, v90, v91, v92, v93, v94, v95, v96, v97, v98, v99, v100, v101, v102, v103, v104, v105, v106, v107, v108, v109, v110, v111, v112, v113, v114, v115, v116, v117, v118, v119, v120, v121, v122, v123, v124, v125, v126, v127, v128, v129, v130, v131, v132, v133, v134, v135, v136, v137, v138, v139, v140, v141, v142, v143, v144, v145, v146, v147, v148, v149, v150, v151, v152, v153, v154, v155, v156, v157, v158, v159, v160, v161, v162, v163, v164, v165, v166, v167, v168, v169, v170, v171, v172, v173, v174, v175, v176, v177, v178, v179, v180, v181, v182, v183, v184, v185, v186, v187, v188, v189, v190, v191, v192, v193, v194, v195, v196, v197, v198, v199, v200, v201, v202, v203, v204, v205, v206] : Array Value).getD i undef) : a = ⟨#[v0, v1, v2, v3, v4, v5, v6, v7, v8, v9, v10, v11, v12, v13, v14, v15, v16, v17, v18, v19, v20, v21, v22, v23, v24, v25, v26, v27, v28, v29, v30, v31, v32, v33, v34, v35, v36, v37, v38, v39, v40, v41, v42, v43, v44, v45, v46, v47, v48, v49, v50, v51, v52, v53, v54, v55, v56, v57, v58, v59, v60, v61, v62, v63, v64, v65, v66, v67, v68, v69, v70, v71, v72, v73, v74, v75, v76, v77, v78, v79, v80, v81, v82, v83, v84, v85, v86, v87, v88, v89, v90, v91, v92, v93, v94, v95, v96, v97, v98, v99, v100, v101, v102, v103, v104, v105, g 106, g 107, g 108, g 109, g 110, g 111, g 112, g 113, g 114, g 115, g 116, g 117, g 118, g 119, g 120, g 121, g 122, g 123, g 124, g 125, g 126, g 127, g 128, g 129, g 130, g 131, g 132, g 133, g 134, g 135, g 136, g 137, g 138, g 139, g 140, g 141, g 142, g 143, g 144, g 145, g 146, g 147, g 148, g 149, g 150, g 151, g 152, g 153, g 154, g 155, g 156, g 157, g 158, g 159, g 160, g 161, g 162, g 163, g 164, g 165, g 166, g 167, g 168, g 169, g 170, g 171, g 172, g 173, g 174, g 175, g 176, g 177, g 178, g 179, g 180, g 181, g 182, g 183, g 184, g 185, g 186, g 187, g 188, g 189, g 190, g 191, g 192, g 193, g 194, g 195, g 196, g 197, g 198, g 199, g 200, g 201, g 202, v203, v204, v205, v206], []⟩ := by
  have e0 : g 0 = v0 := ag 0 (by omega)
  have e1 : g 1 = v1 := ag 1 (by omega)
  have e2 : g 2 = v2 := ag 2 (by omega)
  have e3 : g 3 = v3 := ag 3 (by omega)
  have e4 : g 4 = v4 := ag 4 (by omega)
  have e5 : g 5 = v5 := ag 5 (by omega)
  have e6 : g 6 = v6 := ag 6 (by omega)
  have e7 : g 7 = v7 := ag 7 (by omega)
  have e8 : g 8 = v8 := ag 8 (by omega)
  have e9 : g 9 = v9 := ag 9 (by omega)
  have e10 : g 10 = v10 := ag 10 (by omega)
  have e11 : g 11 = v11 := ag 11 (by omega)
  have e12 : g 12 = v12 := ag 12 (by omega)
  have e13 : g 13 = v13 := ag 13 (by omega)
  have e14 : g 14 = v14 := ag 14 (by omega)
  have e15 : g 15 = v15 := ag 15 (by omega)
  have e16 : g 16 = v16 := ag 16 (by omega)
  have e17 : g 17 = v17 := ag 17 (by omega)
  have e18 : g 18 = v18 := ag 18 (by omega)
  have e19 : g 19 = v19 := ag 19 (by omega)
  have e20 : g 20 = v20 := ag 20 (by omega)
  have e21 : g 21 = v21 := ag 21 (by omega)
  have e22 : g 22 = v22 := ag 22 (by omega)
  have e23 : g 23 = v23 := ag 23 (by omega)
  have e24 : g 24 = v24 := ag 24 (by omega)
  have e25 : g 25 = v25 := ag 25 (by omega)
  have e26 : g 26 = v26 := ag 26 (by omega)
  have e27 : g 27 = v27 := ag 27 (by omega)
  have e28 : g 28 = v28 := ag 28 (by omega)
  have e29 : g 29 = v29 := ag 29 (by omega)
  have e30 : g 30 = v30 := ag 30 (by omega)
  have e31 : g 31 = v31 := ag 31 (by omega)
  have e32 : g 32 = v32 := ag 32 (by omega)
  have e33 : g 33 = v33 := ag 33 (by omega)
  have e34 : g 34 = v34 := ag 34 (by omega)
  have e35 : g 35 = v35 := ag 35 (by omega)
  have e36 : g 36 = v36 := ag 36 (by omega)
  have e37 : g 37 = v37 := ag 37 (by omega)
  have e38 : g 38 = v38 := ag 38 (by omega)
  have e39 : g 39 = v39 := ag 39 (by omega)
  have e40 : g 40 = v40 := ag 40 (by omega)
  have e41 : g 41 = v41 := ag 41 (by omega)
  have e42 : g 42 = v42 := ag 42 (by omega)
  have e43 : g 43 = v43 := ag 43 (by omega)
  have e44 : g 44 = v44 := ag 44 (by omega)
  have e45 : g 45 = v45 := ag 45 (by omega)
  have e46 : g 46 = v46 := ag 46 (by omega)
  have e47 : g 47 = v47 := ag 47 (by omega)
  have e48 : g 48 = v48 := ag 48 (by omega)
  have e49 : g 49 = v49 := ag 49 (by omega)
  have e50 : g 50 = v50 := ag 50 (by omega)
  have e51 : g 51 = v51 := ag 51 (by omega)
  have e52 : g 52 = v52 := ag 52 (by omega)
  have e53 : g 53 = v53 := ag 53 (by omega)
  have e54 : g 54 = v54 := ag 54 (by omega)
  have e55 : g 55 = v55 := ag 55 (by omega)
  have e56 : g 56 = v56 := ag 56 (by omega)
  have e57 : g 57 = v57 := ag 57 (by omega)
  have e58 : g 58 = v58 := ag 58 (by omega)
  have e59 : g 59 = v59 := ag 59 (by omega)
  have e60 : g 60 = v60 := ag 60 (by omega)
  have e61 : g 61 = v61 := ag 61 (by omega)
  have e62 : g 62 = v62 := ag 62 (by omega)
  have e63 : g 63 = v63 := ag 63 (by omega)
  have e64 : g 64 = v64 := ag 64 (by omega)
  have e65 : g 65 = v65 := ag 65 (by omega)
  have e66 : g 66 = v66 := ag 66 (by omega)
  have e67 : g 67 = v67 := ag 67 (by omega)
  have e68 : g 68 = v68 := ag 68 (by omega)
  have e69 : g 69 = v69 := ag 69 (by omega)
  have e70 : g 70 = v70 := ag 70 (by omega)
  have e71 : g 71 = v71 := ag 71 (by omega)
  have e72 : g 72 = v72 := ag 72 (by omega)
  have e73 : g 73 = v73 := ag 73 (by omega)
  have e74 : g 74 = v74 := ag 74 (by omega)
  have e75 : g 75 = v75 := ag 75 (by omega)
  have e76 : g 76 = v76 := ag 76 (by omega)
  have e77 : g 77 = v77 := ag 77 (by omega)
  have e78 : g 78 = v78 := ag 78 (by omega)
  have e79 : g 79 = v79 := ag 79 (by omega)
  have e80 : g 80 = v80 := ag 80 (by omega)
  have e81 : g 81 = v81 := ag 81 (by omega)
  have e82 : g 82 = v82 := ag 82 (by omega)
  have e83 : g 83 = v83 := ag 83 (by omega)
  have e84 : g 84 = v84 := ag 84 (by omega)
  have e85 : g 85 = v85 := ag 85 (by omega)
  have e86 : g 86 = v86 := ag 86 (by omega)
  have e87 : g 87 = v87 := ag 87 (by omega)
  have e88 : g 88 = v88 := ag 88 (by omega)
  have e89 : g 89 = v89 := ag 89 (by omega)
  have e90 : g 90 = v90 := ag 90 (by omega)
  have e91 : g 91 = v91 := ag 91 (by omega)
  have e92 : g 92 = v92 := ag 92 (by omega)
  have e93 : g 93 = v93 := ag 93 (by omega)
  have e94 : g 94 = v94 := ag 94 (by omega)
  have e95 : g 95 = v95 := ag 95 (by omega)
  have e96 : g 96 = v96 := ag 96 (by omega)
  have e97 : g 97 = v97 := ag 97 (by omega)
  have e98 : g 98 = v98 := ag 98 (by omega)
  have e99 : g 99 = v99 := ag 99 (by omega)
  have e100 : g 100 = v100 := ag 100 (by omega)
  have e101 : g 101 = v101 := ag 101 (by omega)
  have e102 : g 102 = v102 := ag 102 (by omega)
  have e103 : g 103 = v103 := ag 103 (by omega)
  have e104 : g 104 = v104 := ag 104 (by omega)
  have e105 : g 105 = v105 := ag 105 (by omega)
  have e203 : g 203 = v203 := ag 203 (by omega)
  have e204 : g 204 = v204 := ag 204 (by omega)
  have e205 : g 205 = v205 := ag 205 (by omega)
  have e206 : g 206 = v206 := ag 206 (by omega)
  rw [act_lit h]
  simp only [e0, e1, e2, e3, e4, e5, e6, e7, e8, e9, e10, e11, e12, e13, e14, e15, e16, e17, e18, e19, e20, e21, e22, e23, e24, e25, e26, e27, e28, e29, e30, e31, e32, e33, e34, e35, e36, e37, e38, e39, e40, e41, e42, e43, e44, e45, e46, e47, e48, e49, e50, e51, e52, e53, e54, e55, e56, e57, e58, e59, e60, e61, e62, e63, e64, e65, e66, e67, e68, e69, e70, e71, e72, e73, e74, e75, e76, e77, e78, e79, e80, e81, e82, e83, e84, e85, e86, e87, e88, e89, e90, e91, e92, e93, e94, e95, e96, e97, e98, e99, e100, e101, e102, e103, e104, e105, e203, e204, e205, e206]
end Go.Proofs.YtnpkihobbcglcaaGreatDoor
