import Derived.Test.Qxb6615981aDoorQA
import Derived.BigQuiet
import Derived.Deep.QuietTactic
import Derived.Deep.DrawnRows
namespace Go.Proofs.Qxb6615981aDoor
open Go.RowKit
set_option linter.unusedSimpArgs false
set_option linter.unusedVariables false
attribute [local go_sem ↓] Go.wp_at_zero Go.wp_at_succ


set_option maxRecDepth 100000 in
set_option maxHeartbeats 20000000 in
theorem tail33 {C : Code} (hC : Behind 17 (Tryd.f5.body.getD .skip) C) (verb term pkg ev : ByteArray) (rid n k : Nat) (a : Option Addr) (c : Nat) (es : Nat → ByteArray × ByteArray) (g1 c1 g2 c2 B1 B2 : Nat) (w1 x : World) (hn : n ≤ 65536) (hk : k ≤ n) (h4 : pkg.size ≤ 65536) (h5 : ev.size ≤ 65536)
    (hF1 : x.ownsRow B1 48 15 (.slice (some ⟨g1, 0, none⟩) (2 + n) c1) (2 + n) (rowN (fnd verb term rid n es) (2 + n)))
    (hF2 : x.ownsRow B2 48 15 (.slice (some ⟨g2, 0, none⟩) (2 + (n + 1)) c2) (2 + (n + 1)) (rowN (fnd verb term rid (n + 1) (insE es k (pkg, ev))) (2 + (n + 1))))
    (hbx : Below w1.heap.size w1 x) (v0 v1 v2 v7 v8 v9 v10 v11 v12 v13 v14 v15 v16 v17 v18 v19 v20 v21 v22 v23 v24 v27 v28 v29 v30 v31 v32 v33 v34 v35 v36 v37 v38 v39 v40 v41 v42 v43 v44 v45 v46 v47 v48 v49 v50 v51 v52 v53 v54 v55 v56 v57 v58 v59 v60 v61 v62 v63 v64 v65 v66 v67 v68 v69 v70 v71 v72 v73 v74 v75 v76 v77 v78 v79 v80 v81 v82 v83 v84 v85 v86 v87 v88 v89 v90 v91 v92 v93 v94 v95 v96 v97 v98 v99 v100 v101 v102 v103 v104 v105 v106 v107 v108 v109 v110 v111 v112 v113 v114 v115 v116 v117 v118 v119 v120 v121 v122 v123 v124 v125 v126 v127 v128 v129 v130 v131 v132 v133 v134 v135 v136 v137 v138 v139 v140 v141 v142 v143 v144 v145 v146 v147 v148 v149 v150 v151 v152 v153 v154 v155 v156 v157 v158 v159 v160 v161 v162 v163 v164 v165 v166 v167 v168 v169 v170 v171 v172 v173 v174 v175 v176 v177 v178 v179 v180 v181 v182 v183 v184 v185 v186 v187 v188 v189 v190 v191 v192 v193 v194 v195 v196 v197 v198 v199 v200 v201 v202 v203 v204 v205 v206 v207 v208 v209 v210 v211 v212 v213 v214 v215 v216 v217 v218 v219 v220 v221 v222 v223 v224 v225 v226 v227 v228 v229 v230 v231 v232 v233 v234 v235 v236 v237 v238 v239 v240 v241 v242 v243 v244 v245 v246 v247 v248 v249 v250 v251 v252 v253 v254 v255 v256 v257 v258 v259 v260 v261 v262 v263 v264 : Value) :
    Code.wp Tryd.prog C (bodyPost Tryd.prog Tryd.f5 fun e w' => e = .returned (.bool true) ∧ Below w1.heap.size w1 w') { tmps := #[v0, v1, v2, .slice a n c, .int .i64 k, .string pkg, .string ev, v7, v8, v9, v10, v11, v12, v13, v14, v15, v16, v17, v18, v19, v20, v21, v22, v23, v24, .slice (some ⟨g1, 0, none⟩) (2 + n) c1, .slice (some ⟨g2, 0, none⟩) (2 + (n + 1)) c2, v27, v28, v29, v30, v31, v32, v33, v34, v35, v36, v37, v38, v39, v40, v41, v42, v43, v44, v45, v46, v47, v48, v49, v50, v51, v52, v53, v54, v55, v56, v57, v58, v59, v60, v61, v62, v63, v64, v65, v66, v67, v68, v69, v70, v71, v72, v73, v74, v75, v76, v77, v78, v79, v80, v81, v82, v83, v84, v85, v86, v87, v88, v89, v90, v91, v92, v93, v94, v95, v96, v97, v98, v99, v100, v101, v102, v103, v104, v105, v106, v107, v108, v109, v110, v111, v112, v113, v114, v115, v116, v117, v118, v119, v120, v121, v122, v123, v124, v125, v126, v127, v128, v129, v130, v131, v132, v133, v134, v135, v136, v137, v138, v139, v140, v141, v142, v143, v144, v145, v146, v147, v148, v149, v150, v151, v152, v153, v154, v155, v156, v157, v158, v159, v160, v161, v162, v163, v164, v165, v166, v167, v168, v169, v170, v171, v172, v173, v174, v175, v176, v177, v178, v179, v180, v181, v182, v183, v184, v185, v186, v187, v188, v189, v190, v191, v192, v193, v194, v195, v196, v197, v198, v199, v200, v201, v202, v203, v204, v205, v206, v207, v208, v209, v210, v211, v212, v213, v214, v215, v216, v217, v218, v219, v220, v221, v222, v223, v224, v225, v226, v227, v228, v229, v230, v231, v232, v233, v234, v235, v236, v237, v238, v239, v240, v241, v242, v243, v244, v245, v246, v247, v248, v249, v250, v251, v252, v253, v254, v255, v256, v257, v258, v259, v260, v261, v262, v263, v264], defers := [] } x := by
  have HF1 := hid hF1
  have HF2 := hid hF2
  have HBX := hid hbx
  clear hF1 hF2 hbx
  obtain ⟨i0, hi, hz0, hz1, hz2⟩ := info_parts info48
  have eC : Code.seq _ _ = C := hC
  subst eC
  clear hC
  --CUT1
  have hI : decide (0 < 2 + n) = true := decide_eq_true (by omega)
  go_upto_region 34 with (at_make; refine wpList_make_own _ rfl _ _ 43 rfl x.heap.size 48 i0 _ 15 Tryd.underlying43 hi hz0 hz1 _ _ _ (2 + n + 1) rfl rfl (by push_cast; rfl) (by rw [hz2]; omega) (by unfold maxLen; omega) (Nat.le_refl _) ?_; intro y0 hown hgrow; have HOy0 := hid hown; have HBy0 := hid ((Below.refl x.heap.size x).grown hgrow (Nat.le_refl _) (by simp)); clear hown hgrow)
  --CUT2
  have HG1 := hid (own_range (owns_below8 HF1.out HBy0.out) 0 (by omega))
  go_upto_region 35 with (first
    | (at_builtin; refine wpList_append_lies _ rfl (.tmp 209) (.tmp 213) 43 rfl x.heap.size 48 i0 _ 15 112 Tryd.underlying43 hi hz0 hz1 hz2 rfl (by decide) _ 0 _ rfl (HOy0.out.alloc _) ⟨y0.heap.size, 0, none⟩ 1 1 (nodeV 0 verb true 61 term true 1).toList rfl rfl (World.news_of_block (w := y0.alloc (Obj.cells (nodeV 0 verb true 61 term true 1) 48)) (heap_alloc_new _ _)) (node_one _ _ _ _ _ _ _) (by decide) (by unfold maxLen; omega) (by omega) (by have := HBy0.out.size; simp; omega) _ rfl ?_; intro gy1 capy1 y1 hown hgrow _ _; have HOy1 := hid hown; have HBy1 := hid ((HBy0.out.alloc HBy0.out.size _).grown hgrow (by have := HBy0.out.size; simp; omega) (fun i e => (HOy0.out.lt i e).1)); clear hown hgrow)
    | (refine wpList_load_on (by kernel_rfl) 48 (.tmp 211) rfl g1 0 rfl [.int .i64 0, .string verb, .bool false, .bool true, .int .u8 61, .string term, .bool false, .bool false, .int .i64 0, .int .u8 0, .bool true, .int .i64 1, .string ⟨#[]⟩, .bool false, .int .i64 0] _ HG1.out Tryd.underlying48 rfl sz48 ?_))
  --CUT3
  have HG2 := hid (own_range (owns_below8 HF1.out HBy1.out) 1 (by omega))
  go_upto_region 37 with (first
    | (refine wpList_load_on (by kernel_rfl) 48 (.tmp 216) rfl g1 15 rfl [.int .i64 1, .string obsS, .bool false, .bool true, .int .u8 61, .string (dec rid), .bool false, .bool false, .int .i64 0, .int .u8 0, .bool true, .int .i64 n, .string ⟨#[]⟩, .bool false, .int .i64 0] _ HG2.out Tryd.underlying48 rfl sz48 ?_))
  rename_i K hK
  have HKK := hid hK
  clear hK
  have HOz := hid (show World.ownsRow _ x.heap.size 48 15 (.slice (some ⟨gy1, 0, none⟩) 1 capy1) 1 (nodeV 0 verb true 61 term true 1).toList from HOy1.out.alloc (.cells (nodeV 1 obsS true 61 (dec rid) true (n + 1)) 48))
  have HBz := hid (HBy1.out.alloc HBy1.out.size (.cells (nodeV 1 obsS true 61 (dec rid) true (n + 1)) 48))
  have HGz := hid (range_row8 (o := 0) (n := 15) (heap_alloc_new y1 (.cells (nodeV 1 obsS true 61 (dec rid) true (n + 1)) 48)) rfl)
  obtain ⟨z, hz⟩ : ∃ z, y1.alloc (.cells (nodeV 1 obsS true 61 (dec rid) true (n + 1)) 48) = z := ⟨_, rfl⟩
  rw [hz] at HOz HBz HGz
  have hz' : y1.alloc (.cells #[.int .i64 1, .string obsS, .bool false, .bool true, .int .u8 61, .string (dec rid), .bool false, .bool false, .int .i64 0, .int .u8 0, .bool true, .int .i64 (n + 1), .string ⟨#[]⟩, .bool false, .int .i64 0] 48) = z := hz
  rw [hz']
  clear hz hz'
  --CUT4
  go_wp2_with (first
    | (at_builtin; refine wpList_append_lies _ rfl (.tmp 222) (.tmp 224) 43 rfl x.heap.size 48 i0 _ 15 112 Tryd.underlying43 hi hz0 hz1 hz2 rfl (by decide) _ 1 _ rfl (HOz.out.alloc _) ⟨z.heap.size, 0, none⟩ 1 1 (nodeV 1 obsS true 61 (dec rid) true (n + 1)).toList rfl rfl (World.news_of_block (w := z.alloc (Obj.cells (nodeV 1 obsS true 61 (dec rid) true (n + 1)) 48)) (heap_alloc_new _ _)) (node_one _ _ _ _ _ _ _) (by decide) (by unfold maxLen; omega) (by omega) (by have := HBz.out.size; simp; omega) _ rfl ?_; intro gy2 capy2 y2 hown hgrow _ _; have HOy2 := hid hown; have HBy2 := hid ((HBz.out.alloc HBz.out.size _).grown hgrow (by have := HBz.out.size; simp; omega) (fun i e => (HOz.out.lt i e).1)); clear hown hgrow)
    | (refine wpList_load_on (by kernel_rfl) 48 (.tmp 28) rfl y1.heap.size 0 rfl [.int .i64 1, .string obsS, .bool false, .bool true, .int .u8 61, .string (dec rid), .bool false, .bool false, .int .i64 0, .int .u8 0, .bool true, .int .i64 (n + 1), .string ⟨#[]⟩, .bool false, .int .i64 0] _ HGz.out Tryd.underlying48 rfl sz48 ?_))
  --CUT5
  try simp only [Exit.then]
  refine HKK.out _ _ ?_
  exact tail38 rfl verb term pkg ev rid n k a c es g1 c1 g2 c2 _ _ B1 B2 w1 x y2 hn hk h4 h5 HF1.out HF2.out HBX.out HOy2.out HBy2.out _ _ _ _ _ _ _ _ _ _ _ _ _ _ _ _ _ _ _ _ _ _ _ _ _ _ _ _ _ _ _ _ _ _ _ _ _ _ _ _ _ _ _ _ _ _ _ _ _ _ _ _ _ _ _ _ _ _ _ _ _ _ _ _ _ _ _ _ _ _ _ _ _ _ _ _ _ _ _ _ _ _ _ _ _ _ _ _ _ _ _ _ _ _ _ _ _ _ _ _ _ _ _ _ _ _ _ _ _ _ _ _ _ _ _ _ _ _ _ _ _ _ _ _ _ _ _ _ _ _ _ _ _ _ _ _ _ _ _ _ _ _ _ _ _ _ _ _ _ _ _ _ _ _ _ _ _ _ _ _ _ _ _ _ _ _ _ _ _ _ _ _ _ _ _ _ _ _ _ _ _ _ _ _ _ _ _ _ _ _ _ _ _ _ _ _ _ _ _ _ _ _ _ _ _ _ _ _ _ _ _ _ _ _ _ _ _ _ _ _ _ _ _ _ _ _ _ _ _ _ _ _ _ _ _ _ _ _ _ _ _ _ _ _ _ _ _ _ _ _ _ _ _ _ _ _ _ _
end Go.Proofs.Qxb6615981aDoor
