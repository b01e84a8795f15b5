import Derived.Test.Qxb6615981aDoorQ10
import Derived.BigQuiet
import Derived.Deep.QuietTactic
import Derived.Deep.DrawnRows
namespace Go.Proofs.Qxb6615981aDoor
open Go.RowKit
set_option linter.unusedSimpArgs false
set_option linter.unusedVariables false
attribute [local go_sem ↓] Go.wp_at_zero Go.wp_at_succ

/-- The events with x put in at place k. -/
def insE (es : Nat → ByteArray × ByteArray) (k : Nat) (x : ByteArray × ByteArray) (i : Nat) : ByteArray × ByteArray := if i < k then es i else if i = k then x else es (i - 1)
theorem insE_lt (es : Nat → ByteArray × ByteArray) {k i : Nat} (x : ByteArray × ByteArray) (h : i < k) : insE es k x i = es i := if_pos h
theorem insE_at (es : Nat → ByteArray × ByteArray) (k : Nat) (x : ByteArray × ByteArray) : insE es k x k = x := by unfold insE; rw [if_neg (Nat.lt_irrefl _), if_pos rfl]
theorem insE_gt (es : Nat → ByteArray × ByteArray) {k i : Nat} (x : ByteArray × ByteArray) (h : k ≤ i) : insE es k x (i + 1) = es i := by unfold insE; rw [if_neg (by omega), if_neg (by omega)]; rfl
/-- A load of a row where the operation is wanted, guarded or not. -/
theorem wpList_load_on {P : Program} {ops : Array Oper} {rest : List Oper} {op : Oper} {a : Act} {w : World} {Q : Exit → Act → World → Prop} (hw : Region.wanted op (yielded ops a.tmps) = true) (ty : TypeId) (x : Operand) (ho : op.op = .load ty x)
    (b o : Nat) (hx : a.eval x = .pointer (some ⟨b, o, none⟩)) (cs : List Value) (d : TypeDesc) (hc : w.rangeAt b o cs)
    (hu : P.underlying ty = some d) (hd : d.isRow = true) (hi : (P.info? ty).map (·.size) = some cs.length)
    (h : wpList P ops Q rest (a.put op.dst (.agg cs.toArray)) w) : wpList P ops Q (op :: rest) a w := by
  unfold wpList
  rw [if_pos hw]
  exact .inl (wp_load_mid ty x ho b o hx cs d hc hu hd hi h)
theorem range_row8 {w : World} {g t o n : Nat} {C : Array Value} {cs : List Value} (h : w.heap[g]? = some (.cells C t (0, 0))) (hc : cs = (C.toList.drop o).take n) : w.rangeAt g o cs := by
  subst hc
  intro j v hv
  rw [cell_of_row w g (o + j) _ t (0, 0) h]
  rw [List.getElem?_take] at hv
  split at hv
  · rw [List.getElem?_drop] at hv
    simpa using hv
  · simp at hv
/-- d is what stands behind the first n statements of c. -/
def Behind : Nat → Code → Code → Prop
  | 0, c, d => c = d
  | n + 1, .seq _ b, d => Behind n b d
  | _ + 1, _, _ => False
theorem fnd_leaf (verb term : ByteArray) (rid n : Nat) (es : Nat → ByteArray × ByteArray) (j : Nat) : fnd verb term rid n es (2 + j) = ⟨2, nm (es j), false, 0, ⟨#[]⟩, false, 0⟩ := by rw [Nat.add_comm]; rfl
theorem range_at {w : World} {g o o' : Nat} {cs : List Value} (h : w.rangeAt g o cs) (e : o' = o) : w.rangeAt g o' cs := e ▸ h
theorem fl_form {W : World} {B m : Nat} {v : Value} {xs : List Value} (h : W.ownsRow B 48 15 v m xs) (hm : 0 < m) : ∃ g c, v = .slice (some ⟨g, 0, none⟩) m c := by
  rcases h.2 with ⟨_, e⟩ | ⟨g, cap, cur, e, _⟩
  · omega
  · exact ⟨g, cap, e⟩
theorem leaf_range {W : World} {B n c g rid : Nat} {verb term : ByteArray} {es : Nat → ByteArray × ByteArray} (ho : W.ownsRow B 48 15 (.slice (some ⟨g, 0, none⟩) (2 + n) c) (2 + n) (rowN (fnd verb term rid n es) (2 + n))) (i : Nat) (hi : i < n) : W.rangeAt g ((2 + i) * 15) (nodeV 2 (nm (es i)) false 0 ⟨#[]⟩ false 0).toList := by
  have := own_range ho (2 + i) (by omega)
  rw [fnd_leaf] at this
  exact this
theorem rowN_leaf (verb term : ByteArray) (rid n : Nat) (es : Nat → ByteArray × ByteArray) (j : Nat) {x : ByteArray} (h : nm (es j) = x) : rowN (fnd verb term rid n es) (2 + (j + 1)) = rowN (fnd verb term rid n es) (2 + j) ++ (nodeV 2 x false 0 ⟨#[]⟩ false 0).toList := by
  subst h
  show rowN (fnd verb term rid n es) (2 + j) ++ (fnd verb term rid n es (2 + j)).v.toList = _
  rw [fnd_leaf]
  rfl

set_option maxRecDepth 100000 in
set_option maxHeartbeats 20000000 in
theorem tail38 {C : Code} (hC : Behind 22 (Tryd.f5.body.getD .skip) C) (verb term pkg ev : ByteArray) (rid n k : Nat) (a : Option Addr) (c : Nat) (es : Nat → ByteArray × ByteArray) (g1 c1 g2 c2 gw cw B1 B2 : Nat) (w1 x y : World) (hn : n ≤ 65536) (hk : k ≤ n) (h4 : pkg.size ≤ 65536) (h5 : ev.size ≤ 65536)
    (hF1 : x.ownsRow B1 48 15 (.slice (some ⟨g1, 0, none⟩) (2 + n) c1) (2 + n) (rowN (fnd verb term rid n es) (2 + n)))
    (hF2 : x.ownsRow B2 48 15 (.slice (some ⟨g2, 0, none⟩) (2 + (n + 1)) c2) (2 + (n + 1)) (rowN (fnd verb term rid (n + 1) (insE es k (pkg, ev))) (2 + (n + 1))))
    (hbx : Below w1.heap.size w1 x) (hO : y.ownsRow x.heap.size 48 15 (.slice (some ⟨gw, 0, none⟩) 2 cw) 2 (rowN (fnd verb term rid (n + 1) (insE es k (pkg, ev))) 2)) (hB : Below x.heap.size x y) (v0 v1 v2 v7 v8 v9 v10 v11 v12 v13 v14 v15 v16 v17 v18 v19 v20 v21 v22 v23 v24 v28 v29 v30 v31 v32 v33 v34 v35 v36 v37 v38 v39 v40 v41 v42 v43 v44 v45 v46 v47 v48 v49 v50 v51 v52 v53 v54 v55 v56 v57 v58 v59 v60 v61 v62 v63 v64 v65 v66 v67 v68 v69 v70 v71 v72 v73 v74 v75 v76 v77 v78 v79 v80 v81 v82 v83 v84 v85 v86 v87 v88 v89 v90 v91 v92 v93 v94 v95 v96 v97 v98 v99 v100 v101 v102 v103 v104 v105 v106 v107 v108 v109 v110 v111 v112 v113 v114 v115 v116 v117 v118 v119 v120 v121 v122 v123 v124 v125 v126 v127 v128 v129 v130 v131 v132 v133 v134 v135 v136 v137 v138 v139 v140 v141 v142 v143 v144 v145 v146 v147 v148 v149 v150 v151 v152 v153 v154 v155 v156 v157 v158 v159 v160 v161 v162 v163 v164 v165 v166 v167 v168 v169 v170 v171 v172 v173 v174 v175 v176 v177 v178 v179 v180 v181 v182 v183 v184 v185 v186 v187 v188 v189 v190 v191 v192 v193 v194 v195 v196 v197 v198 v199 v200 v201 v202 v203 v204 v205 v206 v207 v208 v209 v210 v211 v212 v213 v214 v215 v216 v217 v218 v219 v220 v221 v222 v223 v224 v225 v226 v227 v228 v229 v230 v231 v232 v233 v234 v235 v236 v237 v238 v239 v240 v241 v242 v243 v244 v245 v246 v247 v248 v249 v250 v251 v252 v253 v254 v255 v256 v257 v258 v259 v260 v261 v262 v263 v264 : Value) :
    Code.wp Tryd.prog C (bodyPost Tryd.prog Tryd.f5 fun e w' => e = .returned (.bool true) ∧ Below w1.heap.size w1 w') { tmps := #[v0, v1, v2, .slice a n c, .int .i64 k, .string pkg, .string ev, v7, v8, v9, v10, v11, v12, v13, v14, v15, v16, v17, v18, v19, v20, v21, v22, v23, v24, .slice (some ⟨g1, 0, none⟩) (2 + n) c1, .slice (some ⟨g2, 0, none⟩) (2 + (n + 1)) c2, .slice (some ⟨gw, 0, none⟩) 2 cw, v28, v29, v30, v31, v32, v33, v34, v35, v36, v37, v38, v39, v40, v41, v42, v43, v44, v45, v46, v47, v48, v49, v50, v51, v52, v53, v54, v55, v56, v57, v58, v59, v60, v61, v62, v63, v64, v65, v66, v67, v68, v69, v70, v71, v72, v73, v74, v75, v76, v77, v78, v79, v80, v81, v82, v83, v84, v85, v86, v87, v88, v89, v90, v91, v92, v93, v94, v95, v96, v97, v98, v99, v100, v101, v102, v103, v104, v105, v106, v107, v108, v109, v110, v111, v112, v113, v114, v115, v116, v117, v118, v119, v120, v121, v122, v123, v124, v125, v126, v127, v128, v129, v130, v131, v132, v133, v134, v135, v136, v137, v138, v139, v140, v141, v142, v143, v144, v145, v146, v147, v148, v149, v150, v151, v152, v153, v154, v155, v156, v157, v158, v159, v160, v161, v162, v163, v164, v165, v166, v167, v168, v169, v170, v171, v172, v173, v174, v175, v176, v177, v178, v179, v180, v181, v182, v183, v184, v185, v186, v187, v188, v189, v190, v191, v192, v193, v194, v195, v196, v197, v198, v199, v200, v201, v202, v203, v204, v205, v206, v207, v208, v209, v210, v211, v212, v213, v214, v215, v216, v217, v218, v219, v220, v221, v222, v223, v224, v225, v226, v227, v228, v229, v230, v231, v232, v233, v234, v235, v236, v237, v238, v239, v240, v241, v242, v243, v244, v245, v246, v247, v248, v249, v250, v251, v252, v253, v254, v255, v256, v257, v258, v259, v260, v261, v262, v263, v264], defers := [] } y := by
  have HF1 := hid hF1
  have HF2 := hid hF2
  have HBX := hid hbx
  have HO0 := hid hO
  have HB0 := hid hB
  clear hF1 hF2 hbx hO hB
  obtain ⟨i0, hi, hz0, hz1, hz2⟩ := info_parts info48
  have eC : Code.seq _ _ = C := hC
  subst eC
  clear hC
  --CUT1
  go_upto_region 39 with fail
  go_loopw [27, 29] (fun o i wr => ∃ j : Nat, j ≤ k ∧ i = .int .i64 j ∧ wr.ownsRow x.heap.size 48 15 o (2 + j) (rowN (fnd verb term rid (n + 1) (insE es k (pkg, ev))) (2 + j)) ∧ Below x.heap.size x wr) (fun _ i _ => k - (intOf i).toNat)
  case atStart => exact ⟨0, Nat.zero_le _, rfl, HO0.out, HB0.out⟩
  case round =>
    obtain ⟨j, hj, rfl, ho, hbr⟩ := hrel
    obtain ⟨gq, cq, rfl⟩ := fl_form ho (by omega)
    have HO := hid ho
    have HB := hid hbr
    clear HO0 HB0
    by_cases hlt : j < k
    · have hjn : j < n := by omega
      have HG := hid (leaf_range (owns_below8 HF1.out hbr) j hjn)
      have HX := hid (rowN_leaf verb term rid (n + 1) (insE es k (pkg, ev)) j (x := nm (es j)) (by rw [insE_lt es _ hlt]))
      obtain ⟨xs, hxs⟩ : ∃ xs, nm (es j) = xs := ⟨_, rfl⟩
      rw [hxs] at HG HX
      clear ho hbr hxs
      have hin : (2 + (j : Int)).toNat = 2 + j := by omega
      --CUT2
      go_upto_region 40 with (first | (at_builtin; refine wpList_append_lies _ rfl (.tmp 231) (.tmp 237) 43 rfl x.heap.size 48 i0 _ 15 112 Tryd.underlying43 hi hz0 hz1 hz2 rfl (by decide) _ (2 + j) _ rfl (HO.out.alloc _) ⟨wr.heap.size, 0, none⟩ 1 1 (nodeV 2 xs false 0 ⟨#[]⟩ false 0).toList rfl rfl (World.news_of_block (w := wr.alloc (Obj.cells (nodeV 2 xs false 0 ⟨#[]⟩ false 0) 48)) (heap_alloc_new _ _)) (node_one _ _ _ _ _ _ _) (by decide) (by unfold maxLen; omega) (by omega) (by have := HB.out.size; simp; omega) _ rfl ?_; intro gw5 capw5 w5 hown hgrow _ _; have HOw5 := hid hown; have HBw5 := hid ((HB.out.alloc HB.out.size _).grown hgrow (by have := HB.out.size; simp; omega) (fun i e => (HO.out.lt i e).1)); clear hown hgrow) | (refine wpList_load_on (by kernel_rfl) 48 (.tmp 235) rfl g1 _ rfl [.int .i64 2, .string xs, .bool false, .bool false, .int .u8 0, .string ⟨#[]⟩, .bool false, .bool false, .int .i64 0, .int .u8 0, .bool false, .int .i64 0, .string ⟨#[]⟩, .bool false, .int .i64 0] _ (range_at HG.out (by omega)) Tryd.underlying48 rfl sz48 ?_))
      --CUT3
      go_wp2
      go_roundw
      case rel => exact ⟨j + 1, by omega, by go_num, by rw [HX.out]; exact HOw5.out, HBw5.out⟩
      case measure => simp [intOf]; omega
    · obtain rfl : k = j := by omega
      clear ho hbr
      have HX := hid (rowN_leaf verb term rid (n + 1) (insE es k (pkg, ev)) k (x := nm (pkg, ev)) (by rw [insE_at]))
      --CUT4
      go_upto_region 44 with (at_builtin; refine wpList_append_lies _ rfl (.tmp 239) (.tmp 245) 43 rfl x.heap.size 48 i0 _ 15 112 Tryd.underlying43 hi hz0 hz1 hz2 rfl (by decide) _ (2 + k) _ rfl (HO.out.alloc _) ⟨wr.heap.size, 0, none⟩ 1 1 (nodeV 2 (pkg ++ ⟨#[47]⟩ ++ ev) false 0 ⟨#[]⟩ false 0).toList rfl rfl (World.news_of_block (w := wr.alloc (Obj.cells (nodeV 2 (pkg ++ ⟨#[47]⟩ ++ ev) false 0 ⟨#[]⟩ false 0) 48)) (heap_alloc_new _ _)) (node_one _ _ _ _ _ _ _) (by decide) (by unfold maxLen; omega) (by omega) (by have := HB.out.size; simp; omega) _ rfl ?_; intro gw5 capw5 w5 hown hgrow _ _; have HOw5 := hid hown; have HBw5 := hid ((HB.out.alloc HB.out.size _).grown hgrow (by have := HB.out.size; simp; omega) (fun i e => (HO.out.lt i e).1)); clear hown hgrow)
      --CUT5
      go_loopw [27, 30] (fun o i wr => ∃ j : Nat, k ≤ j ∧ j ≤ n ∧ i = .int .i64 j ∧ wr.ownsRow x.heap.size 48 15 o (2 + (j + 1)) (rowN (fnd verb term rid (n + 1) (insE es k (pkg, ev))) (2 + (j + 1))) ∧ Below x.heap.size x wr) (fun _ i _ => n - (intOf i).toNat)
      case atStart => exact ⟨k, Nat.le_refl _, hk, rfl, by rw [HX.out]; exact HOw5.out, HBw5.out⟩
      case round =>
        clear HO HB HOw5 HBw5 HX
        obtain ⟨j, hkj, hj, rfl, ho, hbr⟩ := hrel
        obtain ⟨gq, cq, rfl⟩ := fl_form ho (by omega)
        have HO := hid ho
        have HB := hid hbr
        by_cases hlt : j < n
        · have HG := hid (leaf_range (owns_below8 HF1.out hbr) j hlt)
          have HX := hid (rowN_leaf verb term rid (n + 1) (insE es k (pkg, ev)) (j + 1) (x := nm (es j)) (by rw [insE_gt es _ hkj]))
          obtain ⟨xs, hxs⟩ : ∃ xs, nm (es j) = xs := ⟨_, rfl⟩
          rw [hxs] at HG HX
          clear ho hbr hxs
          have hin : (2 + (j : Int)).toNat = 2 + j := by omega
          go_upto_region 45 with (first | (at_builtin; refine wpList_append_lies _ rfl (.tmp 254) (.tmp 260) 43 rfl x.heap.size 48 i0 _ 15 112 Tryd.underlying43 hi hz0 hz1 hz2 rfl (by decide) _ (2 + (j + 1)) _ rfl (HO.out.alloc _) ⟨wr.heap.size, 0, none⟩ 1 1 (nodeV 2 xs false 0 ⟨#[]⟩ false 0).toList rfl rfl (World.news_of_block (w := wr.alloc (Obj.cells (nodeV 2 xs false 0 ⟨#[]⟩ false 0) 48)) (heap_alloc_new _ _)) (node_one _ _ _ _ _ _ _) (by decide) (by unfold maxLen; omega) (by omega) (by have := HB.out.size; simp; omega) _ rfl ?_; intro gw6 capw6 w6 hown hgrow _ _; have HOw6 := hid hown; have HBw6 := hid ((HB.out.alloc HB.out.size _).grown hgrow (by have := HB.out.size; simp; omega) (fun i e => (HO.out.lt i e).1)); clear hown hgrow) | (refine wpList_load_on (by kernel_rfl) 48 (.tmp 258) rfl g1 _ rfl [.int .i64 2, .string xs, .bool false, .bool false, .int .u8 0, .string ⟨#[]⟩, .bool false, .bool false, .int .i64 0, .int .u8 0, .bool false, .int .i64 0, .string ⟨#[]⟩, .bool false, .int .i64 0] _ (range_at HG.out (by omega)) Tryd.underlying48 rfl sz48 ?_))
          go_wp2
          go_roundw
          case rel => exact ⟨j + 1, by omega, by omega, by go_num, by rw [HX.out]; exact HOw6.out, HBw6.out⟩
          case measure => simp [intOf]; omega
        · obtain rfl : n = j := by omega
          clear ho hbr
          --CUT6
          go_wp2_with (go_at_call 16; refine (same_any g2 c2 gq cq (2 + (n + 1)) B2 x.heap.size (fnd verb term rid (n + 1) (insE es k (pkg, ev))) _ (by omega) (owns_below8 HF2.out HB.out) HO.out).mono ?_; rintro e w7 ⟨rfl, hb7⟩; have HB7 := hid ((HB.out.trans (hb7.mono HB.out.size))); clear hb7)
          go_ret
          exact ⟨rfl, HBX.out.trans (HB7.out.mono HBX.out.size)⟩
end Go.Proofs.Qxb6615981aDoor
