import Derived.Test.Qxb6615875aDoorN13
import Derived.Test.Qxb6615875aDoorOpen
import Derived.Test.Qxb6615875aDoorTie
import Derived.Test.Qxb6615875aDoorCards
import Derived.SevenTiedAt
import Derived.Deep.Strs
namespace Go.Proofs.Qxb6615875aDoor
open Go Go.ChangeShapes Go.WideShapes Go.ChangeAt Go.RowKit
open Go.ChangeMaps (open_string shut_string)
set_option linter.unusedVariables false

theorem cells55 : Tryd.prog.cellsOf 55 = 18 := by kernel_rfl
theorem cells4' : Tryd.prog.cellsOf 4 = 1 := by kernel_rfl
theorem cells3' : Tryd.prog.cellsOf 3 = 1 := by kernel_rfl
/-- Eighteen cells that read as an entry of the list. -/
theorem lp_of {H : Type} {enc : TypeId × Value → H} {W : World} {sp : Nat → Bool} {held : Bool} {fuel : Nat} {cs : List Value} {y : DataW H × List MemPlace} (h : DataW.trod enc Tryd.prog W 0 sp held fuel 55 cs = some y) :
    ∃ x : LP, cs = x.v.toList := by
  obtain ⟨y0, y1, y2, m, _, hl, h0, h1, h2⟩ := Go.Deep.trod_struct3 Tryd.underlying55 h
  rw [cells55] at hl
  have g0 : DataW.trod enc Tryd.prog W 0 sp held m 4 (List.take (Tryd.prog.cellsOf 4) (List.drop 0 cs)) = some y0 := h0
  have g1 : DataW.trod enc Tryd.prog W 0 sp held m 22 (List.take (Tryd.prog.cellsOf 22) (List.drop 1 cs)) = some y1 := h1
  have g2 : DataW.trod enc Tryd.prog W 0 sp held m 3 (List.take (Tryd.prog.cellsOf 3) (List.drop 17 cs)) = some y2 := h2
  rw [cells4'] at g0
  rw [cells22] at g1
  rw [cells3'] at g2
  obtain ⟨b, e0, _⟩ := DataW.trod_bool Tryd.underlying4 g0
  obtain ⟨a, e1⟩ := bytes_of g1
  obtain ⟨n, e2, _, _⟩ := DataW.trod_int Tryd.underlying3 g2
  refine ⟨⟨b, a, n⟩, ?_⟩
  have e : cs = List.take 1 (List.drop 0 cs) ++ (List.take 16 (List.drop 1 cs) ++ List.take 1 (List.drop 17 cs)) := by
    refine List.ext_getElem? fun i => ?_
    by_cases hi : i < 18
    · by_cases h1 : i < 1
      · rw [List.getElem?_append_left (by simp; omega), List.getElem?_take, if_pos h1, List.drop_zero]
      · rw [List.getElem?_append_right (by simp; omega)]
        have hl1 : (List.take 1 (List.drop 0 cs)).length = 1 := by simp; omega
        rw [hl1]
        by_cases h2 : i < 17
        · rw [List.getElem?_append_left (by simp; omega), List.getElem?_take, if_pos (by omega), List.getElem?_drop, show 1 + (i - 1) = i by omega]
        · have hl2 : (List.take 16 (List.drop 1 cs)).length = 16 := by simp; omega
          rw [List.getElem?_append_right (by omega), hl2, List.getElem?_take, if_pos (by omega), List.getElem?_drop, show 17 + (i - 1 - 16) = i by omega]
    · rw [List.getElem?_eq_none (by omega), List.getElem?_eq_none (by simp; omega)]
  rw [e, e0, e1, e2]
  rfl

set_option maxRecDepth 100000 in
theorem open_lp {H : Type} {enc : TypeId × Value → H} {W : World} {base : Nat} {v : Value} {d : DataW H} {p : List MemPlace} (hv : Value.okWide Tryd.prog W .any base 55 v) (h : DataW.Trod enc Tryd.prog W 0 (fun _ => true) true 55 v d p) :
    ∃ x : LP, v = .agg x.v := by
  simp only [Value.okWide, Tryd.underlying55] at hv
  obtain ⟨cs, rfl, _, _⟩ := hv
  obtain ⟨fuel, hf⟩ := h
  obtain ⟨x, hb⟩ := lp_of hf
  refine ⟨x, ?_⟩
  have : cs = x.v := by
    apply Array.toList_inj.1
    simpa [Value.cells] using hb
  rw [this]
theorem open_list {H : Type} {enc : TypeId × Value → H} {W : World} {a : Option Addr} {n c : Nat} {d : DataW H} {p : List MemPlace} (h : DataW.Trod enc Tryd.prog W 0 (fun _ => true) true 53 (.slice a n c) d p) :
    ∃ ls : Nat → LP, IsList W a n c ls := by
  haveI : Inhabited LP := ⟨⟨false, fun _ => 0, 0⟩⟩
  obtain ⟨fuel, hf⟩ := h
  rcases Go.Deep.open_slice Tryd.underlying53 hf with ⟨hcs, _⟩ | ⟨ad, l, cp, m, k, Dd, Pl, hcs, _, hl, hm, hmm, _, hcell⟩
  · simp [Value.cells] at hcs
    obtain ⟨rfl, rfl, rfl⟩ := hcs
    exact ⟨fun _ => default, .inl ⟨rfl, rfl, rfl⟩⟩
  · simp [Value.cells] at hcs
    obtain ⟨rfl, rfl, rfl⟩ := hcs
    simp only [if_true] at hmm
    subst hmm
    rw [cells55] at hcell
    have each : ∀ i, i < n → ∃ y : LP, ∀ r u, y.v.toList[r]? = some u → W.cell? (ad.add (i * 18 + r)) = some u := fun i hi => by
      obtain ⟨cs', h1, h2⟩ := hcell i (by omega)
      obtain ⟨y, rfl⟩ := lp_of h2
      refine ⟨y, fun r u hr => ?_⟩
      have hlt : r < 18 := by have := (List.getElem?_eq_some_iff.1 hr).1; rw [v_len] at this; exact this
      rw [← add_add4, (World.cells?_some h1).2.2 r hlt]
      exact hr
    obtain ⟨ls, hls⟩ := Go.Deep.choose_lt (α := LP) each
    exact ⟨ls, .inr ⟨ad, rfl, hl, hm, fun i r u hi hu => hls i hi r u hu⟩⟩

set_option maxRecDepth 100000 in
theorem fnMatchesPrefixListIsUnion_lifted (os : Os) (started : os.Started) (H : Type) (enc : TypeId × Value → H) :
    ReturnsInHanded {} Tryd.checked os 5 .any (fun w args => (Rows.fnMatchesPrefixListIsUnionSpec.pre enc Tryd.prog Tryd.f5 [] false w args ∧ laidMetH Tryd.prog laid3 w) ∧ sizedMet enc Tryd.prog Tryd.f5 (OpenSpec.ofChange Rows.fnMatchesPrefixListIsUnionSpec) false w args)
      (Rows.fnMatchesPrefixListIsUnionSpec.post enc Tryd.prog Tryd.f5 false true false false) := by
  refine returnsInHanded_of_change_and (C := Tryd.checked) (X := fun w _ => laidMetH Tryd.prog laid3 w) (fun _ _ _ hh h => h.of_heap hh) own started (by kernel_rfl) Tryd.func5
    (ChangeSpec.witness_shaped (enc := enc) (C := Tryd.checked) (os := os) (X := fun w _ => laidMetH Tryd.prog laid3 w) false (zWorld Tryd.prog os) #[.int .u8 0, .string ⟨#[]⟩, .string ⟨#[]⟩, .bool false, .agg (cells16 fun _ => 0), .bool false, .agg (cells16 fun _ => 0), .slice none 0 0, .int .i64 0, .agg (lpV false (fun _ => 0) 0)] 8 rfl (World.shaped_of_RefB (by kernel_rfl) (by kernel_rfl)) (by kernel_rfl) (by kernel_rfl) (by kernel_rfl) (door_met3 os _)) ?_
  intro W base args ds gs before hval0 hW _ hsz0 hL _
  have hval : ∀ (j : Nat) t v, Tryd.f5.params[j]? = some t → args[j]? = some v → Value.okWide Tryd.prog W .any base t v := hval0
  have hW' := hW
  obtain ⟨p, q, hA0, hV, rfl, hfz, hnd⟩ := hW
  have hA : DataW.TrodAll enc Tryd.prog W 0 (fun _ => true) true Tryd.f5.params.toList args.toList ds p := hA0
  rw [Tryd.params5] at hA hval
  obtain ⟨v0, vs0, d0, ds0, p0, q0, hargs, rfl, rfl, h0, r0⟩ := trodAll_cons hA
  obtain ⟨v1, vs1, d1, ds1, p1, q1, rfl, rfl, rfl, h1, r1⟩ := trodAll_cons r0
  obtain ⟨v2, vs2, d2, ds2, p2, q2, rfl, rfl, rfl, h2, r2⟩ := trodAll_cons r1
  obtain ⟨v3, vs3, d3, ds3, p3, q3, rfl, rfl, rfl, h3, r3⟩ := trodAll_cons r2
  obtain ⟨v4, vs4, d4, ds4, p4, q4, rfl, rfl, rfl, h4, r4⟩ := trodAll_cons r3
  obtain ⟨v5, vs5, d5, ds5, p5, q5, rfl, rfl, rfl, h5, r5⟩ := trodAll_cons r4
  obtain ⟨v6, vs6, d6, ds6, p6, q6, rfl, rfl, rfl, h6, r6⟩ := trodAll_cons r5
  obtain ⟨v7, vs7, d7, ds7, p7, q7, rfl, rfl, rfl, h7, r7⟩ := trodAll_cons r6
  obtain ⟨v8, vs8, d8, ds8, p8, q8, rfl, rfl, rfl, h8, r8⟩ := trodAll_cons r7
  obtain ⟨v9, vs9, d9, ds9, p9, q9, rfl, rfl, rfl, h9, r9⟩ := trodAll_cons r8
  obtain ⟨rfl, rfl, rfl⟩ := trodAll_nil r9
  obtain rfl : args = #[v0, v1, v2, v3, v4, v5, v6, v7, v8, v9] := by cases args; simp_all
  obtain ⟨rfl, rfl⟩ := trodVars_none hV
  have k0 := h0
  have lt0 : ∀ x ∈ p0, x.block < W.heap.size := by obtain ⟨m, hm⟩ := k0; exact DataW.trod_lt m _ _ _ hm
  have k1 := h1
  have lt1 : ∀ x ∈ p1, x.block < W.heap.size := by obtain ⟨m, hm⟩ := k1; exact DataW.trod_lt m _ _ _ hm
  have k2 := h2
  have lt2 : ∀ x ∈ p2, x.block < W.heap.size := by obtain ⟨m, hm⟩ := k2; exact DataW.trod_lt m _ _ _ hm
  have k3 := h3
  have lt3 : ∀ x ∈ p3, x.block < W.heap.size := by obtain ⟨m, hm⟩ := k3; exact DataW.trod_lt m _ _ _ hm
  have k4 := h4
  have lt4 : ∀ x ∈ p4, x.block < W.heap.size := by obtain ⟨m, hm⟩ := k4; exact DataW.trod_lt m _ _ _ hm
  have k5 := h5
  have lt5 : ∀ x ∈ p5, x.block < W.heap.size := by obtain ⟨m, hm⟩ := k5; exact DataW.trod_lt m _ _ _ hm
  have k6 := h6
  have lt6 : ∀ x ∈ p6, x.block < W.heap.size := by obtain ⟨m, hm⟩ := k6; exact DataW.trod_lt m _ _ _ hm
  have k7 := h7
  have lt7 : ∀ x ∈ p7, x.block < W.heap.size := by obtain ⟨m, hm⟩ := k7; exact DataW.trod_lt m _ _ _ hm
  have k8 := h8
  have lt8 : ∀ x ∈ p8, x.block < W.heap.size := by obtain ⟨m, hm⟩ := k8; exact DataW.trod_lt m _ _ _ hm
  have k9 := h9
  have lt9 : ∀ x ∈ p9, x.block < W.heap.size := by obtain ⟨m, hm⟩ := k9; exact DataW.trod_lt m _ _ _ hm
  obtain ⟨proto, rfl, -, -, wproto⟩ := open_int Tryd.underlying5 (hval 0 5 v0 rfl rfl) h0
  obtain ⟨iif, rfl, -, -, siif⟩ := open_string Tryd.underlying9 (hval 1 9 v1 rfl rfl) h1
  obtain ⟨oif, rfl, -, -, soif⟩ := open_string Tryd.underlying9 (hval 2 9 v2 rfl rfl) h2
  obtain ⟨sis4, rfl, -, -⟩ := open_bool Tryd.underlying4 (hval 3 4 v3 rfl rfl) h3
  obtain ⟨sb, rfl⟩ := open16 (hval 4 22 v4 rfl rfl) h4
  obtain ⟨dis4, rfl, -, -⟩ := open_bool Tryd.underlying4 (hval 5 4 v5 rfl rfl) h5
  obtain ⟨db, rfl⟩ := open16 (hval 6 22 v6 rfl rfl) h6
  obtain ⟨ad, n, c, rfl⟩ := okWide_slice Tryd.underlying53 (hval 7 53 v7 rfl rfl)
  obtain ⟨ls, hlist⟩ := open_list h7
  obtain ⟨at_, rfl, -, -, wat_⟩ := open_int Tryd.underlying3 (hval 8 3 v8 rfl rfl) h8
  obtain ⟨x, rfl⟩ := open_lp (hval 9 55 v9 rfl rfl) h9
  obtain ⟨p4, p6, hz, hz0⟩ := of_laid3 hL
  clear hA0 hval0
  refine (law5_all proto iif oif sis4 sb dis4 db ad n c at_ x ls p4 p6 W ⟨hz, hz0⟩ siif soif hlist).mono fun e W' ⟨he, bel⟩ => ?_
  subst he
  exact ⟨_, rfl, _, _, _, [], _, [], hW', trodAll_mk1 (shut_bool Tryd.underlying4 _), (trodAll_cons_mk (Below.trod laidOut (by kernel_rfl) (of_decide_eq_true (by kernel_rfl)) k0 bel lt0) (trodAll_cons_mk (Below.trod laidOut (by kernel_rfl) (of_decide_eq_true (by kernel_rfl)) k1 bel lt1) (trodAll_cons_mk (Below.trod laidOut (by kernel_rfl) (of_decide_eq_true (by kernel_rfl)) k2 bel lt2) (trodAll_cons_mk (Below.trod laidOut (by kernel_rfl) (of_decide_eq_true (by kernel_rfl)) k3 bel lt3) (trodAll_cons_mk (Below.trod laidOut (by kernel_rfl) (of_decide_eq_true (by kernel_rfl)) k4 bel lt4) (trodAll_cons_mk (Below.trod laidOut (by kernel_rfl) (of_decide_eq_true (by kernel_rfl)) k5 bel lt5) (trodAll_cons_mk (Below.trod laidOut (by kernel_rfl) (of_decide_eq_true (by kernel_rfl)) k6 bel lt6) (trodAll_cons_mk (Below.trod laidOut (by kernel_rfl) (of_decide_eq_true (by kernel_rfl)) k7 bel lt7) (trodAll_cons_mk (Below.trod laidOut (by kernel_rfl) (of_decide_eq_true (by kernel_rfl)) k8 bel lt8) (trodAll_cons_mk (Below.trod laidOut (by kernel_rfl) (of_decide_eq_true (by kernel_rfl)) k9 bel lt9) trodAll_mk0)))))))))), rfl, bel.frame _, fun h => by cases h⟩

theorem fnMatchesPrefixListIsUnion_holds : Rows.FnMatchesPrefixListIsUnionSaid :=
  OpenClaim.holds_of_wide 5 Tryd.f5 rfl rfl rfl rfl rfl rfl rfl ⟨rfl, rfl, rfl, rfl, rfl⟩ rfl rfl rfl rfl rfl (by kernel_rfl) Tryd.func5 (by kernel_rfl)
    (of_decide_eq_true (by kernel_rfl)) (by unfold Func.isWrapper; first | (rw [if_pos (by decide +kernel)]; kernel_rfl) | (rw [if_neg (by decide +kernel)]; exact ⟨rfl, rfl⟩))
    (fun os started H enc _ => fnMatchesPrefixListIsUnion_lifted os started H enc)

theorem fnMatchesPrefixListIsUnion_card : Rows.FnMatchesPrefixListIsUnionCardSaid :=
  Claim7.holds_tied_plain_at .later [] [.called, .called, .zero] true (true, "7cb44e30c9ad73bb9a3f91a6f4c34ff7bfd9872d22322013e545131f872d3ce3") false
    fnMatchesPrefixListIsUnion_holds (fun _ h => by cases h) (by kernel_rfl) (fun _ h => by cases h) fnMatchesPrefixListIsUnion_row_tie rfl ⟨rfl, rfl⟩ (by kernel_rfl) rfl
    (fun f fn hf hfn => by
      obtain rfl : f = 5 := Option.some.inj ((show Tryd.prog.funcNamed Rows.fnMatchesPrefixListIsUnionRow.func = some 5 by kernel_rfl).symm.trans hf) |>.symm
      obtain rfl : fn = Tryd.f5 := (Option.some.inj (Tryd.func5.symm.trans hfn)).symm
      exact ⟨by kernel_rfl, fun j t ht => by
        rw [Tryd.params5] at ht
        have hm : t ∈ [5, 9, 9, 4, 22, 4, 22, 53, 3, 55] := by simpa using Array.mem_of_getElem? ht
        have hall : ([5, 9, 9, 4, 22, 4, 22, 53, 3, 55].all fun u => !Tryd.prog.wantsStandIn u) = true := by kernel_rfl
        exact (show Tryd.prog.wantsStandIn t = false by simpa using List.all_eq_true.1 hall t hm)⟩)
    (by kernel_rfl)
end Go.Proofs.Qxb6615875aDoor
