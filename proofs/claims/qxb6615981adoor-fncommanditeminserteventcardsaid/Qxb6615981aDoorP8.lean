import Derived.Test.Qxb6615981aDoorQ12
import Derived.Test.Qxb6615981aDoorTie
import Derived.Test.Qxb6615981aDoorCards
import Derived.SevenTiedAt
import Derived.ProofKit
import Derived.OpenShut
import Derived.LaidMore
import Derived.Lay
import Derived.Stop.Joined
import Derived.ShutString
import Derived.ChangeOld
import Derived.Deep.Slices
namespace Go.Proofs.Qxb6615981aDoor
open Go Go.ChangeShapes Go.WideShapes Go.ChangeAt Go.RowKit
open Go.ChangeMaps (open_string shut_string)
set_option linter.unusedVariables false

theorem own : ownKnob Tryd.prog.godebug = none := by kernel_rfl
theorem laidOut : laidOutB Tryd.prog = true := by kernel_rfl
theorem cells28 : Tryd.prog.cellsOf 28 = 2 := by kernel_rfl
theorem cells9 : Tryd.prog.cellsOf 9 = 1 := by kernel_rfl
theorem gpow : Tryd.prog.globalNamed "internal/strconv.uint64pow10" = some 4 := by kernel_rfl
theorem tpow : (Tryd.prog.globals[4]?).map (·.type) = some 97 := by kernel_rfl
def laid8 : List (String × DataW Unit) := [("math/bits.deBruijn32tab", Rows.laid_math_bits_deBruijn32tab), ("math/bits.deBruijn64tab", Rows.laid_math_bits_deBruijn64tab), ("internal/strconv.uint64pow10", Rows.laid_internal_strconv_uint64pow10)]
theorem of_laid8 {W : World} (h : laidMetH Tryd.prog laid8 W) : Tab W := by
  rw [MakeChecks.laidMetH_plain _ _ _ (by kernel_rfl)] at h
  obtain ⟨ps, ⟨_, _, _, _, _, _, _, _, _, _, ⟨_, _, _, _, _, _, _, _, _, _, ⟨g, t, cs, f, p, q, hg, ht, hv, hd, _⟩, _⟩, _⟩, _⟩ := h
  obtain rfl := Option.some.inj (gpow.symm.trans hg)
  obtain rfl := Option.some.inj (tpow.symm.trans ht)
  have hd' : DataW.trod (fun _ => ()) Tryd.prog W 0 (fun _ => true) false f 97 cs.toList = some (Lib.tabData .u64 Lib.pow10Tab, p) := hd
  show W.var? Tryd.prog "internal/strconv.uint64pow10" = _
  rw [hv, ← Lib.cells_of_tab Tryd.underlying97 Tryd.underlying50 (by kernel_rfl) (by kernel_rfl) hd']
theorem met8 (os : Os) (args : Array Value) : laidMetH Tryd.prog laid8 ((World.laidAll Tryd.prog os laid8).forCall (fun _ _ => 0) ⟨#[], args, []⟩).memory := by
  rw [MakeChecks.laidMetH_plain _ _ _ (by kernel_rfl)]; exact laidMet_laidAll _ (by kernel_rfl) (by kernel_rfl)

set_option maxRecDepth 100000 in
/-- Two cells that read as an event. -/
theorem event_of {H : Type} {enc : TypeId × Value → H} {W : World} {base : Nat} {sp : Nat → Bool} {held : Bool} {fuel : Nat} {cs : List Value} {x : DataW H × List MemPlace} (h : DataW.trod enc Tryd.prog W base sp held fuel 28 cs = some x) :
    ∃ d : ByteArray × ByteArray, cs = [.string d.1, .string d.2] ∧ d.1.size ≤ maxLen ∧ d.2.size ≤ maxLen := by
  obtain ⟨xs, n, _, _, hl, hlen, hf⟩ := DataW.trod_struct Tryd.underlying28 h
  rw [cells28] at hl
  match cs, hl with
  | [c0, c1], _ =>
    simp only [Array.size] at hlen
    match xs, hlen with
    | [y0, y1], _ =>
      have h0 : DataW.trod enc Tryd.prog W base sp held n 9 (List.take (Tryd.prog.cellsOf 9) (List.drop 0 [c0, c1])) = some y0 := hf 0 _ rfl
      rw [cells9] at h0
      obtain ⟨s0, e0, _, z0⟩ := DataW.trod_string Tryd.underlying9 (cs := [c0]) h0
      have h1 : DataW.trod enc Tryd.prog W base sp held n 9 (List.take (Tryd.prog.cellsOf 9) (List.drop 1 [c0, c1])) = some y1 := hf 1 _ rfl
      rw [cells9] at h1
      obtain ⟨s1, e1, _, z1⟩ := DataW.trod_string Tryd.underlying9 (cs := [c1]) h1
      simp only [List.cons.injEq, and_true] at e0 e1
      subst e0 e1
      exact ⟨(s0, s1), rfl, z0, z1⟩
theorem add_plain (b off i : Nat) : Addr.add ⟨b, off, none⟩ i = ⟨b, off + i, none⟩ := by
  unfold Addr.add
  split
  · subst_vars; rfl
  · rfl
theorem open_events {H : Type} {enc : TypeId × Value → H} {W : World} {a : Option Addr} {n c : Nat} {d : DataW H} {p : List MemPlace} (h : DataW.Trod enc Tryd.prog W 0 (fun _ => true) true 25 (.slice a n c) d p) :
    ∃ es : Nat → ByteArray × ByteArray, IsEv a n c ∧ Zev W a n es ∧ (∀ i, i < n → (es i).1.size ≤ maxLen ∧ (es i).2.size ≤ maxLen) ∧ n ≤ maxLen := by
  haveI : Inhabited (ByteArray × ByteArray) := ⟨(ByteArray.empty, ByteArray.empty)⟩
  obtain ⟨fuel, hf⟩ := h
  rcases Go.Deep.open_slice Tryd.underlying25 hf with ⟨hcs, _⟩ | ⟨x, l, cp, m, k, Dd, Pl, hcs, _, hl, hm, hmm, _, hcell⟩
  · simp [Value.cells] at hcs
    obtain ⟨rfl, rfl, rfl⟩ := hcs
    exact ⟨fun _ => default, .inl ⟨rfl, rfl, rfl⟩, fun i hi => by omega, fun i hi => by omega, Nat.zero_le _⟩
  · simp [Value.cells] at hcs
    obtain ⟨rfl, rfl, rfl⟩ := hcs
    simp only [if_true] at hmm
    subst hmm
    rw [cells28] at hcell
    have each : ∀ i, i < n → ∃ y : ByteArray × ByteArray, (W.cell? ((x.add (i * 2)).add 0) = some (.string y.1) ∧ W.cell? ((x.add (i * 2)).add 1) = some (.string y.2)) ∧ y.1.size ≤ maxLen ∧ y.2.size ≤ maxLen := fun i hi => by
      obtain ⟨cs', h1, h2⟩ := hcell i (by omega)
      obtain ⟨y, rfl, z0, z1⟩ := event_of h2
      have hh := (World.cells?_some h1).2.2
      exact ⟨y, ⟨hh 0 (by omega), hh 1 (by omega)⟩, z0, z1⟩
    obtain ⟨es, hes⟩ := Go.Deep.choose_lt (α := ByteArray × ByteArray) each
    refine ⟨es, .inr ⟨x, rfl⟩, fun i hi => ?_, fun i hi => (hes i hi).2, Nat.le_trans hl hm⟩
    obtain ⟨b, off, spot⟩ := x
    have hspot : spot = none := by simpa [Addr.add] using World.cell?_spot (hes 0 (by omega)).1.1
    subst hspot
    have e0 := (hes i hi).1.1
    have e1 := (hes i hi).1.2
    rw [add_plain, add_plain] at e0 e1
    exact ⟨b, off, rfl, e0, e1⟩

set_option maxRecDepth 100000 in
theorem fnCommandItemInsertEvent_lifted (os : Os) (started : os.Started) (H : Type) (enc : TypeId × Value → H) :
    ReturnsInHanded {} Tryd.checked os 5 .any (fun w args => (Rows.fnCommandItemInsertEventSpec.pre enc Tryd.prog Tryd.f5 [] false w args ∧ laidMetH Tryd.prog laid8 w) ∧ sizedMet enc Tryd.prog Tryd.f5 (OpenSpec.ofChange Rows.fnCommandItemInsertEventSpec) false w args)
      (Rows.fnCommandItemInsertEventSpec.post enc Tryd.prog Tryd.f5 false true false false) := by
  refine returnsInHanded_of_change_and (C := Tryd.checked) (X := fun w _ => laidMetH Tryd.prog laid8 w) (fun _ _ _ hh h => h.of_heap hh) own started (by kernel_rfl) Tryd.func5
    (ChangeSpec.witness_shaped (enc := enc) (C := Tryd.checked) (os := os) (X := fun w _ => laidMetH Tryd.prog laid8 w) false (World.laidAll Tryd.prog os laid8) #[.string ⟨#[]⟩, .string ⟨#[]⟩, .int .u32 0, .slice none 0 0, .int .i64 0, .string ⟨#[]⟩, .string ⟨#[]⟩, .bool false] 8 (World.laidAll_os _ _ _) (World.shaped_of_ZipB (by kernel_rfl) (by kernel_rfl)) (by kernel_rfl) (by kernel_rfl) (by kernel_rfl) (met8 os _)) ?_
  intro W base args ds gs before hval0 hW _ hsz0 hL _
  have hval : ∀ (j : Nat) t v, Tryd.f5.params[j]? = some t → args[j]? = some v → Value.okWide Tryd.prog W .any base t v := hval0
  have hW' := hW
  obtain ⟨p, q, hA0, hV, rfl, hfz, hnd⟩ := hW
  have hA : DataW.TrodAll enc Tryd.prog W 0 (fun _ => true) true Tryd.f5.params.toList args.toList ds p := hA0
  rw [Tryd.params5] at hA hval
  obtain ⟨v0, vs0, d0, ds0, p0, q0, hargs, rfl, rfl, h0, r0⟩ := trodAll_cons hA
  obtain ⟨v1, vs1, d1, ds1, p1, q1, rfl, rfl, rfl, h1, r1⟩ := trodAll_cons r0
  obtain ⟨v2, vs2, d2, ds2, p2, q2, rfl, rfl, rfl, h2, r2⟩ := trodAll_cons r1
  obtain ⟨v3, vs3, d3, ds3, p3, q3, rfl, rfl, rfl, h3, r3⟩ := trodAll_cons r2
  obtain ⟨v4, vs4, d4, ds4, p4, q4, rfl, rfl, rfl, h4, r4⟩ := trodAll_cons r3
  obtain ⟨v5, vs5, d5, ds5, p5, q5, rfl, rfl, rfl, h5, r5⟩ := trodAll_cons r4
  obtain ⟨v6, vs6, d6, ds6, p6, q6, rfl, rfl, rfl, h6, r6⟩ := trodAll_cons r5
  obtain ⟨v7, vs7, d7, ds7, p7, q7, rfl, rfl, rfl, h7, r7⟩ := trodAll_cons r6
  obtain ⟨rfl, rfl, rfl⟩ := trodAll_nil r7
  obtain rfl : args = #[v0, v1, v2, v3, v4, v5, v6, v7] := by cases args; simp_all
  obtain ⟨rfl, rfl⟩ := trodVars_none hV
  have k0 := h0
  have lt0 : ∀ x ∈ p0, x.block < W.heap.size := by obtain ⟨m, hm⟩ := k0; exact DataW.trod_lt m _ _ _ hm
  have k1 := h1
  have lt1 : ∀ x ∈ p1, x.block < W.heap.size := by obtain ⟨m, hm⟩ := k1; exact DataW.trod_lt m _ _ _ hm
  have k2 := h2
  have lt2 : ∀ x ∈ p2, x.block < W.heap.size := by obtain ⟨m, hm⟩ := k2; exact DataW.trod_lt m _ _ _ hm
  have k3 := h3
  have lt3 : ∀ x ∈ p3, x.block < W.heap.size := by obtain ⟨m, hm⟩ := k3; exact DataW.trod_lt m _ _ _ hm
  have k4 := h4
  have lt4 : ∀ x ∈ p4, x.block < W.heap.size := by obtain ⟨m, hm⟩ := k4; exact DataW.trod_lt m _ _ _ hm
  have k5 := h5
  have lt5 : ∀ x ∈ p5, x.block < W.heap.size := by obtain ⟨m, hm⟩ := k5; exact DataW.trod_lt m _ _ _ hm
  have k6 := h6
  have lt6 : ∀ x ∈ p6, x.block < W.heap.size := by obtain ⟨m, hm⟩ := k6; exact DataW.trod_lt m _ _ _ hm
  have k7 := h7
  have lt7 : ∀ x ∈ p7, x.block < W.heap.size := by obtain ⟨m, hm⟩ := k7; exact DataW.trod_lt m _ _ _ hm
  obtain ⟨verb, rfl, -, -, sverb⟩ := open_string Tryd.underlying9 (hval 0 9 v0 rfl rfl) h0
  obtain ⟨term, rfl, -, -, sterm⟩ := open_string Tryd.underlying9 (hval 1 9 v1 rfl rfl) h1
  obtain ⟨rz, rfl, -, -, wrz⟩ := open_int Tryd.underlying24 (hval 2 24 v2 rfl rfl) h2
  obtain ⟨ad, n, c, rfl⟩ := okWide_slice Tryd.underlying25 (hval 3 25 v3 rfl rfl)
  obtain ⟨es, hev, hz, hm, hn⟩ := open_events h3
  obtain ⟨at_, rfl, -, -, wat_⟩ := open_int Tryd.underlying3 (hval 4 3 v4 rfl rfl) h4
  obtain ⟨pkg, rfl, -, -, spkg⟩ := open_string Tryd.underlying9 (hval 5 9 v5 rfl rfl) h5
  obtain ⟨ev, rfl, -, -, sev⟩ := open_string Tryd.underlying9 (hval 6 9 v6 rfl rfl) h6
  obtain ⟨opt, rfl, -, -⟩ := open_bool Tryd.underlying4 (hval 7 4 v7 rfl rfl) h7
  obtain ⟨rid, rfl, hrid⟩ : ∃ rid : Nat, rz = rid ∧ rid < 4294967296 := ⟨rz.toNat, by have := bounds_u32 wrz; omega, by have := bounds_u32 wrz; omega⟩
  have hT := of_laid8 hL
  clear hA0 hval0
  refine (law_all verb term rid ad n c at_ pkg ev opt es W hT hrid hev sverb sterm hn spkg sev hz hm).mono fun e W' ⟨he, bel⟩ => ?_
  subst he
  exact ⟨_, rfl, _, _, _, [], _, [], hW', trodAll_mk1 (shut_bool Tryd.underlying4 _), (trodAll_cons_mk (Below.trod laidOut (by kernel_rfl) (of_decide_eq_true (by kernel_rfl)) k0 bel lt0) (trodAll_cons_mk (Below.trod laidOut (by kernel_rfl) (of_decide_eq_true (by kernel_rfl)) k1 bel lt1) (trodAll_cons_mk (Below.trod laidOut (by kernel_rfl) (of_decide_eq_true (by kernel_rfl)) k2 bel lt2) (trodAll_cons_mk (Below.trod laidOut (by kernel_rfl) (of_decide_eq_true (by kernel_rfl)) k3 bel lt3) (trodAll_cons_mk (Below.trod laidOut (by kernel_rfl) (of_decide_eq_true (by kernel_rfl)) k4 bel lt4) (trodAll_cons_mk (Below.trod laidOut (by kernel_rfl) (of_decide_eq_true (by kernel_rfl)) k5 bel lt5) (trodAll_cons_mk (Below.trod laidOut (by kernel_rfl) (of_decide_eq_true (by kernel_rfl)) k6 bel lt6) (trodAll_cons_mk (Below.trod laidOut (by kernel_rfl) (of_decide_eq_true (by kernel_rfl)) k7 bel lt7) trodAll_mk0)))))))), rfl, bel.frame _, fun h => by cases h⟩

theorem fnCommandItemInsertEvent_holds : Rows.FnCommandItemInsertEventSaid :=
  OpenClaim.holds_of_wide 5 Tryd.f5 rfl rfl rfl rfl rfl rfl rfl ⟨rfl, rfl, rfl, rfl, rfl⟩ rfl rfl rfl rfl rfl (by kernel_rfl) Tryd.func5 (by kernel_rfl)
    (of_decide_eq_true (by kernel_rfl)) (by unfold Func.isWrapper; first | (rw [if_pos (by decide +kernel)]; kernel_rfl) | (rw [if_neg (by decide +kernel)]; exact ⟨rfl, rfl⟩))
    (fun os started H enc _ => fnCommandItemInsertEvent_lifted os started H enc)

theorem fnCommandItemInsertEvent_card : Rows.FnCommandItemInsertEventCardSaid :=
  Claim7.holds_tied_plain_at .later [] [.data, .data, .data] true (true, "45ce5fe9c6090572f56f44dc594b78cc9e1751bd6a7b9819a8042b96831b4905") false
    fnCommandItemInsertEvent_holds (fun _ h => by cases h) (by kernel_rfl) (fun _ h => by cases h) fnCommandItemInsertEvent_row_tie rfl ⟨rfl, rfl⟩ (by kernel_rfl) rfl
    (fun f fn hf hfn => by
      obtain rfl : f = 5 := Option.some.inj ((show Tryd.prog.funcNamed Rows.fnCommandItemInsertEventRow.func = some 5 by kernel_rfl).symm.trans hf) |>.symm
      obtain rfl : fn = Tryd.f5 := (Option.some.inj (Tryd.func5.symm.trans hfn)).symm
      exact ⟨by kernel_rfl, fun j t ht => by
        rw [Tryd.params5] at ht
        have hm : t ∈ [9, 9, 24, 25, 3, 9, 9, 4] := by simpa using Array.mem_of_getElem? ht
        have hall : ([9, 9, 24, 25, 3, 9, 9, 4].all fun u => !Tryd.prog.wantsStandIn u) = true := by kernel_rfl
        exact (show Tryd.prog.wantsStandIn t = false by simpa using List.all_eq_true.1 hall t hm)⟩)
    (by kernel_rfl)
end Go.Proofs.Qxb6615981aDoor
