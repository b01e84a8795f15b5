import Derived.Test.Qxb6615933aRows
import Derived.Test.Qxb6615933aS1
import Derived.ProofKit
import Derived.OpenShut
import Derived.ChangeOld
import Derived.Below
import Derived.Deep.Slices
namespace Go.Proofs.Qxb6615933a
open Go.ChangeShapes Go.WideShapes Go.ChangeAt Go.RowKit

theorem own : ownKnob Try.prog.godebug = none := by kernel_rfl
theorem laidOut : laidOutB Try.prog = true := by kernel_rfl
theorem cells35 : Try.prog.cellsOf 35 = 5 := by kernel_rfl
theorem cells9 : Try.prog.cellsOf 9 = 1 := by kernel_rfl
theorem cells4 : Try.prog.cellsOf 4 = 1 := by kernel_rfl

/-- Five cells that read as a failure's data. -/
theorem data_of {H : Type} {enc : TypeId × Value → H} {W : World} {base : Nat} {sp : Nat → Bool} {held : Bool} {fuel : Nat} {cs : List Value} {x : DataW H × List MemPlace} (h : DataW.trod enc Try.prog W base sp held fuel 35 cs = some x) :
    ∃ d : D, cs = (dv d).toList := by
  obtain ⟨xs, n, _, _, hl, hlen, hf⟩ := DataW.trod_struct Try.underlying35 h
  rw [cells35] at hl
  match cs, hl with
  | [c0, c1, c2, c3, c4], _ =>
    simp only [Array.size] at hlen
    match xs, hlen with
    | [y0, y1, y2, y3, y4], _ =>
      have h0 : DataW.trod enc Try.prog W base sp held n 9 (List.take (Try.prog.cellsOf 9) (List.drop 0 [c0, c1, c2, c3, c4])) = some y0 := hf 0 _ rfl
      rw [cells9] at h0
      obtain ⟨s0, e0, _, _⟩ := DataW.trod_string Try.underlying9 (cs := [c0]) h0
      have h1 : DataW.trod enc Try.prog W base sp held n 9 (List.take (Try.prog.cellsOf 9) (List.drop 1 [c0, c1, c2, c3, c4])) = some y1 := hf 1 _ rfl
      rw [cells9] at h1
      obtain ⟨s1, e1, _, _⟩ := DataW.trod_string Try.underlying9 (cs := [c1]) h1
      have h2 : DataW.trod enc Try.prog W base sp held n 4 (List.take (Try.prog.cellsOf 4) (List.drop 2 [c0, c1, c2, c3, c4])) = some y2 := hf 2 _ rfl
      rw [cells4] at h2
      obtain ⟨s2, e2, _⟩ := DataW.trod_bool Try.underlying4 (cs := [c2]) h2
      have h3 : DataW.trod enc Try.prog W base sp held n 9 (List.take (Try.prog.cellsOf 9) (List.drop 3 [c0, c1, c2, c3, c4])) = some y3 := hf 3 _ rfl
      rw [cells9] at h3
      obtain ⟨s3, e3, _, _⟩ := DataW.trod_string Try.underlying9 (cs := [c3]) h3
      have h4 : DataW.trod enc Try.prog W base sp held n 9 (List.take (Try.prog.cellsOf 9) (List.drop 4 [c0, c1, c2, c3, c4])) = some y4 := hf 4 _ rfl
      rw [cells9] at h4
      obtain ⟨s4, e4, _, _⟩ := DataW.trod_string Try.underlying9 (cs := [c4]) h4
      simp only [List.cons.injEq, and_true] at e0 e1 e2 e3 e4
      subst e0 e1 e2 e3 e4
      exact ⟨⟨s0, s1, s2, s3, s4⟩, rfl⟩

theorem open_data {H : Type} {enc : TypeId × Value → H} {W : World} {base : Nat} {v : Value} {d : DataW H} {p : List MemPlace} (hv : Value.okWide Try.prog W .any base 35 v) (h : DataW.Trod enc Try.prog W 0 (fun _ => true) true 35 v d p) :
    ∃ x : D, v = .agg (dv x) := by
  simp only [Value.okWide, Try.underlying35] at hv
  obtain ⟨cs, rfl, _, _⟩ := hv
  obtain ⟨fuel, hf⟩ := h
  obtain ⟨x, hb⟩ := data_of hf
  refine ⟨x, ?_⟩
  have : cs = dv x := by
    apply Array.toList_inj.1
    simpa [Value.cells] using hb
  rw [this]


theorem open_tail {H : Type} {enc : TypeId × Value → H} {W : World} {a : Option Addr} {n c : Nat} {d : DataW H} {p : List MemPlace} (h : DataW.Trod enc Try.prog W 0 (fun _ => true) true 36 (.slice a n c) d p) :
    ∃ ts : Nat → D, Tl W a n ts ∧ n ≤ maxLen := by
  haveI : Inhabited D := ⟨⟨ByteArray.empty, ByteArray.empty, false, ByteArray.empty, ByteArray.empty⟩⟩
  obtain ⟨fuel, hf⟩ := h
  rcases Go.Deep.open_slice Try.underlying36 hf with ⟨hcs, _⟩ | ⟨x, l, cp, m, k, Dd, Pl, hcs, _, hl, hm, hmm, _, hcell⟩
  · simp [Value.cells] at hcs
    obtain ⟨rfl, rfl, rfl⟩ := hcs
    exact ⟨fun _ => default, fun i hi => by omega, Nat.zero_le _⟩
  · simp [Value.cells] at hcs
    obtain ⟨rfl, rfl, rfl⟩ := hcs
    simp only [if_true] at hmm
    subst hmm
    rw [cells35] at hcell
    have each : ∀ i, i < n → ∃ y : D, ∀ j u, (dv y)[j]? = some u → W.cell? ((x.add (i * 5)).add j) = some u := fun i hi => by
      obtain ⟨cs', h1, h2⟩ := hcell i (by omega)
      obtain ⟨y, rfl⟩ := data_of h2
      refine ⟨y, fun j u hj => ?_⟩
      have hlt : j < (dv y).size := (Array.getElem?_eq_some_iff.1 hj).1
      have hs : (dv y).size = 5 := rfl
      rw [(World.cells?_some h1).2.2 j (by omega)]
      simpa using hj
    obtain ⟨ts, hts⟩ := Go.Deep.choose_lt (α := D) each
    refine ⟨ts, fun i hi => ?_, Nat.le_trans hl hm⟩
    obtain ⟨b, off, spot⟩ := x
    have h0 := hts 0 (by omega) 0 _ rfl
    have hspot : spot = none := by simpa [Addr.add] using World.cell?_spot h0
    subst hspot
    refine ⟨b, off, rfl, fun j u hj => ?_⟩
    have := hts i hi j u hj
    rw [add_plain, add_plain] at this
    exact this
end Go.Proofs.Qxb6615933a
