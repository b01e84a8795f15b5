import Derived.Test.Qxb6615875aDoorRows
import Derived.Test.Qxb6615875aDoorA4
import Derived.ProofKit
import Derived.OpenShut
import Derived.LaidMore
import Derived.Stop.Joined
import Derived.ShutString
import Derived.ChangeOld
import Derived.Deep.Slices
namespace Go.Proofs.Qxb6615875aDoor
open Go.ChangeShapes Go.WideShapes Go.ChangeAt Go.RowKit
open Go.ChangeMaps (open_string shut_string)

theorem own : ownKnob Tryd.prog.godebug = none := by kernel_rfl
theorem laidOut : laidOutB Tryd.prog = true := by kernel_rfl
theorem gz4 : Tryd.prog.globalNamed "net/netip.z4" = some 0 := by kernel_rfl
theorem gz6 : Tryd.prog.globalNamed "net/netip.z6noz" = some 1 := by kernel_rfl
theorem gz0 : Tryd.prog.globalNamed "net/netip.z0" = some 2 := by kernel_rfl
theorem tz4 : (Tryd.prog.globals[0]?).map (·.type) = some 30 := by kernel_rfl
theorem tz6 : (Tryd.prog.globals[1]?).map (·.type) = some 30 := by kernel_rfl
theorem tz0 : (Tryd.prog.globals[2]?).map (·.type) = some 30 := by kernel_rfl
theorem cells28 : Tryd.prog.cellsOf 28 = 1 := by kernel_rfl
theorem cells30 : Tryd.prog.cellsOf 30 = 1 := by kernel_rfl
theorem cells121 : Tryd.prog.cellsOf 121 = 2 := by kernel_rfl

/-- A handle that reads as a pointer: its one cell, and the pointee's place. -/
theorem handle_some {W : World} {fuel : Nat} {cs : List Value} {y : DataW Unit} {p : List MemPlace} (h : DataW.trod (fun _ => ()) Tryd.prog W 0 (fun _ => true) false fuel 30 cs = some (.agg [.ptr y], p)) :
    ∃ a, cs = [.pointer (some a)] ∧ MemPlace.cell a.block a.off ∈ p := by
  obtain ⟨y0, n, hx, hl, h0⟩ := trod_struct1 Tryd.underlying30 h
  rw [cells30] at hl
  obtain ⟨v, rfl⟩ := List.length_eq_one_iff.1 hl
  simp only [Prod.mk.injEq, DataW.agg.injEq, List.cons.injEq, and_true] at hx
  simp only [cells28, List.drop_zero, List.take_succ_cons, List.take_zero] at h0
  rcases DataW.trod_pointer Tryd.underlying28 h0 with ⟨_, e⟩ | ⟨a, cs', y1, m, _, e1, e2, hc, _⟩
  · rw [e] at hx; cases hx.1
  · rw [cells121] at hc e2
    refine ⟨a, e1, ?_⟩
    rw [hx.2, e2]
    exact List.mem_append_left _ (MemPlace.mem_row.2 ⟨0, by omega, by simp⟩)
theorem handle_nil {W : World} {fuel : Nat} {cs : List Value} {p : List MemPlace} (h : DataW.trod (fun _ => ()) Tryd.prog W 0 (fun _ => true) false fuel 30 cs = some (.agg [.nil], p)) : cs = [.pointer none] := by
  obtain ⟨y0, n, hx, hl, h0⟩ := trod_struct1 Tryd.underlying30 h
  rw [cells30] at hl
  obtain ⟨v, rfl⟩ := List.length_eq_one_iff.1 hl
  simp only [Prod.mk.injEq, DataW.agg.injEq, List.cons.injEq, and_true] at hx
  simp only [cells28, List.drop_zero, List.take_succ_cons, List.take_zero] at h0
  rcases DataW.trod_pointer Tryd.underlying28 h0 with ⟨e, _⟩ | ⟨a, cs', y1, m, _, e1, e2, hc, _⟩
  · exact e
  · rw [e2] at hx; cases hx.1

def laid2 : List (String × DataW Unit) := [("net/netip.z4", Rows.laid_net_netip_z4), ("net/netip.z6noz", Rows.laid_net_netip_z6noz)]
def laid3 : List (String × DataW Unit) := [("net/netip.z4", Rows.laid_net_netip_z4), ("net/netip.z6noz", Rows.laid_net_netip_z6noz), ("net/netip.z0", Rows.laid_net_netip_z0)]

theorem of_laid2 {W : World} (h : laidMetH Tryd.prog laid2 W) : ∃ p4 p6, Zs W p4 p6 := by
  rw [MakeChecks.laidMetH_plain _ _ _ (by kernel_rfl)] at h
  obtain ⟨ps, ⟨g0, t0, cs0, f0, p0, q0, hg0, ht0, hv0, hd0, ⟨g1, t1, cs1, f1, p1, q1, hg1, ht1, hv1, hd1, _, rfl⟩, rfl⟩, hnd, hfr⟩ := h
  obtain rfl := Option.some.inj (gz4.symm.trans hg0)
  obtain rfl := Option.some.inj (gz6.symm.trans hg1)
  obtain rfl := Option.some.inj (tz4.symm.trans ht0)
  obtain rfl := Option.some.inj (tz6.symm.trans ht1)
  obtain ⟨a4, e4, m4⟩ := handle_some hd0
  obtain ⟨a6, e6, m6⟩ := handle_some hd1
  have c4 := World.var?_cell hg0 hv0 0
  rw [Array.eq_one_of_toList e4] at c4
  have c6 := World.var?_cell hg1 hv1 0
  rw [Array.eq_one_of_toList e6] at c6
  refine ⟨a4, a6, by simpa using c4, by simpa using c6, fun e => ?_, (hfr a4.block a4.off (by simp [m4])).1, (hfr a6.block a6.off (by simp [m6])).1⟩
  subst e
  rw [List.append_assoc, List.nodup_append] at hnd
  rw [List.nodup_append] at hnd
  exact hnd.2.1.2.2 _ m4 _ (by simp [m6]) rfl

theorem of_laid3 {W : World} (h : laidMetH Tryd.prog laid3 W) : ∃ p4 p6, Zs W p4 p6 ∧ W.cell? ⟨2, 0, none⟩ = some (.pointer none) := by
  rw [MakeChecks.laidMetH_plain _ _ _ (by kernel_rfl)] at h
  obtain ⟨ps, ⟨g0, t0, cs0, f0, p0, q0, hg0, ht0, hv0, hd0, ⟨g1, t1, cs1, f1, p1, q1, hg1, ht1, hv1, hd1, ⟨g2, t2, cs2, f2, p2, q2, hg2, ht2, hv2, hd2, _, rfl⟩, rfl⟩, rfl⟩, hnd, hfr⟩ := h
  obtain rfl := Option.some.inj (gz4.symm.trans hg0)
  obtain rfl := Option.some.inj (gz6.symm.trans hg1)
  obtain rfl := Option.some.inj (gz0.symm.trans hg2)
  obtain rfl := Option.some.inj (tz4.symm.trans ht0)
  obtain rfl := Option.some.inj (tz6.symm.trans ht1)
  obtain rfl := Option.some.inj (tz0.symm.trans ht2)
  obtain ⟨a4, e4, m4⟩ := handle_some hd0
  obtain ⟨a6, e6, m6⟩ := handle_some hd1
  have e0 := handle_nil hd2
  have c4 := World.var?_cell hg0 hv0 0
  rw [Array.eq_one_of_toList e4] at c4
  have c6 := World.var?_cell hg1 hv1 0
  rw [Array.eq_one_of_toList e6] at c6
  have c0 := World.var?_cell hg2 hv2 0
  rw [Array.eq_one_of_toList e0] at c0
  refine ⟨a4, a6, ⟨by simpa using c4, by simpa using c6, fun e => ?_, (hfr a4.block a4.off (by simp [m4])).1, (hfr a6.block a6.off (by simp [m6])).1⟩, by simpa using c0⟩
  subst e
  rw [List.append_assoc, List.nodup_append] at hnd
  rw [List.nodup_append] at hnd
  exact hnd.2.1.2.2 _ m4 _ (by simp [m6]) rfl

/-- A variable's row, its cells laid anew. -/
def setRow (cs : Array Value) : Obj → Obj
  | .cells _ t fr => .cells cs t fr
  | o => o
/-- A world that meets the condition: the settled one, two blocks more for the two handles' pointees, the two variables' cells pointing there. (The door's own heap does not serve here: its run leaves a mark in a block of the run-time's own, so it is not a shaped world.) -/
def zWorld (P : Program) (os : Os) : World :=
  { World.holding P os ⟨#[.cells #[.bool false, .string ⟨#[]⟩] 121, .cells #[.bool true, .string ⟨#[]⟩] 121], #[], []⟩ with
    heap := ((World.holding P os ⟨#[.cells #[.bool false, .string ⟨#[]⟩] 121, .cells #[.bool true, .string ⟨#[]⟩] 121], #[], []⟩).heap.modify 0 (setRow #[.pointer (some ⟨(World.settled P os).heap.size, 0, none⟩)])).modify 1 (setRow #[.pointer (some ⟨(World.settled P os).heap.size + 1, 0, none⟩)]) }
theorem door_met2 (os : Os) (args : Array Value) : laidMetH Tryd.prog laid2 ((zWorld Tryd.prog os).forCall (fun _ _ => 0) ⟨#[], args, []⟩).memory :=
  laidMetH_of_parts3 (fuel := 8) (laidMet_of_run' 8 (by kernel_rfl) (by kernel_rfl)) (by kernel_rfl) (by kernel_rfl)
theorem door_met3 (os : Os) (args : Array Value) : laidMetH Tryd.prog laid3 ((zWorld Tryd.prog os).forCall (fun _ _ => 0) ⟨#[], args, []⟩).memory :=
  laidMetH_of_parts3 (fuel := 8) (laidMet_of_run' 8 (by kernel_rfl) (by kernel_rfl)) (by kernel_rfl) (by kernel_rfl)

/-- A byte out of a number that fits. -/
theorem byte_of {n : Int} (h : (Lit.int .u8 n).wf = true) : ∃ b : UInt8, n = (b.toNat : Int) := by
  obtain ⟨h0, h1⟩ := bounds_u8 h
  refine ⟨UInt8.ofNat n.toNat, ?_⟩
  rw [UInt8.toNat_ofNat']
  omega

theorem cells22 : Tryd.prog.cellsOf 22 = 16 := by kernel_rfl
theorem cells5 : Tryd.prog.cellsOf 5 = 1 := by kernel_rfl

/-- Sixteen cells that read as bytes are sixteen bytes. -/
theorem bytes_of {H : Type} {enc : TypeId × Value → H} {W : World} {sp : Nat → Bool} {held : Bool} {fuel : Nat} {cs : List Value} {x : DataW H × List MemPlace} (h : DataW.trod enc Tryd.prog W 0 sp held fuel 22 cs = some x) :
    ∃ b : Nat → UInt8, cs = (cells16 b).toList := by
  obtain ⟨xs, m, _, _, hl, hn, hel⟩ := DataW.trod_array Tryd.underlying22 h
  rw [cells22] at hl
  rw [cells5] at hel
  have each : ∀ i, i < 16 → ∃ b : UInt8, cs[i]? = some (.int .u8 (b.toNat : Int)) := fun i hi => by
    have h1 := hel i hi
    rw [List.getElem?_eq_getElem (by omega)] at h1
    obtain ⟨n, e1, e2, e3⟩ := DataW.trod_int Tryd.underlying5 h1
    obtain ⟨b, rfl⟩ := byte_of e3
    refine ⟨b, ?_⟩
    have := congrArg (·[0]?) e1
    simpa [List.getElem?_take, List.getElem?_drop] using this
  obtain ⟨b, hb⟩ := Go.Deep.choose_lt (α := UInt8) each
  refine ⟨b, List.ext_getElem? fun i => ?_⟩
  by_cases hi : i < 16
  · rw [hb i hi]
    rcases (show i = 0 ∨ i = 1 ∨ i = 2 ∨ i = 3 ∨ i = 4 ∨ i = 5 ∨ i = 6 ∨ i = 7 ∨ i = 8 ∨ i = 9 ∨ i = 10 ∨ i = 11 ∨ i = 12 ∨ i = 13 ∨ i = 14 ∨ i = 15 by omega) with rfl | rfl | rfl | rfl | rfl | rfl | rfl | rfl | rfl | rfl | rfl | rfl | rfl | rfl | rfl | rfl <;> rfl
  · rw [List.getElem?_eq_none (by omega), List.getElem?_eq_none (by simp [cells16]; omega)]

set_option maxRecDepth 100000 in
theorem open16 {H : Type} {enc : TypeId × Value → H} {W : World} {base : Nat} {v : Value} {d : DataW H} {p : List MemPlace} (hv : Value.okWide Tryd.prog W .any base 22 v) (h : DataW.Trod enc Tryd.prog W 0 (fun _ => true) true 22 v d p) :
    ∃ b : Nat → UInt8, v = .agg (cells16 b) := by
  simp only [Value.okWide, Tryd.underlying22] at hv
  obtain ⟨cs, rfl, _, _⟩ := hv
  obtain ⟨fuel, hf⟩ := h
  obtain ⟨b, hb⟩ := bytes_of hf
  refine ⟨b, ?_⟩
  have : cs = cells16 b := by
    apply Array.toList_inj.1
    simpa [Value.cells] using hb
  rw [this]
end Go.Proofs.Qxb6615875aDoor
