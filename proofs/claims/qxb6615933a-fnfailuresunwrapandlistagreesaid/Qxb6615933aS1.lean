import Derived.Test.Qxb6615933aProg
import Derived.WalkKit
import Derived.WalkSmall
namespace Go.Proofs.Qxb6615933a
open Go.RowKit
set_option linter.unusedSimpArgs false

theorem hid {p : Prop} (h : p) : Hid p := h
theorem bcell {W w1 : World} (hb : Below W.heap.size W w1) : (∀ b o, b < W.heap.size → w1.cell? ⟨b, o, none⟩ = W.cell? ⟨b, o, none⟩) ∧ (∀ b o, b < W.heap.size → w1.frozen? ⟨b, o, none⟩ = W.frozen? ⟨b, o, none⟩) ∧ W.heap.size ≤ w1.heap.size :=
  ⟨fun b o h => hb.cell (p := ⟨b, o, none⟩) h, fun b o h => hb.frozen (p := ⟨b, o, none⟩) h, hb.size⟩

/-- A failure as plain data. -/
structure D where
  p : ByteArray
  m : ByteArray
  h : Bool
  ep : ByteArray
  em : ByteArray
/-- Her five cells. -/
def dv (d : D) : Array Value := #[.string d.p, .string d.m, .bool d.h, .string d.ep, .string d.em]
/-- The wrapped error. -/
def er (d : D) : Value := if d.h then .iface 29 (.agg #[.string d.ep, .string d.em, .nilIface]) else .nilIface
/-- The failure that is built of her: three cells. -/
def fv (d : D) : Array Value := #[.string d.p, .string d.m, er d]

set_option maxHeartbeats 1000000 in
theorem wrapping_any (p m ep em : ByteArray) (w : World) :
    Calls Try.prog 9 #[.string p, .string m, .agg #[.string ep, .string em, .nilIface]] w fun e w' => e = .returned (.agg #[.string p, .string m, .iface 29 (.agg #[.string ep, .string em, .nilIface])]) ∧ Below w.heap.size w w' := by
  go_enter Try.func9, Try.ntmps9
  go_wp2
  exact bodyPost_ret (v := .agg #[.string p, .string m, .iface 29 (.agg #[.string ep, .string em, .nilIface])]) (by simp [results, Try.results9, go_sem]) rfl ⟨rfl, ((Below.refl _ _).alloc (Nat.le_refl _) _).alloc (by simp) _⟩

set_option maxHeartbeats 1000000 in
theorem mk_any (d : D) (w : World) :
    Calls Try.prog 15 #[.agg (dv d)] w fun e w' => e = .returned (.agg (fv d)) ∧ Below w.heap.size w w' := by
  obtain ⟨p, m, h, ep, em⟩ := d
  cases h
  · simp only [dv, fv, er, Bool.false_eq_true, if_false]
    go_enter Try.func15, Try.ntmps15
    go_wp2
    exact bodyPost_ret (v := .agg #[.string p, .string m, .nilIface]) (by simp [results, Try.results15, go_sem]) rfl ⟨rfl, ((Below.refl _ _).alloc (Nat.le_refl _) _).alloc (by simp) _⟩
  · simp only [dv, fv, er, if_true]
    go_enter Try.func15, Try.ntmps15
    go_wp2_with (go_at_call 9; refine (wrapping_any p m ep em _).mono ?_; rintro e w' ⟨rfl, hb⟩; obtain ⟨hc, hf, hz⟩ := bcell hb; simp at hz)
    exact bodyPost_ret (v := .agg #[.string p, .string m, .iface 29 (.agg #[.string ep, .string em, .nilIface])]) (by simp [results, Try.results15, go_sem, hc]) rfl ⟨rfl, (((((((Below.refl _ _).alloc (Nat.le_refl _) _).alloc (by simp) _).trans (hb.mono (by simp; omega))).setCell (by simp) _).setCell (by simp) _).setCell (by simp) _)⟩

set_option maxHeartbeats 1000000 in
theorem unwrap1_any (p m : ByteArray) (x : Value) (hx : x = .nilIface ∨ ∃ t v, x = .iface t v) (w : World) :
    Calls Try.prog 10 #[.agg #[.string p, .string m, x]] w fun e w' => e = .returned x ∧ Below w.heap.size w w' := by
  rcases hx with rfl | ⟨t, v, rfl⟩
  all_goals
    go_enter Try.func10, Try.ntmps10
    go_wp2
    go_ret
    exact ⟨rfl, (Below.refl _ _).alloc (Nat.le_refl _) _⟩

theorem assert29 (W : World) (v : Value) : (Instr.typeAssert (.iface 29 v) 27 29 true).run Try.prog W = .ok (.tuple #[v, .bool true]) W := by kernel_rfl

set_option maxHeartbeats 1000000 in
theorem as_any (p m : ByteArray) (x : Value) (hx : x = .nilIface ∨ ∃ t v, x = .iface t v) (w : World) :
    Calls Try.prog 11 #[.iface 29 (.agg #[.string p, .string m, x])] w fun e w' => e = .returned (.tuple #[.agg #[.string p, .string m, x], .bool true]) ∧ Below w.heap.size w w' := by
  have hta := assert29
  rcases hx with rfl | ⟨t, v, rfl⟩
  all_goals
    go_enter Try.func11, Try.ntmps11
    go_wp2
    refine bodyPost_ret (by simp [results, Try.results11, go_sem]) rfl ⟨rfl, ((Below.refl _ _).alloc (Nat.le_refl _) _).alloc (by simp) _⟩

/-- What memory says of the tail: five cells each. -/
def Tl (w : World) (a : Option Addr) (n : Nat) (ts : Nat → D) : Prop := ∀ i, i < n → ∃ b off, a = some ⟨b, off, none⟩ ∧ ∀ j u, (dv (ts i))[j]? = some u → w.cell? ⟨b, off + i * 5 + j, none⟩ = some u
theorem Tl.below {w w' : World} {a : Option Addr} {n : Nat} {ts : Nat → D} (h : Tl w a n ts) (hb : Below w.heap.size w w') : Tl w' a n ts := fun i hi => by
  obtain ⟨b, off, e, hc⟩ := h i hi
  exact ⟨b, off, e, fun j u hj => (hb.cell (p := ⟨b, off + i * 5 + j, none⟩) (block_lt_of_cell (a := ⟨b, off + i * 5 + j, none⟩) (hc j u hj))).trans (hc j u hj)⟩

end Go.Proofs.Qxb6615933a
