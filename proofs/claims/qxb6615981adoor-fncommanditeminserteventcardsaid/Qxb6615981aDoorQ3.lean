import Derived.Test.Qxb6615981aDoorQ2
import Derived.Stop.LaidErr
namespace Go.Proofs.Qxb6615981aDoor
open Go.RowKit
set_option linter.unusedSimpArgs false
set_option linter.unusedVariables false

/-- An item's fourteen cells. -/
def itV (name : ByteArray) (kw : Bool) (op : Int) (text : ByteArray) (blk : Value) (hb : Bool) : Array Value :=
  #[.string name, .bool false, .bool kw, .int .u8 op, .string text, .bool false, .bool false, .slice none 0 0, .int .u8 0, blk, .bool hb, .string ⟨#[]⟩, .bool false, .int .i64 0]
/-- An item lies in a block of the call's own. -/
def ItemIn (w w' : World) (v : Value) (cs : Array Value) : Prop := ∃ b, v = .pointer (some ⟨b, 0, none⟩) ∧ w.heap.size ≤ b ∧ w'.heap[b]? = some (.cells cs 66 (0, 0))

theorem heapOld {w : World} {k : Nat} {o : Obj} (h : w.heap[k]? = some o) (x : Obj) : (w.alloc x).heap[k]? = some o := by
  rw [Below.heap_alloc _ _ _ (heap_lt h)]; exact h
theorem new2 (w : World) (o : Obj) (cs : Array Value) (t : TypeId) : ((w.alloc o).alloc (.cells cs t)).heap[w.heap.size + 1]? = some (.cells cs t (0, 0)) := by
  have := heap_alloc_new (w.alloc o) (.cells cs t)
  rw [World.size_alloc] at this
  exact this

set_option maxHeartbeats 1000000 in
theorem valueItem_any (t text : ByteArray) (w : World) : Calls Tryd.prog 36 #[.string t, .agg #[.string text, .bool false, .bool false, .slice none 0 0, .int .u8 0]] w fun e w' =>
    e = .returned (.pointer (some ⟨w.heap.size + 1, 0, none⟩)) ∧ w'.heap[w.heap.size + 1]? = some (.cells (itV t true 61 text (.slice none 0 0) false) 66 (0, 0)) ∧ Below w.heap.size w w' := by
  go_enter Tryd.func36, Tryd.ntmps36
  go_wp2
  go_ret
  exact ⟨rfl, new2 _ _ _ _, ((Below.refl _ _).alloc (Nat.le_refl _) _).alloc (by simp) _⟩

theorem row_set {W : World} {b : Nat} {C : Array Value} {t : TypeId} (h : W.heap[b]? = some (.cells C t (0, 0))) (o : Nat) (v : Value) : (W.setCell ⟨b, o, none⟩ v).heap[b]? = some (.cells (C.setIfInBounds o v) t (0, 0)) := heap_setCell_same W b o C t v h

set_option maxHeartbeats 1000000 in
theorem blockItem_any (t text : ByteArray) (w : World) : Calls Tryd.prog 38 #[.string t, .string text] w fun e w' =>
    e = .returned (.pointer (some ⟨w.heap.size + 1, 0, none⟩)) ∧ w'.heap[w.heap.size + 1]? = some (.cells (itV t true 61 text (.slice none 0 0) true) 66 (0, 0)) ∧ Below w.heap.size w w' := by
  go_enter Tryd.func38, Tryd.ntmps38
  go_wp2_with (go_at_call 36; refine (valueItem_any t text _).mono ?_; rintro e w' ⟨rfl, hr, hb⟩; have HR := hid hr; have HB := hid hb; have hc : w'.cell? ⟨w.heap.size + 1, 10, none⟩ = some (.bool false) := cell_of_row w' _ 10 _ 66 (0, 0) hr; have hf := frozen_of_row w' (w.heap.size + 1) 10 _ 66 hr; clear hr hb)
  go_ret
  exact ⟨rfl, row_set HR.out 10 _, HB.out.setCell (p := ⟨w.heap.size + 1, 10, none⟩) (by simp) _⟩
end Go.Proofs.Qxb6615981aDoor
