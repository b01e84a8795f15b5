import Derived.Test.Qxb6615981aDoorQ5
namespace Go.Proofs.Qxb6615981aDoor
open Go.RowKit
set_option linter.unusedSimpArgs false
set_option linter.unusedVariables false

/-- A node's fifteen cells. -/
def nodeV (d : Int) (name : ByteArray) (kw : Bool) (op : Int) (text : ByteArray) (hb : Bool) (bn : Int) : Array Value :=
  #[.int .i64 d, .string name, .bool false, .bool kw, .int .u8 op, .string text, .bool false, .bool false, .int .i64 0, .int .u8 0, .bool hb, .int .i64 bn, .string ⟨#[]⟩, .bool false, .int .i64 0]
theorem node_one (d : Int) (name : ByteArray) (kw : Bool) (op : Int) (text : ByteArray) (hb : Bool) (bn : Int) : ∀ u ∈ (nodeV d name kw op text hb bn).toList, u.oneCell' = true := by simp [nodeV, Value.oneCell']

set_option maxRecDepth 100000 in
set_option maxHeartbeats 4000000 in
theorem node_any (b : Nat) (d : Int) (name : ByteArray) (kw : Bool) (op : Int) (text : ByteArray) (ba : Option Addr) (bn bc : Nat) (hb : Bool) (w : World) (h : w.heap[b]? = some (.cells (itV name kw op text (.slice ba bn bc) hb) 66 (0, 0))) :
    Calls Tryd.prog 18 #[.pointer (some ⟨b, 0, none⟩), .int .i64 d] w fun e w' => e = .returned (.agg (nodeV d name kw op text hb bn)) ∧ Below w.heap.size w w' := by
  have i0 : ∀ o, (w.alloc o).cell? ⟨b, 0, none⟩ = some (.string name) := fun o => cell?_alloc_old o (cell_of_row w b 0 _ 66 (0, 0) h)
  have i1 : ∀ o, (w.alloc o).cell? ⟨b, 1, none⟩ = some (.bool false) := fun o => cell?_alloc_old o (cell_of_row w b 1 _ 66 (0, 0) h)
  have i2 : ∀ o, (w.alloc o).cell? ⟨b, 2, none⟩ = some (.bool kw) := fun o => cell?_alloc_old o (cell_of_row w b 2 _ 66 (0, 0) h)
  have i3 : ∀ o, (w.alloc o).cell? ⟨b, 3, none⟩ = some (.int .u8 op) := fun o => cell?_alloc_old o (cell_of_row w b 3 _ 66 (0, 0) h)
  have i4 : ∀ o, (w.alloc o).cell? ⟨b, 4, none⟩ = some (.string text) := fun o => cell?_alloc_old o (cell_of_row w b 4 _ 66 (0, 0) h)
  have i5 : ∀ o, (w.alloc o).cell? ⟨b, 5, none⟩ = some (.bool false) := fun o => cell?_alloc_old o (cell_of_row w b 5 _ 66 (0, 0) h)
  have i6 : ∀ o, (w.alloc o).cell? ⟨b, 6, none⟩ = some (.bool false) := fun o => cell?_alloc_old o (cell_of_row w b 6 _ 66 (0, 0) h)
  have i7 : ∀ o, (w.alloc o).cell? ⟨b, 7, none⟩ = some (.slice none 0 0) := fun o => cell?_alloc_old o (cell_of_row w b 7 _ 66 (0, 0) h)
  have i8 : ∀ o, (w.alloc o).cell? ⟨b, 8, none⟩ = some (.int .u8 0) := fun o => cell?_alloc_old o (cell_of_row w b 8 _ 66 (0, 0) h)
  have i9 : ∀ o, (w.alloc o).cell? ⟨b, 9, none⟩ = some (.slice ba bn bc) := fun o => cell?_alloc_old o (cell_of_row w b 9 _ 66 (0, 0) h)
  have i10 : ∀ o, (w.alloc o).cell? ⟨b, 10, none⟩ = some (.bool hb) := fun o => cell?_alloc_old o (cell_of_row w b 10 _ 66 (0, 0) h)
  have i11 : ∀ o, (w.alloc o).cell? ⟨b, 11, none⟩ = some (.string ⟨#[]⟩) := fun o => cell?_alloc_old o (cell_of_row w b 11 _ 66 (0, 0) h)
  have i12 : ∀ o, (w.alloc o).cell? ⟨b, 12, none⟩ = some (.bool false) := fun o => cell?_alloc_old o (cell_of_row w b 12 _ 66 (0, 0) h)
  have i13 : ∀ o, (w.alloc o).cell? ⟨b, 13, none⟩ = some (.int .i64 0) := fun o => cell?_alloc_old o (cell_of_row w b 13 _ 66 (0, 0) h)
  clear h
  go_enter Tryd.func18, Tryd.ntmps18
  go_wp2_with go_in
  exact bodyPost_ret (v := .agg (nodeV d name kw op text hb bn)) (by simp [results, Tryd.results18, go_sem, nodeV]) rfl ⟨rfl, (Below.refl _ _).alloc (Nat.le_refl _) _⟩

set_option maxHeartbeats 1000000 in
theorem blockAt_any (b : Nat) (i : Nat) (g bn bc : Nat) (p : Nat) (w : World) (hi : i < bn) (h : w.cell? ⟨b, 9, none⟩ = some (.slice (some ⟨g, 0, none⟩) bn bc)) (hp : w.cell? ⟨g, i, none⟩ = some (.pointer (some ⟨p, 0, none⟩))) :
    Calls Tryd.prog 19 #[.pointer (some ⟨b, 0, none⟩), .int .i64 i] w fun e w' => e = .returned (.pointer (some ⟨p, 0, none⟩)) ∧ w' = w := by
  go_enter Tryd.func19, Tryd.ntmps19
  go_wp2
  go_ret
  exact ⟨rfl, rfl⟩
end Go.Proofs.Qxb6615981aDoor
