import Derived.Test.Qxb6615875aDoorB2
namespace Go.Proofs.Qxb6615875aDoor
open Go.RowKit

/-- Is the text empty? -/
def emp (s : ByteArray) : Bool := s.toList.isEmpty
/-- The way a packet takes. -/
def path (iif oif : ByteArray) : Int := if emp oif then 0 else if emp iif then 2 else 1

set_option maxHeartbeats 1000000 in
theorem path_any (proto sh sl dh dl sp dp ty co : Int) (sz dz : Addr) (iif oif : ByteArray) (w : World) :
    Calls Tryd.prog 29 #[.agg (pkt proto sh sl sz dh dl dz sp dp ty co iif oif)] w fun e w' => e = .returned (.int .i64 (path iif oif)) ∧ Below w.heap.size w w' := by
  unfold pkt path emp
  rcases Bool.eq_false_or_eq_true oif.toList.isEmpty with h1 | h1
  · rw [h1]
    go_enter Tryd.func29, Tryd.ntmps29
    go_wp2
    go_ret
    exact ⟨rfl, (Below.refl _ _).alloc (Nat.le_refl _) _⟩
  rcases Bool.eq_false_or_eq_true iif.toList.isEmpty with h2 | h2
  · rw [h1, h2]
    go_enter Tryd.func29, Tryd.ntmps29
    go_wp2
    go_ret
    exact ⟨rfl, (Below.refl _ _).alloc (Nat.le_refl _) _⟩
  · rw [h1, h2]
    go_enter Tryd.func29, Tryd.ntmps29
    go_wp2
    go_ret
    exact ⟨rfl, (Below.refl _ _).alloc (Nat.le_refl _) _⟩

/-- A side's five cells. -/
def sideV (host : Bool) (iface : ByteArray) (hi lo : Int) (z : Addr) : Array Value := #[.bool host, .string iface, .int .u64 hi, .int .u64 lo, .pointer (some z)]
theorem size82 : (Tryd.prog.info? 82).map (·.size) = some 5 := by kernel_rfl
theorem size32 : (Tryd.prog.info? 32).map (·.size) = some 3 := by kernel_rfl

/-- What the last region of matches reads: the rule's four lists, the two sides, the packet. -/
structure MatIn (w1 : World) (rb sb tb pb : Nat) (inV outV srcV destV : Value) (fs ts pk : Array Value) : Prop where
  i4 : w1.cell? ⟨rb, 4, none⟩ = some inV
  i5 : w1.cell? ⟨rb, 5, none⟩ = some outV
  i6 : w1.cell? ⟨rb, 6, none⟩ = some srcV
  i7 : w1.cell? ⟨rb, 7, none⟩ = some destV
  f : w1.heap[sb]? = some (.cells fs 82 (0, 0))
  t : w1.heap[tb]? = some (.cells ts 82 (0, 0))
  p : w1.heap[pb]? = some (.cells pk 35 (0, 0))

theorem MatIn.below {w1 w2 : World} {rb sb tb pb : Nat} {inV outV srcV destV : Value} {fs ts pk : Array Value} (h : MatIn w1 rb sb tb pb inV outV srcV destV fs ts pk) (hb : Below w1.heap.size w1 w2) : MatIn w2 rb sb tb pb inV outV srcV destV fs ts pk :=
  ⟨(hb.cell (p := ⟨rb, 4, none⟩) (block_lt_of_cell (a := ⟨rb, 4, none⟩) h.i4)).trans h.i4, (hb.cell (p := ⟨rb, 5, none⟩) (block_lt_of_cell (a := ⟨rb, 5, none⟩) h.i5)).trans h.i5,
   (hb.cell (p := ⟨rb, 6, none⟩) (block_lt_of_cell (a := ⟨rb, 6, none⟩) h.i6)).trans h.i6, (hb.cell (p := ⟨rb, 7, none⟩) (block_lt_of_cell (a := ⟨rb, 7, none⟩) h.i7)).trans h.i7,
   (hb.block _ (heap_lt h.f)).trans h.f, (hb.block _ (heap_lt h.t)).trans h.t, (hb.block _ (heap_lt h.p)).trans h.p⟩

theorem mat_new {w w2 : World} {rb : Nat} {inV outV srcV destV : Value} {fs ts pk : Array Value} (hb : Below (w.alloc (.cells pk 35)).heap.size (w.alloc (.cells pk 35)) w2) (hp : w2.heap[w.heap.size]? = some (.cells pk 35 (0, 0)))
    (h4 : w.cell? ⟨rb, 4, none⟩ = some inV) (h5 : w.cell? ⟨rb, 5, none⟩ = some outV) (h6 : w.cell? ⟨rb, 6, none⟩ = some srcV) (h7 : w.cell? ⟨rb, 7, none⟩ = some destV) :
    MatIn ((w2.alloc (.cells fs 82)).alloc (.cells ts 82)) rb w2.heap.size (w2.heap.size + 1) w.heap.size inV outV srcV destV fs ts pk := by
  have hr : rb < w.heap.size := block_lt_of_cell (a := ⟨rb, 4, none⟩) h4
  have hb1 : Below w.heap.size w ((w2.alloc (.cells fs 82)).alloc (.cells ts 82)) :=
    ((((Below.refl _ _).alloc (Nat.le_refl _) (.cells pk 35)).trans (hb.mono (by simp))).alloc (by have := hb.size; simp at this; omega) _).alloc (by have := hb.size; simp at this ⊢; omega) _
  have hs := heap_lt hp
  refine ⟨(hb1.cell (p := ⟨rb, 4, none⟩) hr).trans h4, (hb1.cell (p := ⟨rb, 5, none⟩) hr).trans h5, (hb1.cell (p := ⟨rb, 6, none⟩) hr).trans h6, (hb1.cell (p := ⟨rb, 7, none⟩) hr).trans h7, ?_, ?_, ?_⟩
  · rw [Below.heap_alloc _ _ _ (by simp)]; exact heap_alloc_new _ _
  · have := heap_alloc_new (w2.alloc (.cells fs 82)) (.cells ts 82)
    simpa using this
  · rw [Below.heap_alloc _ _ _ (by simp; omega), Below.heap_alloc _ _ _ hs]; exact hp

theorem range_row {w : World} {g t o n : Nat} {C : Array Value} {cs : List Value} (h : w.heap[g]? = some (.cells C t (0, 0))) (hc : cs = (C.toList.drop o).take n) : w.rangeAt g o cs := by
  subst hc
  intro j v hv
  rw [cell_of_row w g (o + j) _ t (0, 0) h]
  rw [List.getElem?_take] at hv
  split at hv
  · rw [List.getElem?_drop] at hv; simpa using hv
  · cases hv
end Go.Proofs.Qxb6615875aDoor
