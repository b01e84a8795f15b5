import Derived.Test.Qxb6615875aDoorA4
import Derived.Test.Qxb6615875aDoorN1
namespace Go.Proofs.Qxb6615875aDoor
open Go.RowKit
set_option linter.unusedSimpArgs false
set_option linter.unusedVariables false

/-- The three handles. -/
structure Z3 (w : World) (p4 p6 : Addr) : Prop where
  z : Zs w p4 p6
  z0 : w.cell? ⟨2, 0, none⟩ = some (.pointer none)
theorem Z3.below {w w' : World} {p4 p6 : Addr} (h : Z3 w p4 p6) (hb : Below w.heap.size w w') : Z3 w' p4 p6 :=
  ⟨h.z.below hb, (hb.cell (p := ⟨2, 0, none⟩) (block_lt_of_cell (a := ⟨2, 0, none⟩) h.z0)).trans h.z0⟩
theorem Z3.alloc {w : World} {p4 p6 : Addr} (h : Z3 w p4 p6) (o : Obj) : Z3 (w.alloc o) p4 p6 := h.below ((Below.refl _ _).alloc (Nat.le_refl _) o)

theorem heapOld4 {w : World} {k : Nat} {o : Obj} (h : w.heap[k]? = some o) (x : Obj) : (w.alloc x).heap[k]? = some o := by
  rw [Below.heap_alloc _ _ _ (heap_lt h)]; exact h
theorem cells3 {W : World} {b t : Nat} {x y z : Value} (h : W.heap[b]? = some (.cells #[x, y, z] t (0, 0))) : W.cell? ⟨b, 0, none⟩ = some x ∧ W.cell? ⟨b, 1, none⟩ = some y ∧ W.cell? ⟨b, 2, none⟩ = some z ∧ ∀ o, W.frozen? ⟨b, o, none⟩ = false :=
  ⟨cell_of_row W b 0 _ t (0, 0) h, cell_of_row W b 1 _ t (0, 0) h, cell_of_row W b 2 _ t (0, 0) h, fun o => frozen_of_row W b o _ t h⟩


set_option maxHeartbeats 1000000 in
theorem bitLen_any (is4 : Bool) (hi : Int) (lo : Int) (p4 : Addr) (p6 : Addr) (w : World) (hz : Z3 w p4 p6) : Calls Tryd.prog 46 #[.agg #[.int .u64 hi, .int .u64 lo, .pointer (some (zp p4 p6 is4))]] w fun e w' => e = .returned (.int .i64 (if is4 then 32 else 128)) ∧ Below w.heap.size w w' := by
  have h4 := hz.z.z4
  have h0 := hz.z0
  have hsz : 0 < w.heap.size := block_lt_of_cell (a := ⟨0, 0, none⟩) h4
  have hsz2 : 2 < w.heap.size := block_lt_of_cell (a := ⟨2, 0, none⟩) h0
  have h64 := fun o => (hz.alloc o).z.e64
  have h44 := fun o => ptr_same (w.alloc o) 9998 p4
  have hn4 := fun o => ptr_some_nil (w.alloc o) 9998 p4
  have hn6 := fun o => ptr_some_nil (w.alloc o) 9998 p6
  cases is4
  · show Calls Tryd.prog 46 #[.agg #[.int .u64 hi, .int .u64 lo, .pointer (some p6)]] w _
    go_enter Tryd.func46, Tryd.ntmps46
    go_wp2
    go_ret
    exact ⟨rfl, (Below.refl _ _).alloc (Nat.le_refl _) _⟩
  · show Calls Tryd.prog 46 #[.agg #[.int .u64 hi, .int .u64 lo, .pointer (some p4)]] w _
    go_enter Tryd.func46, Tryd.ntmps46
    go_wp2
    go_ret
    exact ⟨rfl, (Below.refl _ _).alloc (Nat.le_refl _) _⟩

set_option maxHeartbeats 1000000 in
theorem hasZone_any (is4 : Bool) (hi : Int) (lo : Int) (p4 : Addr) (p6 : Addr) (w : World) (hz : Z3 w p4 p6) : Calls Tryd.prog 45 #[.agg #[.int .u64 hi, .int .u64 lo, .pointer (some (zp p4 p6 is4))]] w fun e w' => e = .returned (.bool false) ∧ Below w.heap.size w w' := by
  have h4 := hz.z.z4
  have h6 := hz.z.z6
  have h0 := hz.z0
  have hsz : 0 < w.heap.size := block_lt_of_cell (a := ⟨0, 0, none⟩) h4
  have hsz2 : 2 < w.heap.size := block_lt_of_cell (a := ⟨2, 0, none⟩) h0
  have hsz1 : 1 < w.heap.size := by omega
  have h64 := fun o => (hz.alloc o).z.e64
  have h44 := fun o => ptr_same (w.alloc o) 9998 p4
  have h66 := fun o => ptr_same (w.alloc o) 9998 p6
  have hn4 := fun o => ptr_some_nil (w.alloc o) 9998 p4
  have hn6 := fun o => ptr_some_nil (w.alloc o) 9998 p6
  cases is4
  · show Calls Tryd.prog 45 #[.agg #[.int .u64 hi, .int .u64 lo, .pointer (some p6)]] w _
    go_enter Tryd.func45, Tryd.ntmps45
    go_wp2
    go_ret
    exact ⟨rfl, (Below.refl _ _).alloc (Nat.le_refl _) _⟩
  · show Calls Tryd.prog 45 #[.agg #[.int .u64 hi, .int .u64 lo, .pointer (some p4)]] w _
    go_enter Tryd.func45, Tryd.ntmps45
    go_wp2
    go_ret
    exact ⟨rfl, (Below.refl _ _).alloc (Nat.le_refl _) _⟩

set_option maxHeartbeats 1000000 in
theorem is6_any (is4 : Bool) (hi : Int) (lo : Int) (p4 : Addr) (p6 : Addr) (w : World) (hz : Z3 w p4 p6) : Calls Tryd.prog 57 #[.agg #[.int .u64 hi, .int .u64 lo, .pointer (some (zp p4 p6 is4))]] w fun e w' => e = .returned (.bool (!is4)) ∧ Below w.heap.size w w' := by
  have h4 := hz.z.z4
  have h0 := hz.z0
  have hsz : 0 < w.heap.size := block_lt_of_cell (a := ⟨0, 0, none⟩) h4
  have hsz2 : 2 < w.heap.size := block_lt_of_cell (a := ⟨2, 0, none⟩) h0
  have h64 := fun o => (hz.alloc o).z.e64
  have h44 := fun o => ptr_same (w.alloc o) 9998 p4
  have hn4 := fun o => ptr_some_nil (w.alloc o) 9998 p4
  have hn6 := fun o => ptr_some_nil (w.alloc o) 9998 p6
  cases is4
  · show Calls Tryd.prog 57 #[.agg #[.int .u64 hi, .int .u64 lo, .pointer (some p6)]] w _
    go_enter Tryd.func57, Tryd.ntmps57
    go_wp2
    go_ret
    exact ⟨rfl, (Below.refl _ _).alloc (Nat.le_refl _) _⟩
  · show Calls Tryd.prog 57 #[.agg #[.int .u64 hi, .int .u64 lo, .pointer (some p4)]] w _
    go_enter Tryd.func57, Tryd.ntmps57
    go_wp2
    go_ret
    exact ⟨rfl, (Below.refl _ _).alloc (Nat.le_refl _) _⟩

set_option maxHeartbeats 1000000 in
theorem addrZero_any (is4 : Bool) (hi : Int) (lo : Int) (p4 : Addr) (p6 : Addr) (w : World) (hz : Z3 w p4 p6) : Calls Tryd.prog 55 #[.agg #[.int .u64 hi, .int .u64 lo, .pointer (some (zp p4 p6 is4))]] w fun e w' => e = .returned (.bool false) ∧ Below w.heap.size w w' := by
  have h0 := hz.z0
  have hsz2 : 2 < w.heap.size := block_lt_of_cell (a := ⟨2, 0, none⟩) h0
  have hn := fun o => ptr_some_nil (w.alloc o) 9998 (zp p4 p6 is4)
  go_enter Tryd.func55, Tryd.ntmps55
  go_wp2
  go_ret
  exact ⟨rfl, (Below.refl _ _).alloc (Nat.le_refl _) _⟩

set_option maxHeartbeats 1000000 in
theorem withoutZone_any (is4 : Bool) (hi : Int) (lo : Int) (p4 : Addr) (p6 : Addr) (w : World) (hz : Z3 w p4 p6) : Calls Tryd.prog 56 #[.agg #[.int .u64 hi, .int .u64 lo, .pointer (some (zp p4 p6 is4))]] w fun e w' => e = .returned (.agg #[.int .u64 hi, .int .u64 lo, .pointer (some (zp p4 p6 is4))]) ∧ Below w.heap.size w w' := by
  have HZ := hid hz
  have hr2 := heap_alloc_new (w.alloc (.cells #[.int .u64 hi, .int .u64 lo, .pointer (some (zp p4 p6 is4))] 32)) (.cells #[.int .u64 0, .int .u64 0, .pointer none] 32)
  rw [World.size_alloc] at hr2
  have HR1 := hid (heapOld4 (heap_alloc_new w (.cells #[.int .u64 hi, .int .u64 lo, .pointer (some (zp p4 p6 is4))] 32)) (.cells #[.int .u64 0, .int .u64 0, .pointer none] 32))
  have HR2 := hid hr2
  have HB := hid (show Below w.heap.size w ((w.alloc (.cells #[.int .u64 hi, .int .u64 lo, .pointer (some (zp p4 p6 is4))] 32)).alloc (.cells #[.int .u64 0, .int .u64 0, .pointer none] 32)) from ((Below.refl _ _).alloc (Nat.le_refl _) _).alloc (by simp) _)
  clear hz hr2
  cases is4
  · simp only [zp, if_true, Bool.false_eq_true, if_false] at HR1 HR2 HB ⊢
    go_enter Tryd.func56, Tryd.ntmps56
    go_wp2_with (go_at_call 57; refine (is6_any false hi lo p4 p6 _ ((HZ.out.alloc _).alloc _)).mono ?_; rintro e w' ⟨rfl, hb⟩; have hs := hb.size; simp at hs; have hz6 := (((HZ.out.alloc _).alloc _).below hb).z.z6; obtain ⟨c0, c1, c2, cf⟩ := cells3 ((hb.block w.heap.size (by simp; omega)).trans HR1.out); obtain ⟨d0, d1, d2, df⟩ := cells3 ((hb.block (w.heap.size + 1) (by simp)).trans HR2.out); have HBX := hid (HB.out.trans (hb.mono (by simp; omega))); clear hb)
    exact bodyPost_ret (v := .agg #[.int .u64 hi, .int .u64 lo, .pointer (some p6)]) (by simp [results, Tryd.results56, go_sem, c0, c1, c2, d0, d1, d2]) rfl ⟨rfl, ((((HBX.out.setCell (p := ⟨w.heap.size, 2, none⟩) (Nat.le_refl _) _).setCell (p := ⟨w.heap.size + 1, 0, none⟩) (by simp) _).setCell (p := ⟨w.heap.size + 1, 1, none⟩) (by simp) _).setCell (p := ⟨w.heap.size + 1, 2, none⟩) (by simp) _)⟩
  · simp only [zp, if_true, Bool.false_eq_true, if_false] at HR1 HR2 HB ⊢
    go_enter Tryd.func56, Tryd.ntmps56
    go_wp2_with (go_at_call 57; refine (is6_any true hi lo p4 p6 _ ((HZ.out.alloc _).alloc _)).mono ?_; rintro e w' ⟨rfl, hb⟩; have hs := hb.size; simp at hs; have hz6 := (((HZ.out.alloc _).alloc _).below hb).z.z6; obtain ⟨c0, c1, c2, cf⟩ := cells3 ((hb.block w.heap.size (by simp; omega)).trans HR1.out); obtain ⟨d0, d1, d2, df⟩ := cells3 ((hb.block (w.heap.size + 1) (by simp)).trans HR2.out); have HBX := hid (HB.out.trans (hb.mono (by simp; omega))); clear hb)
    exact bodyPost_ret (v := .agg #[.int .u64 hi, .int .u64 lo, .pointer (some p4)]) (by simp [results, Tryd.results56, go_sem, c0, c1, c2, d0, d1, d2]) rfl ⟨rfl, (((HBX.out.setCell (p := ⟨w.heap.size + 1, 0, none⟩) (by simp) _).setCell (p := ⟨w.heap.size + 1, 1, none⟩) (by simp) _).setCell (p := ⟨w.heap.size + 1, 2, none⟩) (by simp) _)⟩

set_option maxHeartbeats 1000000 in
theorem isValid_any (hi lo : Int) (z : Addr) (bp : Int) (w : World) : Calls Tryd.prog 44 #[.agg #[.int .u64 hi, .int .u64 lo, .pointer (some z), .int .u8 bp]] w fun e w' => e = .returned (.bool (decide (0 < bp))) ∧ Below w.heap.size w w' := by
  go_enter Tryd.func44, Tryd.ntmps44
  go_wp2
  go_ret
  exact ⟨rfl, (Below.refl _ _).alloc (Nat.le_refl _) _⟩
set_option maxHeartbeats 1000000 in
theorem pbits_any (hi lo : Int) (z : Addr) (bp : Int) (w : World) (h0 : 0 ≤ bp) (h1 : bp ≤ 255) : Calls Tryd.prog 47 #[.agg #[.int .u64 hi, .int .u64 lo, .pointer (some z), .int .u8 bp]] w fun e w' => e = .returned (.int .i64 (bp - 1)) ∧ Below w.heap.size w w' := by
  go_enter Tryd.func47, Tryd.ntmps47
  go_wp2
  go_ret
  exact ⟨by go_num, (Below.refl _ _).alloc (Nat.le_refl _) _⟩
set_option maxHeartbeats 1000000 in
theorem xor128_any (a b c d : Int) (w : World) : Calls Tryd.prog 48 #[.agg #[.int .u64 a, .int .u64 b], .agg #[.int .u64 c, .int .u64 d]] w fun e w' => e = .returned (.agg #[.int .u64 (bits .xor .u64 a c), .int .u64 (bits .xor .u64 b d)]) ∧ Below w.heap.size w w' := by
  go_enter Tryd.func48, Tryd.ntmps48
  go_wp2
  exact bodyPost_ret (v := .agg #[.int .u64 (bits .xor .u64 a c), .int .u64 (bits .xor .u64 b d)]) (by simp [results, Tryd.results48, go_sem]) rfl ⟨rfl, (((Below.refl _ _).alloc (Nat.le_refl _) _).alloc (by simp) _).alloc (by simp; omega) _⟩
set_option maxHeartbeats 1000000 in
theorem and128_any (a b c d : Int) (w : World) : Calls Tryd.prog 49 #[.agg #[.int .u64 a, .int .u64 b], .agg #[.int .u64 c, .int .u64 d]] w fun e w' => e = .returned (.agg #[.int .u64 (bits .and .u64 a c), .int .u64 (bits .and .u64 b d)]) ∧ Below w.heap.size w w' := by
  go_enter Tryd.func49, Tryd.ntmps49
  go_wp2
  exact bodyPost_ret (v := .agg #[.int .u64 (bits .and .u64 a c), .int .u64 (bits .and .u64 b d)]) (by simp [results, Tryd.results49, go_sem]) rfl ⟨rfl, (((Below.refl _ _).alloc (Nat.le_refl _) _).alloc (by simp) _).alloc (by simp; omega) _⟩
set_option maxHeartbeats 1000000 in
theorem zero128_any (a b : Int) (w : World) : Calls Tryd.prog 51 #[.agg #[.int .u64 a, .int .u64 b]] w fun e w' => e = .returned (.bool (bits .or .u64 a b == 0)) ∧ Below w.heap.size w w' := by
  go_enter Tryd.func51, Tryd.ntmps51
  go_wp2
  go_ret
  exact ⟨rfl, (Below.refl _ _).alloc (Nat.le_refl _) _⟩
end Go.Proofs.Qxb6615875aDoor
