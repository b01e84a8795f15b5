import Derived.Test.Qxb6615875aDoorN11
import Derived.Test.Qxb6615875aDoorN12
namespace Go.Proofs.Qxb6615875aDoor
open Go.RowKit
set_option linter.unusedSimpArgs false
set_option linter.unusedVariables false
attribute [local go_sem ↓] Go.wp_at_zero Go.wp_at_succ

set_option maxRecDepth 100000 in
set_option maxHeartbeats 2000000 in
theorem law5_out_a (proto : Int) (iif oif : ByteArray) (sis4 : Bool) (sb : Nat → UInt8) (dis4 : Bool) (db : Nat → UInt8) (ad : Option Addr) (n c : Nat) (at_ : Int) (x : LP) (p4 p6 : Addr) (w : World) (hz : Z3 w p4 p6) (m1 : iif.size ≤ maxLen) (m2 : oif.size ≤ maxLen) (m3 : n ≤ maxLen) (g : 65536 < iif.size) :
    Calls Tryd.prog 5 #[.int .u8 proto, .string iif, .string oif, .bool sis4, .agg (cells16 sb), .bool dis4, .agg (cells16 db), .slice ad n c, .int .i64 at_, .agg x.v] w fun e w' => e = .returned (.bool true) ∧ Below w.heap.size w w' := by
  have M1 := hid m1
  have M2 := hid m2
  have M3 := hid m3
  clear m1 m2 m3
  have hW0s : (((w.alloc (.cells (cells16 sb) 22)).alloc (.cells (cells16 db) 22)).alloc (.cells x.v 55)).heap.size = w.heap.size + 3 := by simp
  have hT : Three w (((w.alloc (.cells (cells16 sb) 22)).alloc (.cells (cells16 db) 22)).alloc (.cells x.v 55)) (((w.alloc (.cells (cells16 sb) 22)).alloc (.cells (cells16 db) 22)).alloc (.cells x.v 55)) sb db p4 p6 := by
    refine ⟨Below.refl _ _, Nat.le_of_eq hW0s.symm, heapOld4 (heapOld4 (heap_alloc_new _ _) _) _, ?_, (((hz.alloc _).alloc _).alloc _).z⟩
    have := heap_alloc_new (w.alloc (.cells (cells16 sb) 22)) (.cells (cells16 db) 22)
    rw [World.size_alloc] at this
    exact heapOld4 this _
  have hX : (((w.alloc (.cells (cells16 sb) 22)).alloc (.cells (cells16 db) 22)).alloc (.cells x.v 55)).heap[w.heap.size + 2]? = some (.cells x.v 55 (0, 0)) := by
    have := heap_alloc_new ((w.alloc (.cells (cells16 sb) 22)).alloc (.cells (cells16 db) 22)) (.cells x.v 55)
    rw [World.size_alloc, World.size_alloc] at this
    exact this
  have hZ0 : Z3 (((w.alloc (.cells (cells16 sb) 22)).alloc (.cells (cells16 db) 22)).alloc (.cells x.v 55)) p4 p6 := ((hz.alloc _).alloc _).alloc _
  have hB0 : Below w.heap.size w (((w.alloc (.cells (cells16 sb) 22)).alloc (.cells (cells16 db) 22)).alloc (.cells x.v 55)) := (((Below.refl _ _).alloc (Nat.le_refl _) _).alloc (by simp) _).alloc (by simp; omega) _
  obtain ⟨W0, hW0⟩ : ∃ W0, (((w.alloc (.cells (cells16 sb) 22)).alloc (.cells (cells16 db) 22)).alloc (.cells x.v 55)) = W0 := ⟨_, rfl⟩
  go_enter Tryd.func5, Tryd.ntmps5
  go_upto_region 1 with fail
  rw [hW0] at hW0s hT hX hZ0 hB0
  try rw [hW0]
  have HT := hid hT
  have HX := hid hX
  have HB0 := hid hB0
  clear hT hX hZ0 hB0 hz hW0
  go_wp2_with (first
    | (refine wpList_load_row rfl 22 (.tmp 14) rfl w.heap.size rfl 22 (cells16 sb) (0, 0) _ HT.out.s Tryd.underlying22 rfl (size22' sb) ?_)
    | (refine wpList_load_row rfl 22 (.tmp 16) rfl (w.heap.size + 1) rfl 22 (cells16 db) (0, 0) _ HT.out.d Tryd.underlying22 rfl (size22' db) ?_)
    | (refine wpList_load_row rfl 55 (.tmp 19) rfl (w.heap.size + 2) rfl 55 x.v (0, 0) _ HX.out Tryd.underlying55 rfl sz55 ?_)
    | (go_at_call 12; refine (bytes12_any proto iif oif sis4 sb dis4 db ad n c at_ x _ M1.out M2.out M3.out).mono ?_; rintro e w1 ⟨⟨bb, rfl⟩, hb1⟩; have HB1 := hid (HB0.out.trans (hb1.mono HB0.out.size)); clear hb1; cases bb))
  all_goals
    go_ret
    exact ⟨rfl, HB1.out⟩

set_option maxRecDepth 100000 in
set_option maxHeartbeats 2000000 in
theorem law5_out_b (proto : Int) (iif oif : ByteArray) (sis4 : Bool) (sb : Nat → UInt8) (dis4 : Bool) (db : Nat → UInt8) (ad : Option Addr) (n c : Nat) (at_ : Int) (x : LP) (p4 p6 : Addr) (w : World) (hz : Z3 w p4 p6) (m1 : iif.size ≤ maxLen) (m2 : oif.size ≤ maxLen) (m3 : n ≤ maxLen) (g0 : ¬ 65536 < iif.size) (g : 65536 < oif.size) :
    Calls Tryd.prog 5 #[.int .u8 proto, .string iif, .string oif, .bool sis4, .agg (cells16 sb), .bool dis4, .agg (cells16 db), .slice ad n c, .int .i64 at_, .agg x.v] w fun e w' => e = .returned (.bool true) ∧ Below w.heap.size w w' := by
  have M1 := hid m1
  have M2 := hid m2
  have M3 := hid m3
  clear m1 m2 m3
  have hW0s : (((w.alloc (.cells (cells16 sb) 22)).alloc (.cells (cells16 db) 22)).alloc (.cells x.v 55)).heap.size = w.heap.size + 3 := by simp
  have hT : Three w (((w.alloc (.cells (cells16 sb) 22)).alloc (.cells (cells16 db) 22)).alloc (.cells x.v 55)) (((w.alloc (.cells (cells16 sb) 22)).alloc (.cells (cells16 db) 22)).alloc (.cells x.v 55)) sb db p4 p6 := by
    refine ⟨Below.refl _ _, Nat.le_of_eq hW0s.symm, heapOld4 (heapOld4 (heap_alloc_new _ _) _) _, ?_, (((hz.alloc _).alloc _).alloc _).z⟩
    have := heap_alloc_new (w.alloc (.cells (cells16 sb) 22)) (.cells (cells16 db) 22)
    rw [World.size_alloc] at this
    exact heapOld4 this _
  have hX : (((w.alloc (.cells (cells16 sb) 22)).alloc (.cells (cells16 db) 22)).alloc (.cells x.v 55)).heap[w.heap.size + 2]? = some (.cells x.v 55 (0, 0)) := by
    have := heap_alloc_new ((w.alloc (.cells (cells16 sb) 22)).alloc (.cells (cells16 db) 22)) (.cells x.v 55)
    rw [World.size_alloc, World.size_alloc] at this
    exact this
  have hZ0 : Z3 (((w.alloc (.cells (cells16 sb) 22)).alloc (.cells (cells16 db) 22)).alloc (.cells x.v 55)) p4 p6 := ((hz.alloc _).alloc _).alloc _
  have hB0 : Below w.heap.size w (((w.alloc (.cells (cells16 sb) 22)).alloc (.cells (cells16 db) 22)).alloc (.cells x.v 55)) := (((Below.refl _ _).alloc (Nat.le_refl _) _).alloc (by simp) _).alloc (by simp; omega) _
  obtain ⟨W0, hW0⟩ : ∃ W0, (((w.alloc (.cells (cells16 sb) 22)).alloc (.cells (cells16 db) 22)).alloc (.cells x.v 55)) = W0 := ⟨_, rfl⟩
  go_enter Tryd.func5, Tryd.ntmps5
  go_upto_region 1 with fail
  rw [hW0] at hW0s hT hX hZ0 hB0
  try rw [hW0]
  have HT := hid hT
  have HX := hid hX
  have HB0 := hid hB0
  clear hT hX hZ0 hB0 hz hW0
  go_wp2_with (first
    | (refine wpList_load_row rfl 22 (.tmp 14) rfl w.heap.size rfl 22 (cells16 sb) (0, 0) _ HT.out.s Tryd.underlying22 rfl (size22' sb) ?_)
    | (refine wpList_load_row rfl 22 (.tmp 16) rfl (w.heap.size + 1) rfl 22 (cells16 db) (0, 0) _ HT.out.d Tryd.underlying22 rfl (size22' db) ?_)
    | (refine wpList_load_row rfl 55 (.tmp 19) rfl (w.heap.size + 2) rfl 55 x.v (0, 0) _ HX.out Tryd.underlying55 rfl sz55 ?_)
    | (go_at_call 12; refine (bytes12_any proto iif oif sis4 sb dis4 db ad n c at_ x _ M1.out M2.out M3.out).mono ?_; rintro e w1 ⟨⟨bb, rfl⟩, hb1⟩; have HB1 := hid (HB0.out.trans (hb1.mono HB0.out.size)); clear hb1; cases bb))
  all_goals
    go_ret
    exact ⟨rfl, HB1.out⟩

set_option maxRecDepth 100000 in
set_option maxHeartbeats 2000000 in
theorem law5_out_c (proto : Int) (iif oif : ByteArray) (sis4 : Bool) (sb : Nat → UInt8) (dis4 : Bool) (db : Nat → UInt8) (ad : Option Addr) (n c : Nat) (at_ : Int) (x : LP) (p4 p6 : Addr) (w : World) (hz : Z3 w p4 p6) (m1 : iif.size ≤ maxLen) (m2 : oif.size ≤ maxLen) (m3 : n ≤ maxLen) (g0 : ¬ 65536 < iif.size) (g1 : ¬ 65536 < oif.size) (g : 4096 < n) :
    Calls Tryd.prog 5 #[.int .u8 proto, .string iif, .string oif, .bool sis4, .agg (cells16 sb), .bool dis4, .agg (cells16 db), .slice ad n c, .int .i64 at_, .agg x.v] w fun e w' => e = .returned (.bool true) ∧ Below w.heap.size w w' := by
  have M1 := hid m1
  have M2 := hid m2
  have M3 := hid m3
  clear m1 m2 m3
  have hW0s : (((w.alloc (.cells (cells16 sb) 22)).alloc (.cells (cells16 db) 22)).alloc (.cells x.v 55)).heap.size = w.heap.size + 3 := by simp
  have hT : Three w (((w.alloc (.cells (cells16 sb) 22)).alloc (.cells (cells16 db) 22)).alloc (.cells x.v 55)) (((w.alloc (.cells (cells16 sb) 22)).alloc (.cells (cells16 db) 22)).alloc (.cells x.v 55)) sb db p4 p6 := by
    refine ⟨Below.refl _ _, Nat.le_of_eq hW0s.symm, heapOld4 (heapOld4 (heap_alloc_new _ _) _) _, ?_, (((hz.alloc _).alloc _).alloc _).z⟩
    have := heap_alloc_new (w.alloc (.cells (cells16 sb) 22)) (.cells (cells16 db) 22)
    rw [World.size_alloc] at this
    exact heapOld4 this _
  have hX : (((w.alloc (.cells (cells16 sb) 22)).alloc (.cells (cells16 db) 22)).alloc (.cells x.v 55)).heap[w.heap.size + 2]? = some (.cells x.v 55 (0, 0)) := by
    have := heap_alloc_new ((w.alloc (.cells (cells16 sb) 22)).alloc (.cells (cells16 db) 22)) (.cells x.v 55)
    rw [World.size_alloc, World.size_alloc] at this
    exact this
  have hZ0 : Z3 (((w.alloc (.cells (cells16 sb) 22)).alloc (.cells (cells16 db) 22)).alloc (.cells x.v 55)) p4 p6 := ((hz.alloc _).alloc _).alloc _
  have hB0 : Below w.heap.size w (((w.alloc (.cells (cells16 sb) 22)).alloc (.cells (cells16 db) 22)).alloc (.cells x.v 55)) := (((Below.refl _ _).alloc (Nat.le_refl _) _).alloc (by simp) _).alloc (by simp; omega) _
  obtain ⟨W0, hW0⟩ : ∃ W0, (((w.alloc (.cells (cells16 sb) 22)).alloc (.cells (cells16 db) 22)).alloc (.cells x.v 55)) = W0 := ⟨_, rfl⟩
  go_enter Tryd.func5, Tryd.ntmps5
  go_upto_region 1 with fail
  rw [hW0] at hW0s hT hX hZ0 hB0
  try rw [hW0]
  have HT := hid hT
  have HX := hid hX
  have HB0 := hid hB0
  clear hT hX hZ0 hB0 hz hW0
  go_wp2_with (first
    | (refine wpList_load_row rfl 22 (.tmp 14) rfl w.heap.size rfl 22 (cells16 sb) (0, 0) _ HT.out.s Tryd.underlying22 rfl (size22' sb) ?_)
    | (refine wpList_load_row rfl 22 (.tmp 16) rfl (w.heap.size + 1) rfl 22 (cells16 db) (0, 0) _ HT.out.d Tryd.underlying22 rfl (size22' db) ?_)
    | (refine wpList_load_row rfl 55 (.tmp 19) rfl (w.heap.size + 2) rfl 55 x.v (0, 0) _ HX.out Tryd.underlying55 rfl sz55 ?_)
    | (go_at_call 12; refine (bytes12_any proto iif oif sis4 sb dis4 db ad n c at_ x _ M1.out M2.out M3.out).mono ?_; rintro e w1 ⟨⟨bb, rfl⟩, hb1⟩; have HB1 := hid (HB0.out.trans (hb1.mono HB0.out.size)); clear hb1; cases bb))
  all_goals
    go_ret
    exact ⟨rfl, HB1.out⟩

set_option maxRecDepth 100000 in
set_option maxHeartbeats 2000000 in
theorem law5_out_d (proto : Int) (iif oif : ByteArray) (sis4 : Bool) (sb : Nat → UInt8) (dis4 : Bool) (db : Nat → UInt8) (ad : Option Addr) (n c : Nat) (at_ : Int) (x : LP) (p4 p6 : Addr) (w : World) (hz : Z3 w p4 p6) (m1 : iif.size ≤ maxLen) (m2 : oif.size ≤ maxLen) (m3 : n ≤ maxLen) (g0 : ¬ 65536 < iif.size) (g1 : ¬ 65536 < oif.size) (g2 : ¬ 4096 < n) (g : at_ < 0) :
    Calls Tryd.prog 5 #[.int .u8 proto, .string iif, .string oif, .bool sis4, .agg (cells16 sb), .bool dis4, .agg (cells16 db), .slice ad n c, .int .i64 at_, .agg x.v] w fun e w' => e = .returned (.bool true) ∧ Below w.heap.size w w' := by
  have M1 := hid m1
  have M2 := hid m2
  have M3 := hid m3
  clear m1 m2 m3
  have hW0s : (((w.alloc (.cells (cells16 sb) 22)).alloc (.cells (cells16 db) 22)).alloc (.cells x.v 55)).heap.size = w.heap.size + 3 := by simp
  have hT : Three w (((w.alloc (.cells (cells16 sb) 22)).alloc (.cells (cells16 db) 22)).alloc (.cells x.v 55)) (((w.alloc (.cells (cells16 sb) 22)).alloc (.cells (cells16 db) 22)).alloc (.cells x.v 55)) sb db p4 p6 := by
    refine ⟨Below.refl _ _, Nat.le_of_eq hW0s.symm, heapOld4 (heapOld4 (heap_alloc_new _ _) _) _, ?_, (((hz.alloc _).alloc _).alloc _).z⟩
    have := heap_alloc_new (w.alloc (.cells (cells16 sb) 22)) (.cells (cells16 db) 22)
    rw [World.size_alloc] at this
    exact heapOld4 this _
  have hX : (((w.alloc (.cells (cells16 sb) 22)).alloc (.cells (cells16 db) 22)).alloc (.cells x.v 55)).heap[w.heap.size + 2]? = some (.cells x.v 55 (0, 0)) := by
    have := heap_alloc_new ((w.alloc (.cells (cells16 sb) 22)).alloc (.cells (cells16 db) 22)) (.cells x.v 55)
    rw [World.size_alloc, World.size_alloc] at this
    exact this
  have hZ0 : Z3 (((w.alloc (.cells (cells16 sb) 22)).alloc (.cells (cells16 db) 22)).alloc (.cells x.v 55)) p4 p6 := ((hz.alloc _).alloc _).alloc _
  have hB0 : Below w.heap.size w (((w.alloc (.cells (cells16 sb) 22)).alloc (.cells (cells16 db) 22)).alloc (.cells x.v 55)) := (((Below.refl _ _).alloc (Nat.le_refl _) _).alloc (by simp) _).alloc (by simp; omega) _
  obtain ⟨W0, hW0⟩ : ∃ W0, (((w.alloc (.cells (cells16 sb) 22)).alloc (.cells (cells16 db) 22)).alloc (.cells x.v 55)) = W0 := ⟨_, rfl⟩
  go_enter Tryd.func5, Tryd.ntmps5
  go_upto_region 1 with fail
  rw [hW0] at hW0s hT hX hZ0 hB0
  try rw [hW0]
  have HT := hid hT
  have HX := hid hX
  have HB0 := hid hB0
  clear hT hX hZ0 hB0 hz hW0
  go_wp2_with (first
    | (refine wpList_load_row rfl 22 (.tmp 14) rfl w.heap.size rfl 22 (cells16 sb) (0, 0) _ HT.out.s Tryd.underlying22 rfl (size22' sb) ?_)
    | (refine wpList_load_row rfl 22 (.tmp 16) rfl (w.heap.size + 1) rfl 22 (cells16 db) (0, 0) _ HT.out.d Tryd.underlying22 rfl (size22' db) ?_)
    | (refine wpList_load_row rfl 55 (.tmp 19) rfl (w.heap.size + 2) rfl 55 x.v (0, 0) _ HX.out Tryd.underlying55 rfl sz55 ?_)
    | (go_at_call 12; refine (bytes12_any proto iif oif sis4 sb dis4 db ad n c at_ x _ M1.out M2.out M3.out).mono ?_; rintro e w1 ⟨⟨bb, rfl⟩, hb1⟩; have HB1 := hid (HB0.out.trans (hb1.mono HB0.out.size)); clear hb1; cases bb))
  all_goals
    go_ret
    exact ⟨rfl, HB1.out⟩

set_option maxRecDepth 100000 in
set_option maxHeartbeats 2000000 in
theorem law5_out_e (proto : Int) (iif oif : ByteArray) (sis4 : Bool) (sb : Nat → UInt8) (dis4 : Bool) (db : Nat → UInt8) (ad : Option Addr) (n c : Nat) (at_ : Int) (x : LP) (p4 p6 : Addr) (w : World) (hz : Z3 w p4 p6) (m1 : iif.size ≤ maxLen) (m2 : oif.size ≤ maxLen) (m3 : n ≤ maxLen) (g0 : ¬ 65536 < iif.size) (g1 : ¬ 65536 < oif.size) (g2 : ¬ 4096 < n) (g3 : 0 ≤ at_) (g : (n : Int) < at_) :
    Calls Tryd.prog 5 #[.int .u8 proto, .string iif, .string oif, .bool sis4, .agg (cells16 sb), .bool dis4, .agg (cells16 db), .slice ad n c, .int .i64 at_, .agg x.v] w fun e w' => e = .returned (.bool true) ∧ Below w.heap.size w w' := by
  have M1 := hid m1
  have M2 := hid m2
  have M3 := hid m3
  clear m1 m2 m3
  have hW0s : (((w.alloc (.cells (cells16 sb) 22)).alloc (.cells (cells16 db) 22)).alloc (.cells x.v 55)).heap.size = w.heap.size + 3 := by simp
  have hT : Three w (((w.alloc (.cells (cells16 sb) 22)).alloc (.cells (cells16 db) 22)).alloc (.cells x.v 55)) (((w.alloc (.cells (cells16 sb) 22)).alloc (.cells (cells16 db) 22)).alloc (.cells x.v 55)) sb db p4 p6 := by
    refine ⟨Below.refl _ _, Nat.le_of_eq hW0s.symm, heapOld4 (heapOld4 (heap_alloc_new _ _) _) _, ?_, (((hz.alloc _).alloc _).alloc _).z⟩
    have := heap_alloc_new (w.alloc (.cells (cells16 sb) 22)) (.cells (cells16 db) 22)
    rw [World.size_alloc] at this
    exact heapOld4 this _
  have hX : (((w.alloc (.cells (cells16 sb) 22)).alloc (.cells (cells16 db) 22)).alloc (.cells x.v 55)).heap[w.heap.size + 2]? = some (.cells x.v 55 (0, 0)) := by
    have := heap_alloc_new ((w.alloc (.cells (cells16 sb) 22)).alloc (.cells (cells16 db) 22)) (.cells x.v 55)
    rw [World.size_alloc, World.size_alloc] at this
    exact this
  have hZ0 : Z3 (((w.alloc (.cells (cells16 sb) 22)).alloc (.cells (cells16 db) 22)).alloc (.cells x.v 55)) p4 p6 := ((hz.alloc _).alloc _).alloc _
  have hB0 : Below w.heap.size w (((w.alloc (.cells (cells16 sb) 22)).alloc (.cells (cells16 db) 22)).alloc (.cells x.v 55)) := (((Below.refl _ _).alloc (Nat.le_refl _) _).alloc (by simp) _).alloc (by simp; omega) _
  obtain ⟨W0, hW0⟩ : ∃ W0, (((w.alloc (.cells (cells16 sb) 22)).alloc (.cells (cells16 db) 22)).alloc (.cells x.v 55)) = W0 := ⟨_, rfl⟩
  go_enter Tryd.func5, Tryd.ntmps5
  go_upto_region 1 with fail
  rw [hW0] at hW0s hT hX hZ0 hB0
  try rw [hW0]
  have HT := hid hT
  have HX := hid hX
  have HB0 := hid hB0
  clear hT hX hZ0 hB0 hz hW0
  go_wp2_with (first
    | (refine wpList_load_row rfl 22 (.tmp 14) rfl w.heap.size rfl 22 (cells16 sb) (0, 0) _ HT.out.s Tryd.underlying22 rfl (size22' sb) ?_)
    | (refine wpList_load_row rfl 22 (.tmp 16) rfl (w.heap.size + 1) rfl 22 (cells16 db) (0, 0) _ HT.out.d Tryd.underlying22 rfl (size22' db) ?_)
    | (refine wpList_load_row rfl 55 (.tmp 19) rfl (w.heap.size + 2) rfl 55 x.v (0, 0) _ HX.out Tryd.underlying55 rfl sz55 ?_)
    | (go_at_call 12; refine (bytes12_any proto iif oif sis4 sb dis4 db ad n c at_ x _ M1.out M2.out M3.out).mono ?_; rintro e w1 ⟨⟨bb, rfl⟩, hb1⟩; have HB1 := hid (HB0.out.trans (hb1.mono HB0.out.size)); clear hb1; cases bb))
  all_goals
    go_ret
    exact ⟨rfl, HB1.out⟩

/-- What the walk is told of the list: nil, or a row of cells. -/
def IsList (w : World) (ad : Option Addr) (n c : Nat) (ps : Nat → LP) : Prop := (ad = none ∧ n = 0 ∧ c = 0) ∨ ∃ a, ad = some a ∧ n ≤ c ∧ c ≤ maxLen ∧ LstA w a n ps
theorem law5_all (proto : Int) (iif oif : ByteArray) (sis4 : Bool) (sb : Nat → UInt8) (dis4 : Bool) (db : Nat → UInt8) (ad : Option Addr) (n c : Nat) (at_ : Int) (x : LP) (ps : Nat → LP) (p4 p6 : Addr) (w : World) (hz : Z3 w p4 p6) (m1 : iif.size ≤ maxLen) (m2 : oif.size ≤ maxLen) (hl : IsList w ad n c ps) :
    Calls Tryd.prog 5 #[.int .u8 proto, .string iif, .string oif, .bool sis4, .agg (cells16 sb), .bool dis4, .agg (cells16 db), .slice ad n c, .int .i64 at_, .agg x.v] w fun e w' => e = .returned (.bool true) ∧ Below w.heap.size w w' := by
  have m3 : n ≤ maxLen := by
    rcases hl with ⟨_, rfl, _⟩ | ⟨a, _, h1, h2, _⟩
    · exact Nat.zero_le _
    · exact Nat.le_trans h1 h2
  by_cases g0 : 65536 < iif.size
  · exact law5_out_a proto iif oif sis4 sb dis4 db ad n c at_ x p4 p6 w hz m1 m2 m3 g0
  by_cases g1 : 65536 < oif.size
  · exact law5_out_b proto iif oif sis4 sb dis4 db ad n c at_ x p4 p6 w hz m1 m2 m3 g0 g1
  by_cases g2 : 4096 < n
  · exact law5_out_c proto iif oif sis4 sb dis4 db ad n c at_ x p4 p6 w hz m1 m2 m3 g0 g1 g2
  by_cases g3 : at_ < 0
  · exact law5_out_d proto iif oif sis4 sb dis4 db ad n c at_ x p4 p6 w hz m1 m2 m3 g0 g1 g2 g3
  by_cases g4 : (n : Int) < at_
  · exact law5_out_e proto iif oif sis4 sb dis4 db ad n c at_ x p4 p6 w hz m1 m2 m3 g0 g1 g2 (by omega) g4
  obtain ⟨k, rfl⟩ := Int.eq_ofNat_of_zero_le (show 0 ≤ at_ by omega)
  have hk : k ≤ n := by omega
  rcases hl with ⟨rfl, rfl, rfl⟩ | ⟨a, rfl, h1, h2, hl⟩
  · obtain rfl : k = 0 := by omega
    exact law5_nil proto iif oif sis4 sb dis4 db x ps p4 p6 w hz (by omega) (by omega)
  · by_cases hkc : k < c
    · exact law5_lt proto iif oif sis4 sb dis4 db a n c k x ps p4 p6 w hz (by omega) (by omega) (by omega) hk h1 h2 hkc hl
    · obtain rfl : k = n := by omega
      obtain rfl : c = k := by omega
      exact law5_full proto iif oif sis4 sb dis4 db a c x ps p4 p6 w hz (by omega) (by omega) (by omega) hl
end Go.Proofs.Qxb6615875aDoor
