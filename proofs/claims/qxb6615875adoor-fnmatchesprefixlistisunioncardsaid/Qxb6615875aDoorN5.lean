import Derived.Test.Qxb6615875aDoorN4
namespace Go.Proofs.Qxb6615875aDoor
open Go.RowKit
set_option linter.unusedSimpArgs false
set_option linter.unusedVariables false

theorem cells4 {W : World} {b t : Nat} {x y z u : Value} (h : W.heap[b]? = some (.cells #[x, y, z, u] t (0, 0))) : W.cell? ⟨b, 0, none⟩ = some x ∧ W.cell? ⟨b, 1, none⟩ = some y ∧ W.cell? ⟨b, 2, none⟩ = some z ∧ W.cell? ⟨b, 3, none⟩ = some u ∧ ∀ o, W.frozen? ⟨b, o, none⟩ = false :=
  ⟨cell_of_row W b 0 _ t (0, 0) h, cell_of_row W b 1 _ t (0, 0) h, cell_of_row W b 2 _ t (0, 0) h, cell_of_row W b 3 _ t (0, 0) h, fun o => frozen_of_row W b o _ t h⟩

/-- The world of a call that has boxed its argument and laid its result. -/
structure Box2 (w W : World) (r1 : Obj) : Prop where
  bel : Below w.heap.size w W
  r1 : W.heap[w.heap.size]? = some r1
  r2 : W.heap[w.heap.size + 1]? = some (.cells #[.int .u64 0, .int .u64 0, .pointer none, .int .u8 0] 75 (0, 0))
theorem Box2.below {w W V : World} {r1 : Obj} (h : Box2 w W r1) (hb : Below W.heap.size W V) : Box2 w V r1 :=
  ⟨h.bel.trans (hb.mono h.bel.size), (hb.block _ (heap_lt h.r1)).trans h.r1, (hb.block _ (heap_lt h.r2)).trans h.r2⟩
theorem box2_new (w : World) (cs : Array Value) (t : TypeId) : Box2 w ((w.alloc (.cells cs t)).alloc (.cells #[.int .u64 0, .int .u64 0, .pointer none, .int .u8 0] 75)) (.cells cs t (0, 0)) :=
  ⟨((Below.refl _ _).alloc (Nat.le_refl _) _).alloc (by simp) _, heapOld4 (heap_alloc_new _ _) _, by have := heap_alloc_new (w.alloc (.cells cs t)) (.cells #[.int .u64 0, .int .u64 0, .pointer none, .int .u8 0] 75); rw [World.size_alloc] at this; exact this⟩



set_option maxHeartbeats 1000000 in
theorem pfrom_true_in (hi : Int) (lo : Int) (n : Int) (p4 : Addr) (p6 : Addr) (w : World) (hz : Z3 w p4 p6) (h0 : 0 ≤ n) (h1 : n ≤ 32) : Calls Tryd.prog 41 #[.agg #[.int .u64 hi, .int .u64 lo, .pointer (some (zp p4 p6 true))], .int .i64 n] w fun e w' => e = .returned (.agg #[.int .u64 hi, .int .u64 lo, .pointer (some (zp p4 p6 true)), .int .u8 (n + 1)]) ∧ Below w.heap.size w w' := by
  have HX := hid (box2_new w #[.int .u64 hi, .int .u64 lo, .pointer (some (zp p4 p6 true))] 32)
  have HZ := hid ((hz.alloc (.cells #[.int .u64 hi, .int .u64 lo, .pointer (some (zp p4 p6 true))] 32)).alloc (.cells #[.int .u64 0, .int .u64 0, .pointer none, .int .u8 0] 75))
  clear hz
  go_enter Tryd.func41, Tryd.ntmps41
  go_wp2_with (first
    | (go_at_call 55; refine (addrZero_any true hi lo p4 p6 _ HZ.out).mono ?_; rintro e w' ⟨rfl, hb⟩; replace HX := hid (HX.out.below hb); replace HZ := hid (HZ.out.below hb); have hs := HX.out.bel.size; have hlt := heap_lt HX.out.r2; (try clear a0 a1 a2); (try clear d0 d1 d2 d3 df); obtain ⟨a0, a1, a2, _⟩ := cells3 HX.out.r1; obtain ⟨d0, d1, d2, d3, df⟩ := cells4 HX.out.r2; clear hb)
    | (go_at_call 46; refine (bitLen_any true hi lo p4 p6 _ HZ.out).mono ?_; rintro e w' ⟨rfl, hb⟩; replace HX := hid (HX.out.below hb); replace HZ := hid (HZ.out.below hb); have hs := HX.out.bel.size; have hlt := heap_lt HX.out.r2; (try clear a0 a1 a2); (try clear d0 d1 d2 d3 df); obtain ⟨a0, a1, a2, _⟩ := cells3 HX.out.r1; obtain ⟨d0, d1, d2, d3, df⟩ := cells4 HX.out.r2; clear hb)
    | (go_at_call 56; refine (withoutZone_any true hi lo p4 p6 _ HZ.out).mono ?_; rintro e w' ⟨rfl, hb⟩; replace HX := hid (HX.out.below hb); replace HZ := hid (HZ.out.below hb); have hs := HX.out.bel.size; have hlt := heap_lt HX.out.r2; (try clear a0 a1 a2); (try clear d0 d1 d2 d3 df); obtain ⟨a0, a1, a2, _⟩ := cells3 HX.out.r1; obtain ⟨d0, d1, d2, d3, df⟩ := cells4 HX.out.r2; clear hb))
  exact bodyPost_ret (v := .agg #[.int .u64 hi, .int .u64 lo, .pointer (some (zp p4 p6 true)), .int .u8 (n + 1)]) (by simp [results, Tryd.results41, go_sem, d0, d1, d2, d3]) rfl ⟨rfl, ((((HX.out.bel.setCell (p := ⟨w.heap.size + 1, 0, none⟩) (by simp) _).setCell (p := ⟨w.heap.size + 1, 1, none⟩) (by simp) _).setCell (p := ⟨w.heap.size + 1, 2, none⟩) (by simp) _).setCell (p := ⟨w.heap.size + 1, 3, none⟩) (by simp) _)⟩

set_option maxHeartbeats 1000000 in
theorem pfrom_true_neg (hi : Int) (lo : Int) (n : Int) (p4 : Addr) (p6 : Addr) (w : World) (hz : Z3 w p4 p6) (h0 : n < 0) : Calls Tryd.prog 41 #[.agg #[.int .u64 hi, .int .u64 lo, .pointer (some (zp p4 p6 true))], .int .i64 n] w fun e w' => e = .returned (.agg #[.int .u64 hi, .int .u64 lo, .pointer (some (zp p4 p6 true)), .int .u8 0]) ∧ Below w.heap.size w w' := by
  have HX := hid (box2_new w #[.int .u64 hi, .int .u64 lo, .pointer (some (zp p4 p6 true))] 32)
  have HZ := hid ((hz.alloc (.cells #[.int .u64 hi, .int .u64 lo, .pointer (some (zp p4 p6 true))] 32)).alloc (.cells #[.int .u64 0, .int .u64 0, .pointer none, .int .u8 0] 75))
  clear hz
  go_enter Tryd.func41, Tryd.ntmps41
  go_wp2_with (first
    | (go_at_call 55; refine (addrZero_any true hi lo p4 p6 _ HZ.out).mono ?_; rintro e w' ⟨rfl, hb⟩; replace HX := hid (HX.out.below hb); replace HZ := hid (HZ.out.below hb); have hs := HX.out.bel.size; have hlt := heap_lt HX.out.r2; (try clear a0 a1 a2); (try clear d0 d1 d2 d3 df); obtain ⟨a0, a1, a2, _⟩ := cells3 HX.out.r1; obtain ⟨d0, d1, d2, d3, df⟩ := cells4 HX.out.r2; clear hb)
    | (go_at_call 46; refine (bitLen_any true hi lo p4 p6 _ HZ.out).mono ?_; rintro e w' ⟨rfl, hb⟩; replace HX := hid (HX.out.below hb); replace HZ := hid (HZ.out.below hb); have hs := HX.out.bel.size; have hlt := heap_lt HX.out.r2; (try clear a0 a1 a2); (try clear d0 d1 d2 d3 df); obtain ⟨a0, a1, a2, _⟩ := cells3 HX.out.r1; obtain ⟨d0, d1, d2, d3, df⟩ := cells4 HX.out.r2; clear hb)
    | (go_at_call 56; refine (withoutZone_any true hi lo p4 p6 _ HZ.out).mono ?_; rintro e w' ⟨rfl, hb⟩; replace HX := hid (HX.out.below hb); replace HZ := hid (HZ.out.below hb); have hs := HX.out.bel.size; have hlt := heap_lt HX.out.r2; (try clear a0 a1 a2); (try clear d0 d1 d2 d3 df); obtain ⟨a0, a1, a2, _⟩ := cells3 HX.out.r1; obtain ⟨d0, d1, d2, d3, df⟩ := cells4 HX.out.r2; clear hb))
  exact bodyPost_ret (v := .agg #[.int .u64 hi, .int .u64 lo, .pointer (some (zp p4 p6 true)), .int .u8 0]) (by simp [results, Tryd.results41, go_sem, d0, d1, d2, d3]) rfl ⟨rfl, ((((HX.out.bel.setCell (p := ⟨w.heap.size + 1, 0, none⟩) (by simp) _).setCell (p := ⟨w.heap.size + 1, 1, none⟩) (by simp) _).setCell (p := ⟨w.heap.size + 1, 2, none⟩) (by simp) _).setCell (p := ⟨w.heap.size + 1, 3, none⟩) (by simp) _)⟩

set_option maxHeartbeats 1000000 in
theorem pfrom_true_big (hi : Int) (lo : Int) (n : Int) (p4 : Addr) (p6 : Addr) (w : World) (hz : Z3 w p4 p6) (h0 : 0 ≤ n) (h1 : 32 < n) : Calls Tryd.prog 41 #[.agg #[.int .u64 hi, .int .u64 lo, .pointer (some (zp p4 p6 true))], .int .i64 n] w fun e w' => e = .returned (.agg #[.int .u64 hi, .int .u64 lo, .pointer (some (zp p4 p6 true)), .int .u8 0]) ∧ Below w.heap.size w w' := by
  have HX := hid (box2_new w #[.int .u64 hi, .int .u64 lo, .pointer (some (zp p4 p6 true))] 32)
  have HZ := hid ((hz.alloc (.cells #[.int .u64 hi, .int .u64 lo, .pointer (some (zp p4 p6 true))] 32)).alloc (.cells #[.int .u64 0, .int .u64 0, .pointer none, .int .u8 0] 75))
  clear hz
  go_enter Tryd.func41, Tryd.ntmps41
  go_wp2_with (first
    | (go_at_call 55; refine (addrZero_any true hi lo p4 p6 _ HZ.out).mono ?_; rintro e w' ⟨rfl, hb⟩; replace HX := hid (HX.out.below hb); replace HZ := hid (HZ.out.below hb); have hs := HX.out.bel.size; have hlt := heap_lt HX.out.r2; (try clear a0 a1 a2); (try clear d0 d1 d2 d3 df); obtain ⟨a0, a1, a2, _⟩ := cells3 HX.out.r1; obtain ⟨d0, d1, d2, d3, df⟩ := cells4 HX.out.r2; clear hb)
    | (go_at_call 46; refine (bitLen_any true hi lo p4 p6 _ HZ.out).mono ?_; rintro e w' ⟨rfl, hb⟩; replace HX := hid (HX.out.below hb); replace HZ := hid (HZ.out.below hb); have hs := HX.out.bel.size; have hlt := heap_lt HX.out.r2; (try clear a0 a1 a2); (try clear d0 d1 d2 d3 df); obtain ⟨a0, a1, a2, _⟩ := cells3 HX.out.r1; obtain ⟨d0, d1, d2, d3, df⟩ := cells4 HX.out.r2; clear hb)
    | (go_at_call 56; refine (withoutZone_any true hi lo p4 p6 _ HZ.out).mono ?_; rintro e w' ⟨rfl, hb⟩; replace HX := hid (HX.out.below hb); replace HZ := hid (HZ.out.below hb); have hs := HX.out.bel.size; have hlt := heap_lt HX.out.r2; (try clear a0 a1 a2); (try clear d0 d1 d2 d3 df); obtain ⟨a0, a1, a2, _⟩ := cells3 HX.out.r1; obtain ⟨d0, d1, d2, d3, df⟩ := cells4 HX.out.r2; clear hb))
  exact bodyPost_ret (v := .agg #[.int .u64 hi, .int .u64 lo, .pointer (some (zp p4 p6 true)), .int .u8 0]) (by simp [results, Tryd.results41, go_sem, d0, d1, d2, d3]) rfl ⟨rfl, ((((HX.out.bel.setCell (p := ⟨w.heap.size + 1, 0, none⟩) (by simp) _).setCell (p := ⟨w.heap.size + 1, 1, none⟩) (by simp) _).setCell (p := ⟨w.heap.size + 1, 2, none⟩) (by simp) _).setCell (p := ⟨w.heap.size + 1, 3, none⟩) (by simp) _)⟩

set_option maxHeartbeats 1000000 in
theorem pfrom_false_in (hi : Int) (lo : Int) (n : Int) (p4 : Addr) (p6 : Addr) (w : World) (hz : Z3 w p4 p6) (h0 : 0 ≤ n) (h1 : n ≤ 128) : Calls Tryd.prog 41 #[.agg #[.int .u64 hi, .int .u64 lo, .pointer (some (zp p4 p6 false))], .int .i64 n] w fun e w' => e = .returned (.agg #[.int .u64 hi, .int .u64 lo, .pointer (some (zp p4 p6 false)), .int .u8 (n + 1)]) ∧ Below w.heap.size w w' := by
  have HX := hid (box2_new w #[.int .u64 hi, .int .u64 lo, .pointer (some (zp p4 p6 false))] 32)
  have HZ := hid ((hz.alloc (.cells #[.int .u64 hi, .int .u64 lo, .pointer (some (zp p4 p6 false))] 32)).alloc (.cells #[.int .u64 0, .int .u64 0, .pointer none, .int .u8 0] 75))
  clear hz
  go_enter Tryd.func41, Tryd.ntmps41
  go_wp2_with (first
    | (go_at_call 55; refine (addrZero_any false hi lo p4 p6 _ HZ.out).mono ?_; rintro e w' ⟨rfl, hb⟩; replace HX := hid (HX.out.below hb); replace HZ := hid (HZ.out.below hb); have hs := HX.out.bel.size; have hlt := heap_lt HX.out.r2; (try clear a0 a1 a2); (try clear d0 d1 d2 d3 df); obtain ⟨a0, a1, a2, _⟩ := cells3 HX.out.r1; obtain ⟨d0, d1, d2, d3, df⟩ := cells4 HX.out.r2; clear hb)
    | (go_at_call 46; refine (bitLen_any false hi lo p4 p6 _ HZ.out).mono ?_; rintro e w' ⟨rfl, hb⟩; replace HX := hid (HX.out.below hb); replace HZ := hid (HZ.out.below hb); have hs := HX.out.bel.size; have hlt := heap_lt HX.out.r2; (try clear a0 a1 a2); (try clear d0 d1 d2 d3 df); obtain ⟨a0, a1, a2, _⟩ := cells3 HX.out.r1; obtain ⟨d0, d1, d2, d3, df⟩ := cells4 HX.out.r2; clear hb)
    | (go_at_call 56; refine (withoutZone_any false hi lo p4 p6 _ HZ.out).mono ?_; rintro e w' ⟨rfl, hb⟩; replace HX := hid (HX.out.below hb); replace HZ := hid (HZ.out.below hb); have hs := HX.out.bel.size; have hlt := heap_lt HX.out.r2; (try clear a0 a1 a2); (try clear d0 d1 d2 d3 df); obtain ⟨a0, a1, a2, _⟩ := cells3 HX.out.r1; obtain ⟨d0, d1, d2, d3, df⟩ := cells4 HX.out.r2; clear hb))
  exact bodyPost_ret (v := .agg #[.int .u64 hi, .int .u64 lo, .pointer (some (zp p4 p6 false)), .int .u8 (n + 1)]) (by simp [results, Tryd.results41, go_sem, d0, d1, d2, d3]) rfl ⟨rfl, ((((HX.out.bel.setCell (p := ⟨w.heap.size + 1, 0, none⟩) (by simp) _).setCell (p := ⟨w.heap.size + 1, 1, none⟩) (by simp) _).setCell (p := ⟨w.heap.size + 1, 2, none⟩) (by simp) _).setCell (p := ⟨w.heap.size + 1, 3, none⟩) (by simp) _)⟩

set_option maxHeartbeats 1000000 in
theorem pfrom_false_neg (hi : Int) (lo : Int) (n : Int) (p4 : Addr) (p6 : Addr) (w : World) (hz : Z3 w p4 p6) (h0 : n < 0) : Calls Tryd.prog 41 #[.agg #[.int .u64 hi, .int .u64 lo, .pointer (some (zp p4 p6 false))], .int .i64 n] w fun e w' => e = .returned (.agg #[.int .u64 hi, .int .u64 lo, .pointer (some (zp p4 p6 false)), .int .u8 0]) ∧ Below w.heap.size w w' := by
  have HX := hid (box2_new w #[.int .u64 hi, .int .u64 lo, .pointer (some (zp p4 p6 false))] 32)
  have HZ := hid ((hz.alloc (.cells #[.int .u64 hi, .int .u64 lo, .pointer (some (zp p4 p6 false))] 32)).alloc (.cells #[.int .u64 0, .int .u64 0, .pointer none, .int .u8 0] 75))
  clear hz
  go_enter Tryd.func41, Tryd.ntmps41
  go_wp2_with (first
    | (go_at_call 55; refine (addrZero_any false hi lo p4 p6 _ HZ.out).mono ?_; rintro e w' ⟨rfl, hb⟩; replace HX := hid (HX.out.below hb); replace HZ := hid (HZ.out.below hb); have hs := HX.out.bel.size; have hlt := heap_lt HX.out.r2; (try clear a0 a1 a2); (try clear d0 d1 d2 d3 df); obtain ⟨a0, a1, a2, _⟩ := cells3 HX.out.r1; obtain ⟨d0, d1, d2, d3, df⟩ := cells4 HX.out.r2; clear hb)
    | (go_at_call 46; refine (bitLen_any false hi lo p4 p6 _ HZ.out).mono ?_; rintro e w' ⟨rfl, hb⟩; replace HX := hid (HX.out.below hb); replace HZ := hid (HZ.out.below hb); have hs := HX.out.bel.size; have hlt := heap_lt HX.out.r2; (try clear a0 a1 a2); (try clear d0 d1 d2 d3 df); obtain ⟨a0, a1, a2, _⟩ := cells3 HX.out.r1; obtain ⟨d0, d1, d2, d3, df⟩ := cells4 HX.out.r2; clear hb)
    | (go_at_call 56; refine (withoutZone_any false hi lo p4 p6 _ HZ.out).mono ?_; rintro e w' ⟨rfl, hb⟩; replace HX := hid (HX.out.below hb); replace HZ := hid (HZ.out.below hb); have hs := HX.out.bel.size; have hlt := heap_lt HX.out.r2; (try clear a0 a1 a2); (try clear d0 d1 d2 d3 df); obtain ⟨a0, a1, a2, _⟩ := cells3 HX.out.r1; obtain ⟨d0, d1, d2, d3, df⟩ := cells4 HX.out.r2; clear hb))
  exact bodyPost_ret (v := .agg #[.int .u64 hi, .int .u64 lo, .pointer (some (zp p4 p6 false)), .int .u8 0]) (by simp [results, Tryd.results41, go_sem, d0, d1, d2, d3]) rfl ⟨rfl, ((((HX.out.bel.setCell (p := ⟨w.heap.size + 1, 0, none⟩) (by simp) _).setCell (p := ⟨w.heap.size + 1, 1, none⟩) (by simp) _).setCell (p := ⟨w.heap.size + 1, 2, none⟩) (by simp) _).setCell (p := ⟨w.heap.size + 1, 3, none⟩) (by simp) _)⟩

set_option maxHeartbeats 1000000 in
theorem pfrom_false_big (hi : Int) (lo : Int) (n : Int) (p4 : Addr) (p6 : Addr) (w : World) (hz : Z3 w p4 p6) (h0 : 0 ≤ n) (h1 : 128 < n) : Calls Tryd.prog 41 #[.agg #[.int .u64 hi, .int .u64 lo, .pointer (some (zp p4 p6 false))], .int .i64 n] w fun e w' => e = .returned (.agg #[.int .u64 hi, .int .u64 lo, .pointer (some (zp p4 p6 false)), .int .u8 0]) ∧ Below w.heap.size w w' := by
  have HX := hid (box2_new w #[.int .u64 hi, .int .u64 lo, .pointer (some (zp p4 p6 false))] 32)
  have HZ := hid ((hz.alloc (.cells #[.int .u64 hi, .int .u64 lo, .pointer (some (zp p4 p6 false))] 32)).alloc (.cells #[.int .u64 0, .int .u64 0, .pointer none, .int .u8 0] 75))
  clear hz
  go_enter Tryd.func41, Tryd.ntmps41
  go_wp2_with (first
    | (go_at_call 55; refine (addrZero_any false hi lo p4 p6 _ HZ.out).mono ?_; rintro e w' ⟨rfl, hb⟩; replace HX := hid (HX.out.below hb); replace HZ := hid (HZ.out.below hb); have hs := HX.out.bel.size; have hlt := heap_lt HX.out.r2; (try clear a0 a1 a2); (try clear d0 d1 d2 d3 df); obtain ⟨a0, a1, a2, _⟩ := cells3 HX.out.r1; obtain ⟨d0, d1, d2, d3, df⟩ := cells4 HX.out.r2; clear hb)
    | (go_at_call 46; refine (bitLen_any false hi lo p4 p6 _ HZ.out).mono ?_; rintro e w' ⟨rfl, hb⟩; replace HX := hid (HX.out.below hb); replace HZ := hid (HZ.out.below hb); have hs := HX.out.bel.size; have hlt := heap_lt HX.out.r2; (try clear a0 a1 a2); (try clear d0 d1 d2 d3 df); obtain ⟨a0, a1, a2, _⟩ := cells3 HX.out.r1; obtain ⟨d0, d1, d2, d3, df⟩ := cells4 HX.out.r2; clear hb)
    | (go_at_call 56; refine (withoutZone_any false hi lo p4 p6 _ HZ.out).mono ?_; rintro e w' ⟨rfl, hb⟩; replace HX := hid (HX.out.below hb); replace HZ := hid (HZ.out.below hb); have hs := HX.out.bel.size; have hlt := heap_lt HX.out.r2; (try clear a0 a1 a2); (try clear d0 d1 d2 d3 df); obtain ⟨a0, a1, a2, _⟩ := cells3 HX.out.r1; obtain ⟨d0, d1, d2, d3, df⟩ := cells4 HX.out.r2; clear hb))
  exact bodyPost_ret (v := .agg #[.int .u64 hi, .int .u64 lo, .pointer (some (zp p4 p6 false)), .int .u8 0]) (by simp [results, Tryd.results41, go_sem, d0, d1, d2, d3]) rfl ⟨rfl, ((((HX.out.bel.setCell (p := ⟨w.heap.size + 1, 0, none⟩) (by simp) _).setCell (p := ⟨w.heap.size + 1, 1, none⟩) (by simp) _).setCell (p := ⟨w.heap.size + 1, 2, none⟩) (by simp) _).setCell (p := ⟨w.heap.size + 1, 3, none⟩) (by simp) _)⟩
theorem pfrom_any (is4 : Bool) (hi lo n : Int) (p4 p6 : Addr) (w : World) (hz : Z3 w p4 p6) : Calls Tryd.prog 41 #[.agg #[.int .u64 hi, .int .u64 lo, .pointer (some (zp p4 p6 is4))], .int .i64 n] w fun e w' => e = .returned (.agg #[.int .u64 hi, .int .u64 lo, .pointer (some (zp p4 p6 is4)), .int .u8 (bpo is4 n)]) ∧ Below w.heap.size w w' := by
  by_cases h0 : 0 ≤ n
  · cases is4
    · by_cases h1 : n ≤ 128
      · rw [show bpo false n = n + 1 from if_pos ⟨h0, h1⟩]; exact pfrom_false_in hi lo n p4 p6 w hz h0 h1
      · rw [show bpo false n = 0 from if_neg (fun h => h1 h.2)]; exact pfrom_false_big hi lo n p4 p6 w hz h0 (by omega)
    · by_cases h1 : n ≤ 32
      · rw [show bpo true n = n + 1 from if_pos ⟨h0, h1⟩]; exact pfrom_true_in hi lo n p4 p6 w hz h0 h1
      · rw [show bpo true n = 0 from if_neg (fun h => h1 h.2)]; exact pfrom_true_big hi lo n p4 p6 w hz h0 (by omega)
  · rw [show bpo is4 n = 0 from if_neg (fun h => h0 h.1)]
    cases is4
    · exact pfrom_false_neg hi lo n p4 p6 w hz (by omega)
    · exact pfrom_true_neg hi lo n p4 p6 w hz (by omega)

set_option maxHeartbeats 2000000 in
theorem zzp4_any (b : Nat → UInt8) (n : Int) (p4 p6 : Addr) (w : World) (hz : Z3 w p4 p6) : Calls Tryd.prog 33 #[.agg #[.int .u8 (b 0).toNat, .int .u8 (b 1).toNat, .int .u8 (b 2).toNat, .int .u8 (b 3).toNat], .int .i64 n] w fun e w' => e = .returned (.agg #[.int .u64 (ahi true b), .int .u64 (alo true b), .pointer (some (zp p4 p6 true)), .int .u8 (bpo true n)]) ∧ Below w.heap.size w w' := by
  have HX := hid (box2_new w #[.int .u8 (b 0).toNat, .int .u8 (b 1).toNat, .int .u8 (b 2).toNat, .int .u8 (b 3).toNat] 66)
  have HZ := hid ((hz.alloc (.cells #[.int .u8 (b 0).toNat, .int .u8 (b 1).toNat, .int .u8 (b 2).toNat, .int .u8 (b 3).toNat] 66)).alloc (.cells #[.int .u64 0, .int .u64 0, .pointer none, .int .u8 0] 75))
  clear hz
  go_enter Tryd.func33, Tryd.ntmps33
  go_wp2_with (first
    | (go_at_call 26; refine (from4_any (b 0) (b 1) (b 2) (b 3) (some p4) _ HZ.out.z.z4).mono ?_; rintro e w' ⟨rfl, hb⟩; replace HX := hid (HX.out.below hb); replace HZ := hid (HZ.out.below hb); have hs := HX.out.bel.size; have hlt := heap_lt HX.out.r2; (try clear d0 d1 d2 d3 df); obtain ⟨d0, d1, d2, d3, df⟩ := cells4 HX.out.r2; clear hb)
    | (go_at_call 41; refine (pfrom_any true (ahi true b) (alo true b) n p4 p6 _ HZ.out).mono ?_; rintro e w' ⟨rfl, hb⟩; replace HX := hid (HX.out.below hb); replace HZ := hid (HZ.out.below hb); have hs := HX.out.bel.size; have hlt := heap_lt HX.out.r2; (try clear d0 d1 d2 d3 df); obtain ⟨d0, d1, d2, d3, df⟩ := cells4 HX.out.r2; clear hb))
  exact bodyPost_ret (v := .agg #[.int .u64 (ahi true b), .int .u64 (alo true b), .pointer (some (zp p4 p6 true)), .int .u8 (bpo true n)]) (by simp [results, Tryd.results33, go_sem, d0, d1, d2, d3]) rfl ⟨rfl, ((((HX.out.bel.setCell (p := ⟨w.heap.size + 1, 0, none⟩) (by simp) _).setCell (p := ⟨w.heap.size + 1, 1, none⟩) (by simp) _).setCell (p := ⟨w.heap.size + 1, 2, none⟩) (by simp) _).setCell (p := ⟨w.heap.size + 1, 3, none⟩) (by simp) _)⟩

theorem size22b (b : Nat → UInt8) : (Tryd.prog.info? 22).map (·.size) = some (cells16 b).size := by kernel_rfl
set_option maxHeartbeats 2000000 in
theorem zzp16_any (b : Nat → UInt8) (n : Int) (p4 p6 : Addr) (w : World) (hz : Z3 w p4 p6) : Calls Tryd.prog 34 #[.agg (cells16 b), .int .i64 n] w fun e w' => e = .returned (.agg #[.int .u64 (ahi false b), .int .u64 (alo false b), .pointer (some (zp p4 p6 false)), .int .u8 (bpo false n)]) ∧ Below w.heap.size w w' := by
  have HX := hid (box2_new w (cells16 b) 22)
  have HZ := hid ((hz.alloc (.cells (cells16 b) 22)).alloc (.cells #[.int .u64 0, .int .u64 0, .pointer none, .int .u8 0] 75))
  clear hz
  go_enter Tryd.func34, Tryd.ntmps34
  go_wp2_with (first
    | (refine wpList_load_row rfl 22 (.tmp 2) rfl w.heap.size rfl 22 (cells16 b) (0, 0) _ HX.out.r1 Tryd.underlying22 rfl (size22b b) ?_)
    | (go_at_call 27; refine (from16_any b (some p6) _ HZ.out.z.z6).mono ?_; rintro e w' ⟨rfl, hb⟩; replace HX := hid (HX.out.below hb); replace HZ := hid (HZ.out.below hb); have hs := HX.out.bel.size; have hlt := heap_lt HX.out.r2; (try clear d0 d1 d2 d3 df); obtain ⟨d0, d1, d2, d3, df⟩ := cells4 HX.out.r2; clear hb)
    | (go_at_call 41; refine (pfrom_any false (ahi false b) (alo false b) n p4 p6 _ HZ.out).mono ?_; rintro e w' ⟨rfl, hb⟩; replace HX := hid (HX.out.below hb); replace HZ := hid (HZ.out.below hb); have hs := HX.out.bel.size; have hlt := heap_lt HX.out.r2; (try clear d0 d1 d2 d3 df); obtain ⟨d0, d1, d2, d3, df⟩ := cells4 HX.out.r2; clear hb))
  exact bodyPost_ret (v := .agg #[.int .u64 (ahi false b), .int .u64 (alo false b), .pointer (some (zp p4 p6 false)), .int .u8 (bpo false n)]) (by simp [results, Tryd.results34, go_sem, d0, d1, d2, d3]) rfl ⟨rfl, ((((HX.out.bel.setCell (p := ⟨w.heap.size + 1, 0, none⟩) (by simp) _).setCell (p := ⟨w.heap.size + 1, 1, none⟩) (by simp) _).setCell (p := ⟨w.heap.size + 1, 2, none⟩) (by simp) _).setCell (p := ⟨w.heap.size + 1, 3, none⟩) (by simp) _)⟩

/-- Eighteen cells. -/
def lpV (is4 : Bool) (b : Nat → UInt8) (n : Int) : Array Value := #[.bool is4, .int .u8 (b 0).toNat, .int .u8 (b 1).toNat, .int .u8 (b 2).toNat, .int .u8 (b 3).toNat, .int .u8 (b 4).toNat, .int .u8 (b 5).toNat, .int .u8 (b 6).toNat, .int .u8 (b 7).toNat, .int .u8 (b 8).toNat, .int .u8 (b 9).toNat, .int .u8 (b 10).toNat, .int .u8 (b 11).toNat, .int .u8 (b 12).toNat, .int .u8 (b 13).toNat, .int .u8 (b 14).toNat, .int .u8 (b 15).toNat, .int .i64 n]

set_option maxHeartbeats 2000000 in
theorem pof4_any (b : Nat → UInt8) (n : Int) (p4 p6 : Addr) (w : World) (hz : Z3 w p4 p6) : Calls Tryd.prog 24 #[.agg (lpV true b n)] w fun e w' => e = .returned (.agg #[.int .u64 (ahi true b), .int .u64 (alo true b), .pointer (some (zp p4 p6 true)), .int .u8 (bpo true n)]) ∧ Below w.heap.size w w' := by
  have HX := hid (box2_new w #[.bool true, .int .u8 (b 0).toNat, .int .u8 (b 1).toNat, .int .u8 (b 2).toNat, .int .u8 (b 3).toNat, .int .u8 (b 4).toNat, .int .u8 (b 5).toNat, .int .u8 (b 6).toNat, .int .u8 (b 7).toNat, .int .u8 (b 8).toNat, .int .u8 (b 9).toNat, .int .u8 (b 10).toNat, .int .u8 (b 11).toNat, .int .u8 (b 12).toNat, .int .u8 (b 13).toNat, .int .u8 (b 14).toNat, .int .u8 (b 15).toNat, .int .i64 n] 55)
  have HZ := hid ((hz.alloc (.cells #[.bool true, .int .u8 (b 0).toNat, .int .u8 (b 1).toNat, .int .u8 (b 2).toNat, .int .u8 (b 3).toNat, .int .u8 (b 4).toNat, .int .u8 (b 5).toNat, .int .u8 (b 6).toNat, .int .u8 (b 7).toNat, .int .u8 (b 8).toNat, .int .u8 (b 9).toNat, .int .u8 (b 10).toNat, .int .u8 (b 11).toNat, .int .u8 (b 12).toNat, .int .u8 (b 13).toNat, .int .u8 (b 14).toNat, .int .u8 (b 15).toNat, .int .i64 n] 55)).alloc (.cells #[.int .u64 0, .int .u64 0, .pointer none, .int .u8 0] 75))
  clear hz
  unfold lpV
  go_enter Tryd.func24, Tryd.ntmps24
  go_wp2_with (first
    | (go_at_call 33; refine (zzp4_any b n p4 p6 _ HZ.out).mono ?_; rintro e w' ⟨rfl, hb⟩; replace HX := hid (HX.out.below hb); replace HZ := hid (HZ.out.below hb); have hs := HX.out.bel.size; have hlt := heap_lt HX.out.r2; (try clear d0 d1 d2 d3 df); obtain ⟨d0, d1, d2, d3, df⟩ := cells4 HX.out.r2; clear hb))
  exact bodyPost_ret (v := .agg #[.int .u64 (ahi true b), .int .u64 (alo true b), .pointer (some (zp p4 p6 true)), .int .u8 (bpo true n)]) (by simp [results, Tryd.results24, go_sem, d0, d1, d2, d3]) rfl ⟨rfl, ((((HX.out.bel.setCell (p := ⟨w.heap.size + 1, 0, none⟩) (by simp) _).setCell (p := ⟨w.heap.size + 1, 1, none⟩) (by simp) _).setCell (p := ⟨w.heap.size + 1, 2, none⟩) (by simp) _).setCell (p := ⟨w.heap.size + 1, 3, none⟩) (by simp) _)⟩

set_option maxHeartbeats 2000000 in
theorem pof6_any (b : Nat → UInt8) (n : Int) (p4 p6 : Addr) (w : World) (hz : Z3 w p4 p6) : Calls Tryd.prog 24 #[.agg (lpV false b n)] w fun e w' => e = .returned (.agg #[.int .u64 (ahi false b), .int .u64 (alo false b), .pointer (some (zp p4 p6 false)), .int .u8 (bpo false n)]) ∧ Below w.heap.size w w' := by
  have HX := hid (box2_new w #[.bool false, .int .u8 (b 0).toNat, .int .u8 (b 1).toNat, .int .u8 (b 2).toNat, .int .u8 (b 3).toNat, .int .u8 (b 4).toNat, .int .u8 (b 5).toNat, .int .u8 (b 6).toNat, .int .u8 (b 7).toNat, .int .u8 (b 8).toNat, .int .u8 (b 9).toNat, .int .u8 (b 10).toNat, .int .u8 (b 11).toNat, .int .u8 (b 12).toNat, .int .u8 (b 13).toNat, .int .u8 (b 14).toNat, .int .u8 (b 15).toNat, .int .i64 n] 55)
  have HZ := hid ((hz.alloc (.cells #[.bool false, .int .u8 (b 0).toNat, .int .u8 (b 1).toNat, .int .u8 (b 2).toNat, .int .u8 (b 3).toNat, .int .u8 (b 4).toNat, .int .u8 (b 5).toNat, .int .u8 (b 6).toNat, .int .u8 (b 7).toNat, .int .u8 (b 8).toNat, .int .u8 (b 9).toNat, .int .u8 (b 10).toNat, .int .u8 (b 11).toNat, .int .u8 (b 12).toNat, .int .u8 (b 13).toNat, .int .u8 (b 14).toNat, .int .u8 (b 15).toNat, .int .i64 n] 55)).alloc (.cells #[.int .u64 0, .int .u64 0, .pointer none, .int .u8 0] 75))
  clear hz
  unfold lpV
  go_enter Tryd.func24, Tryd.ntmps24
  go_wp2_with (first
    | (go_at_call 34; refine (zzp16_any b n p4 p6 _ HZ.out).mono ?_; rintro e w' ⟨rfl, hb⟩; replace HX := hid (HX.out.below hb); replace HZ := hid (HZ.out.below hb); have hs := HX.out.bel.size; have hlt := heap_lt HX.out.r2; (try clear d0 d1 d2 d3 df); obtain ⟨d0, d1, d2, d3, df⟩ := cells4 HX.out.r2; clear hb))
  exact bodyPost_ret (v := .agg #[.int .u64 (ahi false b), .int .u64 (alo false b), .pointer (some (zp p4 p6 false)), .int .u8 (bpo false n)]) (by simp [results, Tryd.results24, go_sem, d0, d1, d2, d3]) rfl ⟨rfl, ((((HX.out.bel.setCell (p := ⟨w.heap.size + 1, 0, none⟩) (by simp) _).setCell (p := ⟨w.heap.size + 1, 1, none⟩) (by simp) _).setCell (p := ⟨w.heap.size + 1, 2, none⟩) (by simp) _).setCell (p := ⟨w.heap.size + 1, 3, none⟩) (by simp) _)⟩

theorem pof_any (is4 : Bool) (b : Nat → UInt8) (n : Int) (p4 p6 : Addr) (w : World) (hz : Z3 w p4 p6) : Calls Tryd.prog 24 #[.agg (lpV is4 b n)] w fun e w' => e = .returned (.agg #[.int .u64 (ahi is4 b), .int .u64 (alo is4 b), .pointer (some (zp p4 p6 is4)), .int .u8 (bpo is4 n)]) ∧ Below w.heap.size w w' := by
  cases is4
  · exact pof6_any b n p4 p6 w hz
  · exact pof4_any b n p4 p6 w hz

/-- A bit as a number. -/
def bitv (b : Nat → UInt8) (i : Nat) : Int := if bitOf b i then 1 else 0
theorem bitv_eq (b : Nat → UInt8) (i : Nat) : bits .and .u8 (((b (i / 8)).toNat : Int) / 2 ^ (7 - i % 8)) 1 = bitv b i := by
  have h := (b (i / 8)).toNat_lt
  have e : ((b (i / 8)).toNat : Int) / 2 ^ (7 - i % 8) = (((b (i / 8)).toNat / 2 ^ (7 - i % 8) : Nat) : Int) := by simp
  have hle : (b (i / 8)).toNat / 2 ^ (7 - i % 8) ≤ (b (i / 8)).toNat := Nat.div_le_self _ _
  unfold bitv bitOf
  rw [e, Nat.testBit_eq_decide_div_mod_eq]
  generalize (b (i / 8)).toNat / 2 ^ (7 - i % 8) = q at hle ⊢
  have := bits_mask .u8 8 (by decide) wraps_u8 1 (by decide) (q : Int) (by omega) (by omega)
  rw [show (2 : Int) ^ 1 - 1 = 1 by decide] at this
  rw [this]
  by_cases hc : q % 2 = 1
  · rw [decide_eq_true hc, if_pos rfl]; omega
  · rw [decide_eq_false hc, if_neg (by decide)]; omega

set_option maxHeartbeats 1000000 in
theorem zzbit_any (b : Nat → UInt8) (i : Nat) (hi : i < 128) (w : World) : Calls Tryd.prog 25 #[.agg (cells16 b), .int .i64 i] w fun e w' => e = .returned (.int .u8 (bitv b i)) ∧ Below w.heap.size w w' := by
  have hb := byt_new w b 22 (i / 8) (by omega)
  have hq : Int.tdiv (i : Int) 8 = ((i / 8 : Nat) : Int) := rfl
  have hr : Int.tmod (i : Int) 8 = ((i % 8 : Nat) : Int) := rfl
  have hlt : i / 8 < 16 := by omega
  have hs : IntKind.i64.wrap (7 - ((i % 8 : Nat) : Int)) = ((7 - i % 8 : Nat) : Int) := by rw [IntKind.wrap_i64]; omega
  have hmin : min (7 - i % 8) 8 = 7 - i % 8 := by omega
  have he := bitv_eq b i
  go_enter Tryd.func25, Tryd.ntmps25
  go_wp2
  go_ret
  exact ⟨rfl, (Below.refl _ _).alloc (Nat.le_refl _) _⟩
end Go.Proofs.Qxb6615875aDoor
