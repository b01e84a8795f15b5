import Derived.Test.Qxb6615875aDoorB2
namespace Go.Proofs.Qxb6615875aDoor
open Go.RowKit

set_option maxHeartbeats 2000000 in
theorem law3_out (is4 : Bool) (sb db : Nat → UInt8) (sp dp ty co : Int) (iif oif : ByteArray) (w : World) (m1 : iif.size ≤ maxLen) (m2 : oif.size ≤ maxLen) (h : 65536 < iif.size ∨ 65536 < oif.size) (p4 p6 : Addr) (hz : Zs w p4 p6) :
    Calls Tryd.prog 3 #[.bool is4, .agg (cells16 sb), .agg (cells16 db), .int .u16 sp, .int .u16 dp, .int .u8 ty, .int .u8 co, .string iif, .string oif] w fun e w' => e = .returned (.bool true) ∧ Below w.heap.size w w' := by
  have H0 := hid (two_new w sb db p4 p6 hz)
  have M1 := hid m1
  have M2 := hid m2
  clear hz m1 m2
  have key : ∀ X : Prop, (65536 < iif.size → X) → (¬ 65536 < iif.size → 65536 < oif.size → X) → X := by
    intro X f1 f2
    by_cases g : 65536 < iif.size
    · exact f1 g
    · exact f2 g (by omega)
  clear h
  refine key _ (fun g => ?_) (fun g g' => ?_)
  all_goals
    clear key
    go_enter Tryd.func3, Tryd.ntmps3
    go_wp2_with (first
      | (refine wpList_load_row rfl 22 (.tmp 10) rfl w.heap.size rfl 22 (cells16 sb) (0, 0) _ H0.out.s Tryd.underlying22 rfl (size22' sb) ?_)
      | (refine wpList_load_row rfl 22 (.tmp 11) rfl (w.heap.size + 1) rfl 22 (cells16 db) (0, 0) _ H0.out.d Tryd.underlying22 rfl (size22' db) ?_)
      | (go_at_call 7; refine (bytes7_out is4 sb db sp dp ty co iif oif _ M1.out M2.out).mono ?_; rintro e w1 ⟨bb, rfl, hb1⟩; have HT := hid (H0.out.below hb1); clear hb1 H0; cases bb))
    all_goals
      go_wp2
      go_ret
      exact ⟨rfl, HT.out.bel⟩
end Go.Proofs.Qxb6615875aDoor
