import Derived.Test.Qxb6615875aDoorH6
namespace Go.Proofs.Qxb6615875aDoor
open Go.RowKit
set_option linter.unusedSimpArgs false
set_option linter.unusedVariables false

set_option maxRecDepth 100000 in
set_option maxHeartbeats 4000000 in
theorem law6_out (proto : Int) (iif oif : ByteArray) (is4 : Bool) (sb db : Nat → UInt8) (name : ByteArray) (ia : Option Addr) (il ic : Nat) (ss : Nat → ByteArray) (p4 p6 : Addr) (w : World) (hz : Zs w p4 p6) (hs : Strs w ia il ss) (hm : ∀ i, i < il → (ss i).size ≤ maxLen)
    (m1 : iif.size ≤ maxLen) (m2 : oif.size ≤ maxLen) (m3 : name.size ≤ maxLen) (m4 : il ≤ maxLen) (h : 65536 < iif.size ∨ 65536 < oif.size ∨ 65536 < name.size ∨ 4096 < il) :
    Calls Tryd.prog 6 #[.int .u8 proto, .string iif, .string oif, .bool is4, .agg (cells16 sb), .agg (cells16 db), .string name, .slice ia il ic] w fun e w' => e = .returned (.bool true) ∧ Below w.heap.size w w' := by
  have H0 := hid (two_new w sb db p4 p6 hz)
  have HS0 := hid hs
  have HM0 := hid hm
  have M1 := hid m1
  have M2 := hid m2
  have M3 := hid m3
  have M4 := hid m4
  clear hz hs hm m1 m2 m3 m4
  have key : ∀ X : Prop, (65536 < iif.size → X) → (¬ 65536 < iif.size → 65536 < oif.size → X) → (¬ 65536 < iif.size → ¬ 65536 < oif.size → 65536 < name.size → X) → (¬ 65536 < iif.size → ¬ 65536 < oif.size → ¬ 65536 < name.size → 4096 < il → X) → X := by
    intro X f1 f2 f3 f4
    by_cases g : 65536 < iif.size
    · exact f1 g
    by_cases g2 : 65536 < oif.size
    · exact f2 g g2
    by_cases g3 : 65536 < name.size
    · exact f3 g g2 g3
    · exact f4 g g2 g3 (by omega)
  clear h
  refine key _ (fun g => ?_) (fun g g2 => ?_) (fun g g2 g3 => ?_) (fun g g2 g3 g4 => ?_)
  all_goals
    clear key
    go_enter Tryd.func6, Tryd.ntmps6
    go_wp2_with (first
      | (refine wpList_load_row rfl 22 (.tmp 12) rfl w.heap.size rfl 22 (cells16 sb) (0, 0) _ H0.out.s Tryd.underlying22 rfl (size22' sb) ?_)
      | (refine wpList_load_row rfl 22 (.tmp 13) rfl (w.heap.size + 1) rfl 22 (cells16 db) (0, 0) _ H0.out.d Tryd.underlying22 rfl (size22' db) ?_)
      | (go_at_call 16; refine (bytes16_any proto iif oif is4 sb db name ia il ic ss _ M1.out M2.out M3.out M4.out (HS0.out.below H0.out.bel) HM0.out).mono ?_; rintro e w1 ⟨bb, rfl, hfit, hb1⟩; have HT := hid (H0.out.below hb1); clear hb1 H0 hfit; cases bb))
    all_goals
      go_wp2
      go_ret
      exact ⟨rfl, HT.out.bel⟩

theorem law6_all (proto : Int) (iif oif : ByteArray) (is4 : Bool) (sb db : Nat → UInt8) (name : ByteArray) (ia : Option Addr) (il ic : Nat) (ss : Nat → ByteArray) (p4 p6 : Addr) (w : World) (hz : Zs w p4 p6) (hs : Strs w ia il ss) (hm : ∀ i, i < il → (ss i).size ≤ maxLen)
    (m1 : iif.size ≤ maxLen) (m2 : oif.size ≤ maxLen) (m3 : name.size ≤ maxLen) (m4 : il ≤ maxLen) :
    Calls Tryd.prog 6 #[.int .u8 proto, .string iif, .string oif, .bool is4, .agg (cells16 sb), .agg (cells16 db), .string name, .slice ia il ic] w fun e w' => e = .returned (.bool true) ∧ Below w.heap.size w w' := by
  by_cases h : 65536 < iif.size ∨ 65536 < oif.size ∨ 65536 < name.size ∨ 4096 < il
  · exact law6_out proto iif oif is4 sb db name ia il ic ss p4 p6 w hz hs hm m1 m2 m3 m4 h
  · exact law6_in proto iif oif is4 sb db name ia il ic ss p4 p6 w hz hs hm (by omega) (by omega) (by omega) (by omega)
end Go.Proofs.Qxb6615875aDoor
