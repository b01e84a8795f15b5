import Derived.Test.Qxb6615875aDoorA4
import Derived.Deep.MidRow
import Derived.Deep.CutRange
namespace Go.Proofs.Qxb6615875aDoor
open Go.RowKit

def ahi (is4 : Bool) (b : Nat → UInt8) : Int := if is4 then 0 else hi16 b
def alo (is4 : Bool) (b : Nat → UInt8) : Int := if is4 then lo4 (b 0) (b 1) (b 2) (b 3) else lo16 b

theorem zzaddr_any (is4 : Bool) (b : Nat → UInt8) (p4 p6 : Addr) (w : World) (hz : Zs w p4 p6) :
    Calls Tryd.prog 8 #[.bool is4, .agg (cells16 b)] w fun e w' => e = .returned (.agg #[.int .u64 (ahi is4 b), .int .u64 (alo is4 b), .pointer (some (zp p4 p6 is4))]) ∧ Below w.heap.size w w' := by
  cases is4
  · exact zzaddr_16 b (some p6) w hz.z6
  · exact zzaddr_4 b (some p4) w hz.z4

theorem Byt.range {w : World} {g : Nat} {b : Nat → UInt8} (h : Byt w g b) : w.rangeAt g 0 (cells16 b).toList := by
  intro j v hv
  have hj : j < 16 := by
    have := (List.getElem?_eq_some_iff.1 hv).1
    simpa [cells16] using this
  have e := h j hj
  rw [Nat.zero_add, e]
  rcases (show j = 0 ∨ j = 1 ∨ j = 2 ∨ j = 3 ∨ j = 4 ∨ j = 5 ∨ j = 6 ∨ j = 7 ∨ j = 8 ∨ j = 9 ∨ j = 10 ∨ j = 11 ∨ j = 12 ∨ j = 13 ∨ j = 14 ∨ j = 15 by omega) with rfl | rfl | rfl | rfl | rfl | rfl | rfl | rfl | rfl | rfl | rfl | rfl | rfl | rfl | rfl | rfl <;> exact hv

set_option maxHeartbeats 1000000 in
theorem bytes7_in (is4 : Bool) (sb db : Nat → UInt8) (sp dp ty co : Int) (iif oif : ByteArray) (w : World) (h1 : iif.size ≤ 65536) (h2 : oif.size ≤ 65536) :
    Calls Tryd.prog 7 #[.bool is4, .agg (cells16 sb), .agg (cells16 db), .int .u16 sp, .int .u16 dp, .int .u8 ty, .int .u8 co, .string iif, .string oif] w fun e w' => e = .returned (.bool true) ∧ Below w.heap.size w w' := by
  unfold cells16
  go_enter Tryd.func7, Tryd.ntmps7
  go_wp2
  go_ret
  exact ⟨rfl, ((Below.refl _ _).alloc (Nat.le_refl _) _).alloc (by simp) _⟩

set_option maxHeartbeats 1000000 in
theorem bytes7_out (is4 : Bool) (sb db : Nat → UInt8) (sp dp ty co : Int) (iif oif : ByteArray) (w : World) (h1 : iif.size ≤ maxLen) (h2 : oif.size ≤ maxLen) :
    Calls Tryd.prog 7 #[.bool is4, .agg (cells16 sb), .agg (cells16 db), .int .u16 sp, .int .u16 dp, .int .u8 ty, .int .u8 co, .string iif, .string oif] w fun e w' => ∃ b, e = .returned (.bool b) ∧ Below w.heap.size w w' := by
  unfold maxLen at h1 h2
  unfold cells16
  by_cases g1 : 1048576 < iif.size
  · go_enter Tryd.func7, Tryd.ntmps7
    go_wp2
    go_ret
    exact ⟨_, rfl, ((Below.refl _ _).alloc (Nat.le_refl _) _).alloc (by simp) _⟩
  by_cases g2 : 1048576 < oif.size
  · go_enter Tryd.func7, Tryd.ntmps7
    go_wp2
    go_ret
    exact ⟨_, rfl, ((Below.refl _ _).alloc (Nat.le_refl _) _).alloc (by simp) _⟩
  by_cases g3 : 1048576 < iif.size + oif.size
  · go_enter Tryd.func7, Tryd.ntmps7
    go_wp2
    go_ret
    exact ⟨_, rfl, ((Below.refl _ _).alloc (Nat.le_refl _) _).alloc (by simp) _⟩
  go_enter Tryd.func7, Tryd.ntmps7
  go_wp2
  go_ret
  exact ⟨_, rfl, ((Below.refl _ _).alloc (Nat.le_refl _) _).alloc (by simp) _⟩
end Go.Proofs.Qxb6615875aDoor
