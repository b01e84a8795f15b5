import Derived.Test.Qxb6615933aS5
import Derived.BigRegion
namespace Go.Proofs.Qxb6615933a
open Go.RowKit
set_option linter.unusedSimpArgs false
set_option linter.unusedVariables false

set_option maxHeartbeats 4000000 in
theorem newSlice_any (p m : ByteArray) (x : Value) (hx : x = .nilIface ∨ ∃ v, x = .iface 29 v) (g n : Nat) (w : World) (hm : n ≤ 1048576) :
    Calls Try.prog 26 #[.agg #[.string p, .string m, x], .slice (some ⟨g, 0, none⟩) n n] w fun e w' => e = .returned (.agg #[.string p, .string m, x, .slice (some ⟨g, 0, none⟩) n n]) ∧ Below w.heap.size w w' := by
  rcases hx with rfl | ⟨v, rfl⟩
  all_goals
    go_enter Try.func26, Try.ntmps26
    go_wp2
    go_region
    go_wp2
    exact bodyPost_ret (by simp [results, Try.results26, go_sem]) rfl ⟨rfl, (((Below.refl _ _).alloc (Nat.le_refl _) _).alloc (by simp) _).drew⟩

set_option maxHeartbeats 4000000 in
theorem newFailures_any (p m : ByteArray) (x : Value) (hx : x = .nilIface ∨ ∃ v, x = .iface 29 v) (g n : Nat) (w : World) (hm : n ≤ 1048576) :
    Calls Try.prog 14 #[.agg #[.string p, .string m, x], .slice (some ⟨g, 0, none⟩) n n] w fun e w' => e = .returned (.agg #[.string p, .string m, x, .slice (some ⟨g, 0, none⟩) n n]) ∧ Below w.heap.size w w' := by
  have hx' := hx
  rcases hx with rfl | ⟨v, rfl⟩
  all_goals
    have HX := hid hx'
    clear hx'
    go_enter Try.func14, Try.ntmps14
    go_wp2_with (go_at_call 26; refine (newSlice_any p m _ HX.out g n _ hm).mono ?_; rintro e w' ⟨rfl, hb⟩; obtain ⟨hc, hf, hz⟩ := bcell hb; simp at hz)
    exact bodyPost_ret (by simp [results, Try.results14, go_sem, hc]) rfl ⟨rfl, ((((((((Below.refl _ _).alloc (Nat.le_refl _) _).alloc (by simp) _).trans (hb.mono (by simp; omega))).setCell (by simp) _).setCell (by simp) _).setCell (by simp) _).setCell (by simp) _)⟩

set_option maxHeartbeats 4000000 in
theorem size_any (p m : ByteArray) (x : Value) (hx : x = .nilIface ∨ ∃ v, x = .iface 29 v) (g n : Nat) (w : World) (hm : n ≤ 1048576) :
    Calls Try.prog 30 #[.agg #[.string p, .string m, x, .slice (some ⟨g, 0, none⟩) n n]] w fun e w' => e = .returned (.int .i64 ((n + 1 : Nat) : Int)) ∧ Below w.heap.size w w' := by
  rcases hx with rfl | ⟨v, rfl⟩
  all_goals
    go_enter Try.func30, Try.ntmps30
    go_wp2
    go_ret
    exact ⟨by push_cast; rw [Int.add_comm (n : Int) 1]; rfl, (Below.refl _ _).alloc (Nat.le_refl _) _⟩

end Go.Proofs.Qxb6615933a
