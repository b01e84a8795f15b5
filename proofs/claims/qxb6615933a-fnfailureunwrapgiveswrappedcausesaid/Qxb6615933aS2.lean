import Derived.Test.Qxb6615933aS1
namespace Go.Proofs.Qxb6615933a
open Go.RowKit
set_option linter.unusedSimpArgs false
set_option linter.unusedVariables false

/-- A count and a word. -/
def Cnt (e : Ending) : Prop := ∃ (t : Int) (ok : Bool), e = .returned (.tuple #[.int .i64 t, .bool ok])

set_option maxHeartbeats 1000000 in
theorem addLen_any (t n : Int) (w : World) : Calls Try.prog 24 #[.int .i64 t, .int .i64 n] w fun e w' => Cnt e ∧ w' = w := by
  go_enter Try.func24, Try.ntmps24
  go_wp2
  all_goals exact bodyPost_ret (by simp [results, Try.results24, go_sem]; exact ⟨rfl, rfl⟩) rfl ⟨⟨_, _, rfl⟩, rfl⟩

set_option maxHeartbeats 4000000 in
theorem addData_any (t : Int) (d : D) (w : World) : Calls Try.prog 25 #[.int .i64 t, .agg (dv d)] w fun e w' => Cnt e ∧ Below w.heap.size w w' := by
  obtain ⟨p, m, h, ep, em⟩ := d
  simp only [dv]
  go_enter Try.func25, Try.ntmps25
  go_wp2_with (go_at_call 24; refine (addLen_any _ _ _).mono ?_; rintro e w' ⟨⟨_, ok, rfl⟩, rfl⟩; cases ok)
  all_goals exact bodyPost_ret (by simp [results, Try.results25, go_sem]; exact ⟨rfl, rfl⟩) rfl ⟨⟨_, _, rfl⟩, (Below.refl _ _).alloc (Nat.le_refl _) _⟩

end Go.Proofs.Qxb6615933a
