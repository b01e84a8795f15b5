import Derived.Test.Qxb6615933aT6
namespace Go.Proofs.Qxb6615933a
open Go.RowKit
set_option linter.unusedSimpArgs false
set_option linter.unusedVariables false

theorem zzlist_as (d : D) (ts : Nat → D) (E : Value) (hE : er d = E) (g n B : Nat) (xs : List Value) (w : World) (hm : n ≤ 1048576) (hr : w.ownsRow B 29 3 (.slice (some ⟨g, 0, none⟩) n n) n xs) (hu : Up xs n ts) :
    Calls Try.prog 18 #[.agg #[.string d.p, .string d.m, E, .slice (some ⟨g, 0, none⟩) n n]] w fun e w' => (∃ v, e = .returned v ∧ Fs w w' v (n + 1) (pick d ts)) ∧ Below w.heap.size w w' := by
  subst hE
  exact zzlist_any d ts g n B xs w hm hr hu

set_option maxHeartbeats 1000000 in
/-- A failure built of the data matches the data. -/
theorem matches_any (x : D) (w : World) :
    Calls Try.prog 20 #[.agg (fv x), .agg (dv x)] w fun e w' => e = .returned (.bool true) ∧ Below w.heap.size w w' := by
  obtain ⟨p, m, h, ep, em⟩ := x
  cases h
  · simp only [dv, fv, er, Bool.false_eq_true, if_false]
    go_enter Try.func20, Try.ntmps20
    go_wp2
    go_ret
    exact ⟨rfl, ((Below.refl _ _).alloc (Nat.le_refl _) _).alloc (by simp) _⟩
  · have HD0 := heap_alloc_new (w.alloc (.cells #[.string p, .string m, .iface 29 (.agg #[.string ep, .string em, .nilIface])] 29)) (.cells (dv ⟨p, m, true, ep, em⟩) 35)
    rw [show (w.alloc (.cells #[.string p, .string m, .iface 29 (.agg #[.string ep, .string em, .nilIface])] 29)).heap.size = w.heap.size + 1 by simp] at HD0
    have HD0 := hid HD0
    simp only [dv, fv, er, if_true]
    go_enter Try.func20, Try.ntmps20
    go_wp2_with (go_at_call 11; refine (as_any ep em .nilIface (.inl rfl) _).mono ?_; rintro e w' ⟨rfl, hb⟩; have hz := hb.size; simp at hz; have HD := (hb.block (w.heap.size + 1) (by simp)).trans HD0.out; obtain ⟨d0, d1, d2, d3, d4⟩ := box5o ⟨p, m, true, ep, em⟩ HD)
    go_ret
    exact ⟨rfl, (((((Below.refl _ _).alloc (Nat.le_refl _) _).alloc (by simp) _).trans (hb.mono (by simp; omega))).alloc (by omega) _)⟩

end Go.Proofs.Qxb6615933a
