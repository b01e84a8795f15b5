import Derived.Test.Qxb6615211aProg
import Derived.Test.Qxb6615211aPlain
import Derived.WalkKit
namespace Go.Proofs.Qxb6615211a
open Go.RowKit
open Plain

/-- What memory holds of a search: its good, bad and blind, and blind's cells. -/
structure Srch (w : World) (sb bb : Nat) (g b : Int) (bl : Nat → Bool) (len cap : Nat) : Prop where
  good : w.cell? ⟨sb, 2, none⟩ = some (.int .i64 g)
  bad : w.cell? ⟨sb, 3, none⟩ = some (.int .i64 b)
  blind : w.cell? ⟨sb, 4, none⟩ = some (.slice (some ⟨bb, 0, none⟩) len cap)
  cells : ∀ i, i < len → w.cell? ⟨bb, i, none⟩ = some (.bool (bl i))

set_option maxHeartbeats 400000 in
theorem open_any (sb bb : Nat) (g b : Int) (bl : Nat → Bool) (len cap : Nat) (c : Int) (w : World) (hs : Srch w sb bb g b bl len cap) (hg : 0 ≤ g) (hb : b < len) :
    Calls Try.prog 15 #[.pointer (some ⟨sb, 0, none⟩), .int .i64 c] w fun e w' => e = .returned (.bool (opn g b bl c)) ∧ w' = w := by
  obtain ⟨h1, h2, h3, h4⟩ := hs
  by_cases c1 : g < c
  · by_cases c2 : c < b
    · obtain ⟨k, rfl⟩ := Int.eq_ofNat_of_zero_le (show 0 ≤ c by omega)
      have h5 := h4 k (by omega)
      have hk : (k : Int) < (len : Int) := by omega
      have e : opn g b bl (k : Int) = !bl k := by simp [opn, c1, c2]
      rw [e]
      clear h4 e
      go_enter Try.func15, Try.ntmps15
      go_wp2
      go_ret
      exact ⟨rfl, rfl⟩
    · have e : opn g b bl c = false := opn_hi (by omega)
      rw [e]
      clear h4 e
      go_enter Try.func15, Try.ntmps15
      go_wp2
      go_ret
      exact ⟨rfl, rfl⟩
  · have e : opn g b bl c = false := opn_lo (by omega)
    rw [e]
    clear h4 e
    go_enter Try.func15, Try.ntmps15
    go_wp2
    go_ret
    exact ⟨rfl, rfl⟩
set_option maxHeartbeats 400000 in
theorem rank_any (c mid hint : Int) (w : World) (hc : 0 ≤ c ∧ c ≤ 1000000) (hm : 0 ≤ mid ∧ mid ≤ 1000000) :
    Calls Try.prog 13 #[.int .i64 c, .int .i64 mid, .int .i64 hint] w fun e w' => e = .returned (.int .i64 (rank c mid hint)) ∧ w' = w := by
  unfold rank
  obtain ⟨hc0, hc1⟩ := hc
  obtain ⟨hm0, hm1⟩ := hm
  by_cases h1 : c = mid
  · subst h1
    rw [if_pos rfl]
    go_enter Try.func13, Try.ntmps13
    go_wp2
    go_ret
    exact ⟨rfl, rfl⟩
  · have b1 : (c == mid) = false := by simpa using h1
    rw [if_neg h1]
    by_cases h2 : c = hint
    · subst h2
      rw [if_pos rfl]
      clear h1
      go_enter Try.func13, Try.ntmps13
      go_wp2
      go_ret
      exact ⟨rfl, rfl⟩
    · have b2 : (c == hint) = false := by simpa using h2
      rw [if_neg h2]
      clear h1 h2
      by_cases h3 : 0 < c - mid
      · rw [if_pos h3]
        go_enter Try.func13, Try.ntmps13
        go_wp2
        go_ret
        exact ⟨rfl, rfl⟩
      · rw [if_neg h3]
        go_enter Try.func13, Try.ntmps13
        go_wp2
        go_ret
        exact ⟨rfl, rfl⟩
end Go.Proofs.Qxb6615211a
