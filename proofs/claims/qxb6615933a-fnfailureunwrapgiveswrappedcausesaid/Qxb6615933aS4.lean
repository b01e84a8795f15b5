import Derived.Test.Qxb6615933aS3
namespace Go.Proofs.Qxb6615933a
open Go.RowKit
set_option linter.unusedSimpArgs false
set_option linter.unusedVariables false

/-- A word; where it is yes the tail is no longer than a million. -/
def WdN (n : Nat) (e : Ending) : Prop := ∃ ok : Bool, e = .returned (.bool ok) ∧ (ok = true → n ≤ 1048576)

set_option maxRecDepth 100000 in
set_option maxHeartbeats 8000000 in
theorem bytes22_any (d : D) (a : Option Addr) (n c : Nat) (ts : Nat → D) (w : World) (hm : n ≤ maxLen) (ht : Tl w a n ts) :
    Calls Try.prog 22 #[.agg (dv d), .slice a n c] w fun e w' => WdN n e ∧ Below w.heap.size w w' := by
  have HM := hid hm
  unfold maxLen at hm
  have HB := hid (show Below w.heap.size w (w.alloc (.cells (dv d) 35)) from (Below.refl _ _).alloc (Nat.le_refl _) _)
  have HT := hid (ht.below HB.out)
  clear ht
  obtain ⟨p, m, h, ep, em⟩ := d
  simp only [dv] at HB HT ⊢
  by_cases hbig : 1048576 < n
  · go_enter Try.func22, Try.ntmps22
    go_wp2
    all_goals
      go_ret
      exact ⟨⟨_, rfl, by simp⟩, HB.out⟩
  have HN := hid (show n ≤ 1048576 by omega)
  go_enter Try.func22, Try.ntmps22
  go_wp2
  all_goals try (go_ret; exact ⟨⟨_, rfl, by simp⟩, HB.out⟩)
  go_loop [5, 6] (fun z i => ∃ (k : Nat) (s : Int), k ≤ n ∧ i = .int .i64 k ∧ z = .int .i64 s ∧ 0 ≤ s ∧ s ≤ 1048576) (fun _ i => n - (intOf i).toNat)
  case atStart => exact ⟨0, _, Nat.zero_le _, rfl, rfl, by omega, by omega⟩
  case round =>
    obtain ⟨k, s, hk, rfl, rfl, hs0, hs1⟩ := hrel
    by_cases hlt : k < n
    · obtain ⟨b, off, rfl⟩ := HT.out.some hlt
      obtain ⟨c0, c1, c2, c3, c4⟩ := HT.out.at hlt
      obtain ⟨x, hx⟩ : ∃ x, x = ts k := ⟨_, rfl⟩
      rw [← hx] at c0 c1 c2 c3 c4
      clear hx
      go_wp2
      all_goals try (go_ret; exact ⟨⟨_, rfl, by simp⟩, HB.out⟩)
      go_round
      case rel => exact ⟨k + 1, _, by omega, by go_num, rfl, by omega, by omega⟩
      case measure => simp [intOf]; omega
    · go_wp2
      go_ret
      exact ⟨⟨_, rfl, fun _ => HN.out⟩, HB.out⟩

set_option maxRecDepth 100000 in
set_option maxHeartbeats 8000000 in
theorem bytes12_any (d : D) (a : Option Addr) (n c : Nat) (ts : Nat → D) (w : World) (hm : n ≤ maxLen) (ht : Tl w a n ts) :
    Calls Try.prog 12 #[.agg (dv d), .slice a n c] w fun e w' => WdN n e ∧ Below w.heap.size w w' := by
  have HM := hid hm
  unfold maxLen at hm
  have HB := hid (show Below w.heap.size w (w.alloc (.cells (dv d) 35)) from (Below.refl _ _).alloc (Nat.le_refl _) _)
  have HT := hid (ht.below HB.out)
  clear ht
  obtain ⟨p, m, h, ep, em⟩ := d
  simp only [dv] at HB HT ⊢
  by_cases hbig : 1048576 < n
  · go_enter Try.func12, Try.ntmps12
    go_wp2
    all_goals
      go_ret
      exact ⟨⟨_, rfl, by simp⟩, HB.out⟩
  have HN := hid (show n ≤ 1048576 by omega)
  go_enter Try.func12, Try.ntmps12
  go_wp2
  all_goals try (go_ret; exact ⟨⟨_, rfl, by simp⟩, HB.out⟩)
  go_loop [5, 6] (fun z i => ∃ (k : Nat) (s : Int), k ≤ n ∧ i = .int .i64 k ∧ z = .int .i64 s ∧ 0 ≤ s ∧ s ≤ 1048576) (fun _ i => n - (intOf i).toNat)
  case atStart => exact ⟨0, _, Nat.zero_le _, rfl, rfl, by omega, by omega⟩
  case round =>
    obtain ⟨k, s, hk, rfl, rfl, hs0, hs1⟩ := hrel
    by_cases hlt : k < n
    · obtain ⟨b, off, rfl⟩ := HT.out.some hlt
      obtain ⟨c0, c1, c2, c3, c4⟩ := HT.out.at hlt
      obtain ⟨x, hx⟩ : ∃ x, x = ts k := ⟨_, rfl⟩
      rw [← hx] at c0 c1 c2 c3 c4
      clear hx
      go_wp2
      all_goals try (go_ret; exact ⟨⟨_, rfl, by simp⟩, HB.out⟩)
      go_round
      case rel => exact ⟨k + 1, _, by omega, by go_num, rfl, by omega, by omega⟩
      case measure => simp [intOf]; omega
    · go_wp2
      go_ret
      exact ⟨⟨_, rfl, fun _ => HN.out⟩, HB.out⟩

end Go.Proofs.Qxb6615933a
