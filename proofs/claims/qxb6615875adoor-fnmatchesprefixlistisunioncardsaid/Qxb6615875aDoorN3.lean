import Derived.Test.Qxb6615875aDoorN2
import Derived.Deep.CutRange
import Derived.Deep.RegionHeld3
import Derived.Deep.MidRow
namespace Go.Proofs.Qxb6615875aDoor
open Go.RowKit
set_option linter.unusedSimpArgs false
set_option linter.unusedVariables false

theorem mask_bit (t j : Nat) (ht : t ≤ 64) : (2 ^ 64 - 2 ^ t).testBit j = (decide (t ≤ j) && decide (j < 64)) := by
  have e : 2 ^ 64 - 2 ^ t = 2 ^ t * (2 ^ (64 - t) - 1) := by
    rw [Nat.mul_sub, ← Nat.pow_add, Nat.mul_one, show t + (64 - t) = 64 by omega]
  rw [e, Nat.testBit_two_pow_mul, Nat.testBit_two_pow_sub_one]
  by_cases h : t ≤ j
  · simp only [ge_iff_le, h, decide_true, Bool.true_and]
    congr 1
    exact propext ⟨fun _ => by omega, fun _ => by omega⟩
  · simp [h]
theorem mhi_eq (n : Nat) : bits .xor .u64 IntKind.u64.max (18446744073709551615 / 2 ^ min n 64) = (mhi n : Int) := by
  have e1 : (18446744073709551615 : Int) / 2 ^ min n 64 = (((2 ^ 64 - 1) / 2 ^ min n 64 : Nat) : Int) := by simp
  have e2 : IntKind.u64.max = ((2 ^ 64 - 1 : Nat) : Int) := by decide
  rw [e1, e2, bits_xor_nat _ _ (by decide) (Nat.lt_of_le_of_lt (Nat.div_le_self _ _) (by decide))]
  congr 1
  refine Nat.eq_of_testBit_eq fun j => ?_
  unfold mhi
  rw [mask_bit _ _ (by omega), Nat.testBit_xor, Nat.testBit_div_two_pow, Nat.testBit_two_pow_sub_one, Nat.testBit_two_pow_sub_one]
  by_cases h : j < 64
  · by_cases h2 : 64 - min n 64 ≤ j
    · simp only [h, h2, decide_true, Bool.true_and]
      rw [decide_eq_false (by omega)]
      rfl
    · simp only [h, h2, decide_true, decide_false, Bool.false_and]
      rw [decide_eq_true (by omega)]
      rfl
  · simp only [h, decide_false, Bool.and_false]
    rw [decide_eq_false (by omega)]
    rfl
theorem mlo_eq (n : Nat) : IntKind.u64.wrap (18446744073709551615 * 2 ^ min (128 - n) 64) = (mlo n : Int) := by
  rw [IntKind.wrap_u64]
  unfold mlo
  have h1 : 1 ≤ 2 ^ min (128 - n) 64 := Nat.two_pow_pos _
  have h2 : 2 ^ min (128 - n) 64 ≤ 2 ^ 64 := Nat.pow_le_pow_right (by decide) (by omega)
  have e : (2 : Int) ^ min (128 - n) 64 = ((2 ^ min (128 - n) 64 : Nat) : Int) := by simp
  rw [e]
  generalize 2 ^ min (128 - n) 64 = X at h1 h2 ⊢
  omega

set_option maxHeartbeats 1000000 in
theorem mask6_any (n : Nat) (hn : n ≤ 128) (w : World) : Calls Tryd.prog 50 #[.int .i64 n] w fun e w' => e = .returned (.agg #[.int .u64 (mhi n), .int .u64 (mlo n)]) ∧ Below w.heap.size w w' := by
  have hw : IntKind.i64.wrap (128 - (n : Int)) = ((128 - n : Nat) : Int) := by rw [IntKind.wrap_i64]; omega
  go_enter Tryd.func50, Tryd.ntmps50
  go_wp2
  refine wp_region_held_drew (S := fun W => Below w.heap.size w W) (by kernel_rfl) (((Below.refl _ _).alloc (Nat.le_refl _) _).drew) (fun hHeld => ?_)
  refine wpAnyH_take (i := 0) (v := ?_) rfl (by kernel_rfl) (by kernel_rfl) (by kernel_rfl) (fun _ _ _ h => h) (Or.inl ⟨by kernel_rfl, ?_⟩) (by assumption) ?_
  rotate_left
  · intro w hSw; go_simp; with_reducible rfl
  try simp (maxSteps := 2000000) only [Act.put, List.getElem_toArray, List.getElem_cons_succ, List.getElem_cons_zero, List.setIfInBounds_toArray, List.set_cons_zero, List.set_cons_succ]
  refine wpAnyH_take (i := 1) (v := ?_) rfl (by kernel_rfl) (by kernel_rfl) (by kernel_rfl) (fun _ _ _ h => h) (Or.inl ⟨by kernel_rfl, ?_⟩) (by assumption) ?_
  rotate_left
  · intro w hSw; go_simp; with_reducible rfl
  try simp (maxSteps := 2000000) only [Act.put, List.getElem_toArray, List.getElem_cons_succ, List.getElem_cons_zero, List.setIfInBounds_toArray, List.set_cons_zero, List.set_cons_succ]
  refine wpAnyH_take (i := 2) (v := ?_) rfl (by kernel_rfl) (by kernel_rfl) (by kernel_rfl) (fun _ _ _ h => h) (Or.inl ⟨by kernel_rfl, ?_⟩) (by assumption) ?_
  rotate_left
  · intro w hSw; go_simp; with_reducible rfl
  try simp (maxSteps := 2000000) only [Act.put, List.getElem_toArray, List.getElem_cons_succ, List.getElem_cons_zero, List.setIfInBounds_toArray, List.set_cons_zero, List.set_cons_succ]
  refine wpAnyH_take (i := 3) (v := ?_) rfl (by kernel_rfl) (by kernel_rfl) (by kernel_rfl) (fun _ _ _ h => h) (Or.inl ⟨by kernel_rfl, ?_⟩) (by assumption) ?_
  rotate_left
  · intro w hSw; go_simp; with_reducible rfl
  try simp (maxSteps := 2000000) only [Act.put, List.getElem_toArray, List.getElem_cons_succ, List.getElem_cons_zero, List.setIfInBounds_toArray, List.set_cons_zero, List.set_cons_succ]
  refine wpAnyH_take (i := 4) (v := ?_) rfl (by kernel_rfl) (by kernel_rfl) (by kernel_rfl) (fun _ _ _ h => h) (Or.inl ⟨by kernel_rfl, ?_⟩) (by assumption) ?_
  rotate_left
  · intro w hSw; go_simp; with_reducible rfl
  try simp (maxSteps := 2000000) only [Act.put, List.getElem_toArray, List.getElem_cons_succ, List.getElem_cons_zero, List.setIfInBounds_toArray, List.set_cons_zero, List.set_cons_succ]
  refine wpAnyH_take (i := 5) (v := ?_) rfl (by kernel_rfl) (by kernel_rfl) (by kernel_rfl) (fun _ _ _ h => h) (Or.inl ⟨by kernel_rfl, ?_⟩) (by assumption) ?_
  rotate_left
  · intro w hSw; go_simp; with_reducible rfl
  try simp (maxSteps := 2000000) only [Act.put, List.getElem_toArray, List.getElem_cons_succ, List.getElem_cons_zero, List.setIfInBounds_toArray, List.set_cons_zero, List.set_cons_succ]
  refine wpAnyH_take (i := 6) (v := ?_) rfl (by kernel_rfl) (by kernel_rfl) (by kernel_rfl) (fun _ _ _ h => h) (Or.inl ⟨by kernel_rfl, ?_⟩) (by assumption) ?_
  rotate_left
  · intro w hSw; go_simp; with_reducible rfl
  try simp (maxSteps := 2000000) only [Act.put, List.getElem_toArray, List.getElem_cons_succ, List.getElem_cons_zero, List.setIfInBounds_toArray, List.set_cons_zero, List.set_cons_succ]
  refine wpAnyH_ready (rs := [7]) (by kernel_rfl) (by simp) ?_
  refine AllReadyH.cons rfl ?_ AllReadyH.nil
  intro K hK
  rw [if_pos (by kernel_rfl)]
  go_simp
  refine hK.out _ _ (((Below.refl _ _).alloc (Nat.le_refl _) _).drew) (fun hHeld => ?_)
  clear hK K
  refine wpAnyH_done (by kernel_rfl) ?_ _
  go_wp2_with fail
  exact bodyPost_ret (v := .agg #[.int .u64 (mhi n), .int .u64 (mlo n)]) (by simp [results, Tryd.results50, go_sem, mhi_eq, mlo_eq]) rfl ⟨rfl, hHeld⟩
end Go.Proofs.Qxb6615875aDoor
