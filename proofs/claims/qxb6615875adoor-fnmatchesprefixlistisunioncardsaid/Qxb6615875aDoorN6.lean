import Derived.Test.Qxb6615875aDoorN5
namespace Go.Proofs.Qxb6615875aDoor
open Go.RowKit
set_option linter.unusedSimpArgs false
set_option linter.unusedVariables false
attribute [local go_sem ↓] Go.wp_at_zero Go.wp_at_succ

theorem sz22 : (Tryd.prog.info? 22).map (·.size) = some 16 := by kernel_rfl
theorem sz55 : (Tryd.prog.info? 55).map (·.size) = some 18 := by kernel_rfl

theorem agree_no {p a : Nat → UInt8} {m k : Nat} (hk : k < m) (h : bitOf p k ≠ bitOf a k) : agree p a m = false := decide_eq_false fun q => h (q k hk)
theorem agree_yes {p a : Nat → UInt8} {m : Nat} (h : ∀ j, j < m → bitOf p j = bitOf a j) : agree p a m = true := decide_eq_true h
theorem bitv_ne {p a : Nat → UInt8} {k : Nat} (h : bitOf p k ≠ bitOf a k) : (bitv p k != bitv a k) = true := by
  unfold bitv
  revert h
  cases bitOf p k <;> cases bitOf a k <;> simp
theorem bitv_same {p a : Nat → UInt8} {k : Nat} (h : bitOf p k = bitOf a k) : (bitv p k != bitv a k) = false := by
  unfold bitv
  rw [h]
  simp

section
variable (p a : Nat → UInt8) (w : World)

set_option maxHeartbeats 2000000 in
theorem zzc_neg_tt (n : Int) (h : n < 0) : Calls Tryd.prog 15 #[.agg (lpV true p n), .bool true, .agg (cells16 a)] w fun e w' => e = .returned (.bool false) ∧ Below w.heap.size w w' := by
  unfold lpV
  go_enter Tryd.func15, Tryd.ntmps15
  go_wp2
  go_ret
  exact ⟨rfl, ((Below.refl _ _).alloc (Nat.le_refl _) _).alloc (by simp) _⟩

set_option maxHeartbeats 2000000 in
theorem zzc_big_tt (n : Int) (h0 : 0 ≤ n) (h : 32 < n) : Calls Tryd.prog 15 #[.agg (lpV true p n), .bool true, .agg (cells16 a)] w fun e w' => e = .returned (.bool false) ∧ Below w.heap.size w w' := by
  unfold lpV
  go_enter Tryd.func15, Tryd.ntmps15
  go_wp2
  go_ret
  exact ⟨rfl, ((Below.refl _ _).alloc (Nat.le_refl _) _).alloc (by simp) _⟩

set_option maxHeartbeats 2000000 in
theorem zzc_neg_tf (n : Int) (h : n < 0) : Calls Tryd.prog 15 #[.agg (lpV true p n), .bool false, .agg (cells16 a)] w fun e w' => e = .returned (.bool false) ∧ Below w.heap.size w w' := by
  unfold lpV
  go_enter Tryd.func15, Tryd.ntmps15
  go_wp2
  go_ret
  exact ⟨rfl, ((Below.refl _ _).alloc (Nat.le_refl _) _).alloc (by simp) _⟩

set_option maxHeartbeats 2000000 in
theorem zzc_big_tf (n : Int) (h0 : 0 ≤ n) (h : 32 < n) : Calls Tryd.prog 15 #[.agg (lpV true p n), .bool false, .agg (cells16 a)] w fun e w' => e = .returned (.bool false) ∧ Below w.heap.size w w' := by
  unfold lpV
  go_enter Tryd.func15, Tryd.ntmps15
  go_wp2
  go_ret
  exact ⟨rfl, ((Below.refl _ _).alloc (Nat.le_refl _) _).alloc (by simp) _⟩

set_option maxHeartbeats 2000000 in
theorem zzc_far_tf (n : Int) (h0 : 0 ≤ n) (h : n ≤ 32) : Calls Tryd.prog 15 #[.agg (lpV true p n), .bool false, .agg (cells16 a)] w fun e w' => e = .returned (.bool false) ∧ Below w.heap.size w w' := by
  unfold lpV
  go_enter Tryd.func15, Tryd.ntmps15
  go_wp2
  go_ret
  exact ⟨rfl, ((Below.refl _ _).alloc (Nat.le_refl _) _).alloc (by simp) _⟩

set_option maxHeartbeats 2000000 in
theorem zzc_neg_ft (n : Int) (h : n < 0) : Calls Tryd.prog 15 #[.agg (lpV false p n), .bool true, .agg (cells16 a)] w fun e w' => e = .returned (.bool false) ∧ Below w.heap.size w w' := by
  unfold lpV
  go_enter Tryd.func15, Tryd.ntmps15
  go_wp2
  go_ret
  exact ⟨rfl, ((Below.refl _ _).alloc (Nat.le_refl _) _).alloc (by simp) _⟩

set_option maxHeartbeats 2000000 in
theorem zzc_big_ft (n : Int) (h0 : 0 ≤ n) (h : 128 < n) : Calls Tryd.prog 15 #[.agg (lpV false p n), .bool true, .agg (cells16 a)] w fun e w' => e = .returned (.bool false) ∧ Below w.heap.size w w' := by
  unfold lpV
  go_enter Tryd.func15, Tryd.ntmps15
  go_wp2
  go_ret
  exact ⟨rfl, ((Below.refl _ _).alloc (Nat.le_refl _) _).alloc (by simp) _⟩

set_option maxHeartbeats 2000000 in
theorem zzc_far_ft (n : Int) (h0 : 0 ≤ n) (h : n ≤ 128) : Calls Tryd.prog 15 #[.agg (lpV false p n), .bool true, .agg (cells16 a)] w fun e w' => e = .returned (.bool false) ∧ Below w.heap.size w w' := by
  unfold lpV
  go_enter Tryd.func15, Tryd.ntmps15
  go_wp2
  go_ret
  exact ⟨rfl, ((Below.refl _ _).alloc (Nat.le_refl _) _).alloc (by simp) _⟩

set_option maxHeartbeats 2000000 in
theorem zzc_neg_ff (n : Int) (h : n < 0) : Calls Tryd.prog 15 #[.agg (lpV false p n), .bool false, .agg (cells16 a)] w fun e w' => e = .returned (.bool false) ∧ Below w.heap.size w w' := by
  unfold lpV
  go_enter Tryd.func15, Tryd.ntmps15
  go_wp2
  go_ret
  exact ⟨rfl, ((Below.refl _ _).alloc (Nat.le_refl _) _).alloc (by simp) _⟩

set_option maxHeartbeats 2000000 in
theorem zzc_big_ff (n : Int) (h0 : 0 ≤ n) (h : 128 < n) : Calls Tryd.prog 15 #[.agg (lpV false p n), .bool false, .agg (cells16 a)] w fun e w' => e = .returned (.bool false) ∧ Below w.heap.size w w' := by
  unfold lpV
  go_enter Tryd.func15, Tryd.ntmps15
  go_wp2
  go_ret
  exact ⟨rfl, ((Below.refl _ _).alloc (Nat.le_refl _) _).alloc (by simp) _⟩

set_option maxRecDepth 100000 in
set_option maxHeartbeats 2000000 in
theorem zzc_in_true (m : Nat) (hm : m ≤ 32) : Calls Tryd.prog 15 #[.agg (lpV true p m), .bool true, .agg (cells16 a)] w fun e w' => e = .returned (.bool (agree p a m)) ∧ Below w.heap.size w w' := by
  go_enter Tryd.func15, Tryd.ntmps15
  go_upto_region 2 with fail
  obtain ⟨W0, hW0⟩ : ∃ W0, (w.alloc (.cells (lpV true p m) 55)).alloc (.cells (cells16 a) 22) = W0 := ⟨_, rfl⟩
  obtain ⟨pb, hpb⟩ : ∃ pb, w.heap.size = pb := ⟨_, rfl⟩
  rw [hW0, hpb]
  have HP := hid (show W0.heap[pb]? = some (.cells (lpV true p m) 55 (0, 0)) by rw [← hW0, ← hpb]; exact heapOld4 (heap_alloc_new _ _) _)
  have HA := hid (show W0.heap[pb + 1]? = some (.cells (cells16 a) 22 (0, 0)) by rw [← hW0, ← hpb]; have := heap_alloc_new (w.alloc (.cells (lpV true p m) 55)) (.cells (cells16 a) 22); rw [World.size_alloc] at this; exact this)
  have HB := hid (show Below w.heap.size w W0 by rw [← hW0]; exact ((Below.refl _ _).alloc (Nat.le_refl _) _).alloc (by simp) _)
  have HLT := hid (heap_lt HP.out)
  have HLA := hid (heap_lt HA.out)
  have c0 : W0.cell? ⟨pb, 0, none⟩ = some (.bool true) := cell_of_row W0 pb 0 _ 55 (0, 0) HP.out
  have c17 : W0.cell? ⟨pb, 17, none⟩ = some (.int .i64 m) := cell_of_row W0 pb 17 _ 55 (0, 0) HP.out
  clear hW0
  go_wp2
  go_loopw [8] (fun i wr => ∃ k : Nat, k ≤ m ∧ i = .int .i64 k ∧ (∀ j, j < k → bitOf p j = bitOf a j) ∧ Below W0.heap.size W0 wr) (fun i _ => m - (intOf i).toNat)
  case atStart => exact ⟨0, Nat.zero_le _, rfl, fun j hj => absurd hj (by omega), Below.refl _ _⟩
  case round =>
    obtain ⟨k, hk, rfl, hag, hbr⟩ := hrel
    have HG := hid hag
    have HR := hid hbr
    have e17 : wr.cell? ⟨pb, 17, none⟩ = some (.int .i64 m) := (hbr.cell (p := ⟨pb, 17, none⟩) HLT.out).trans c17
    clear hag hbr c0 c17
    by_cases hlt : k < m
    · have HK8 := hid (show k < 128 by omega)
      by_cases hbit : bitOf p k = bitOf a k
      · have hv := bitv_same hbit
        have HBT := hid hbit
        go_wp2
        refine wp_region_held_drew (S := fun W => Below W0.heap.size W0 W) (by kernel_rfl) (HR.out.drew) (fun hHeld => ?_)
        refine wpAnyH_take (i := 0) (v := ?_) rfl (by kernel_rfl) (by kernel_rfl) (by kernel_rfl) (fun _ _ _ h => h) (Or.inl ⟨by kernel_rfl, ?_⟩) (by assumption) ?_
        rotate_left
        · intro w hSw; go_simp; with_reducible rfl
        try simp (maxSteps := 2000000) only [Act.put, List.getElem_toArray, List.getElem_cons_succ, List.getElem_cons_zero, List.setIfInBounds_toArray, List.set_cons_zero, List.set_cons_succ]
        refine wpAnyH_take (i := 1) (v := _) rfl (by kernel_rfl) (by kernel_rfl) (by kernel_rfl) (fun _ _ _ h => h) (yieldsIf_load_mid (by kernel_rfl) _ _ rfl _ _ rfl (cells16 p).toList _ (fun W hSw => range_row' (o := 1) (n := 16) ((hSw.block pb HLT.out).trans HP.out) rfl) Tryd.underlying22 rfl sz22) (by assumption) ?_
        try simp (maxSteps := 2000000) only [Act.put, List.getElem_toArray, List.getElem_cons_succ, List.getElem_cons_zero, List.setIfInBounds_toArray, List.set_cons_zero, List.set_cons_succ]
        refine wpAnyH_take (i := 2) (v := ?_) rfl (by kernel_rfl) (by kernel_rfl) (by kernel_rfl) (fun _ _ _ h => h) (Or.inl ⟨by kernel_rfl, ?_⟩) (by assumption) ?_
        rotate_left
        · intro w hSw; go_simp; with_reducible rfl
        try simp (maxSteps := 2000000) only [Act.put, List.getElem_toArray, List.getElem_cons_succ, List.getElem_cons_zero, List.setIfInBounds_toArray, List.set_cons_zero, List.set_cons_succ]
        refine wpAnyH_take (i := 4) (v := _) rfl (by kernel_rfl) (by kernel_rfl) (by kernel_rfl) (fun _ _ _ h => h) (yieldsIf_load_mid (by kernel_rfl) _ _ rfl _ _ rfl (cells16 a).toList _ (fun W hSw => range_row' (o := 0) (n := 16) ((hSw.block (pb + 1) HLA.out).trans HA.out) rfl) Tryd.underlying22 rfl sz22) (by assumption) ?_
        try simp (maxSteps := 2000000) only [Act.put, List.getElem_toArray, List.getElem_cons_succ, List.getElem_cons_zero, List.setIfInBounds_toArray, List.set_cons_zero, List.set_cons_succ]
        refine wpAnyH_take (i := 5) (v := ?_) rfl (by kernel_rfl) (by kernel_rfl) (by kernel_rfl) (fun _ _ _ h => h) (Or.inl ⟨by kernel_rfl, ?_⟩) (by assumption) ?_
        rotate_left
        · intro w hSw; go_simp; with_reducible rfl
        try simp (maxSteps := 2000000) only [Act.put, List.getElem_toArray, List.getElem_cons_succ, List.getElem_cons_zero, List.setIfInBounds_toArray, List.set_cons_zero, List.set_cons_succ]
        refine wpAnyH_ready (rs := [3]) (by kernel_rfl) (by simp) ?_
        refine AllReadyH.cons rfl (fun K hK => ?_) AllReadyH.nil
        go_simp
        refine (zzbit_any p k HK8.out _).mono ?_
        rintro e w3 ⟨rfl, hbc⟩
        go_wp2_with fail
        refine hK.out _ _ (hHeld.trans (hbc.mono hHeld.size)) (fun hHeld => ?_)
        clear hK K hbc
        try simp (maxSteps := 2000000) only [Act.put, List.getElem_toArray, List.getElem_cons_succ, List.getElem_cons_zero, List.setIfInBounds_toArray, List.set_cons_zero, List.set_cons_succ]
        refine wpAnyH_ready (rs := [6]) (by kernel_rfl) (by simp) ?_
        refine AllReadyH.cons rfl (fun K hK => ?_) AllReadyH.nil
        go_simp
        refine (zzbit_any a k HK8.out _).mono ?_
        rintro e w4 ⟨rfl, hbc⟩
        go_wp2_with fail
        refine hK.out _ _ (hHeld.trans (hbc.mono hHeld.size)) (fun hHeld => ?_)
        clear hK K hbc
        try simp (maxSteps := 2000000) only [Act.put, List.getElem_toArray, List.getElem_cons_succ, List.getElem_cons_zero, List.setIfInBounds_toArray, List.set_cons_zero, List.set_cons_succ]
        refine wpAnyH_take (i := 7) (v := ?_) rfl (by kernel_rfl) (by kernel_rfl) (by kernel_rfl) (fun _ _ _ h => h) (Or.inl ⟨by kernel_rfl, ?_⟩) (by assumption) ?_
        rotate_left
        · intro w hSw; go_simp; with_reducible rfl
        try simp (maxSteps := 2000000) only [Act.put, List.getElem_toArray, List.getElem_cons_succ, List.getElem_cons_zero, List.setIfInBounds_toArray, List.set_cons_zero, List.set_cons_succ]
        refine wpAnyH_done (by kernel_rfl) ?_ _
        go_wp2_with fail
        go_roundw
        case rel => exact ⟨k + 1, by omega, by go_num, fun j hj => if h : j = k then by rw [h]; exact HBT.out else HG.out j (by omega), hHeld⟩
        case measure => simp [intOf]; omega
      · have hv := bitv_ne hbit
        have HN := hid (agree_no hlt hbit)
        go_wp2
        refine wp_region_held_drew (S := fun W => Below W0.heap.size W0 W) (by kernel_rfl) (HR.out.drew) (fun hHeld => ?_)
        refine wpAnyH_take (i := 0) (v := ?_) rfl (by kernel_rfl) (by kernel_rfl) (by kernel_rfl) (fun _ _ _ h => h) (Or.inl ⟨by kernel_rfl, ?_⟩) (by assumption) ?_
        rotate_left
        · intro w hSw; go_simp; with_reducible rfl
        try simp (maxSteps := 2000000) only [Act.put, List.getElem_toArray, List.getElem_cons_succ, List.getElem_cons_zero, List.setIfInBounds_toArray, List.set_cons_zero, List.set_cons_succ]
        refine wpAnyH_take (i := 1) (v := _) rfl (by kernel_rfl) (by kernel_rfl) (by kernel_rfl) (fun _ _ _ h => h) (yieldsIf_load_mid (by kernel_rfl) _ _ rfl _ _ rfl (cells16 p).toList _ (fun W hSw => range_row' (o := 1) (n := 16) ((hSw.block pb HLT.out).trans HP.out) rfl) Tryd.underlying22 rfl sz22) (by assumption) ?_
        try simp (maxSteps := 2000000) only [Act.put, List.getElem_toArray, List.getElem_cons_succ, List.getElem_cons_zero, List.setIfInBounds_toArray, List.set_cons_zero, List.set_cons_succ]
        refine wpAnyH_take (i := 2) (v := ?_) rfl (by kernel_rfl) (by kernel_rfl) (by kernel_rfl) (fun _ _ _ h => h) (Or.inl ⟨by kernel_rfl, ?_⟩) (by assumption) ?_
        rotate_left
        · intro w hSw; go_simp; with_reducible rfl
        try simp (maxSteps := 2000000) only [Act.put, List.getElem_toArray, List.getElem_cons_succ, List.getElem_cons_zero, List.setIfInBounds_toArray, List.set_cons_zero, List.set_cons_succ]
        refine wpAnyH_take (i := 4) (v := _) rfl (by kernel_rfl) (by kernel_rfl) (by kernel_rfl) (fun _ _ _ h => h) (yieldsIf_load_mid (by kernel_rfl) _ _ rfl _ _ rfl (cells16 a).toList _ (fun W hSw => range_row' (o := 0) (n := 16) ((hSw.block (pb + 1) HLA.out).trans HA.out) rfl) Tryd.underlying22 rfl sz22) (by assumption) ?_
        try simp (maxSteps := 2000000) only [Act.put, List.getElem_toArray, List.getElem_cons_succ, List.getElem_cons_zero, List.setIfInBounds_toArray, List.set_cons_zero, List.set_cons_succ]
        refine wpAnyH_take (i := 5) (v := ?_) rfl (by kernel_rfl) (by kernel_rfl) (by kernel_rfl) (fun _ _ _ h => h) (Or.inl ⟨by kernel_rfl, ?_⟩) (by assumption) ?_
        rotate_left
        · intro w hSw; go_simp; with_reducible rfl
        try simp (maxSteps := 2000000) only [Act.put, List.getElem_toArray, List.getElem_cons_succ, List.getElem_cons_zero, List.setIfInBounds_toArray, List.set_cons_zero, List.set_cons_succ]
        refine wpAnyH_ready (rs := [3]) (by kernel_rfl) (by simp) ?_
        refine AllReadyH.cons rfl (fun K hK => ?_) AllReadyH.nil
        go_simp
        refine (zzbit_any p k HK8.out _).mono ?_
        rintro e w3 ⟨rfl, hbc⟩
        go_wp2_with fail
        refine hK.out _ _ (hHeld.trans (hbc.mono hHeld.size)) (fun hHeld => ?_)
        clear hK K hbc
        try simp (maxSteps := 2000000) only [Act.put, List.getElem_toArray, List.getElem_cons_succ, List.getElem_cons_zero, List.setIfInBounds_toArray, List.set_cons_zero, List.set_cons_succ]
        refine wpAnyH_ready (rs := [6]) (by kernel_rfl) (by simp) ?_
        refine AllReadyH.cons rfl (fun K hK => ?_) AllReadyH.nil
        go_simp
        refine (zzbit_any a k HK8.out _).mono ?_
        rintro e w4 ⟨rfl, hbc⟩
        go_wp2_with fail
        refine hK.out _ _ (hHeld.trans (hbc.mono hHeld.size)) (fun hHeld => ?_)
        clear hK K hbc
        try simp (maxSteps := 2000000) only [Act.put, List.getElem_toArray, List.getElem_cons_succ, List.getElem_cons_zero, List.setIfInBounds_toArray, List.set_cons_zero, List.set_cons_succ]
        refine wpAnyH_take (i := 7) (v := ?_) rfl (by kernel_rfl) (by kernel_rfl) (by kernel_rfl) (fun _ _ _ h => h) (Or.inl ⟨by kernel_rfl, ?_⟩) (by assumption) ?_
        rotate_left
        · intro w hSw; go_simp; with_reducible rfl
        try simp (maxSteps := 2000000) only [Act.put, List.getElem_toArray, List.getElem_cons_succ, List.getElem_cons_zero, List.setIfInBounds_toArray, List.set_cons_zero, List.set_cons_succ]
        refine wpAnyH_done (by kernel_rfl) ?_ _
        go_wp2_with fail
        go_ret
        exact ⟨by rw [HN.out]; rfl, HB.out.trans (hHeld.mono HB.out.size)⟩
    · have HY := hid (agree_yes (p := p) (a := a) (m := m) (fun j hj => HG.out j (by omega)))
      go_wp2
      go_ret
      exact ⟨by rw [HY.out]; rfl, HB.out.trans (HR.out.mono HB.out.size)⟩

set_option maxRecDepth 100000 in
set_option maxHeartbeats 2000000 in
theorem zzc_in_false (m : Nat) (hm : m ≤ 128) : Calls Tryd.prog 15 #[.agg (lpV false p m), .bool false, .agg (cells16 a)] w fun e w' => e = .returned (.bool (agree p a m)) ∧ Below w.heap.size w w' := by
  go_enter Tryd.func15, Tryd.ntmps15
  go_upto_region 2 with fail
  obtain ⟨W0, hW0⟩ : ∃ W0, (w.alloc (.cells (lpV false p m) 55)).alloc (.cells (cells16 a) 22) = W0 := ⟨_, rfl⟩
  obtain ⟨pb, hpb⟩ : ∃ pb, w.heap.size = pb := ⟨_, rfl⟩
  rw [hW0, hpb]
  have HP := hid (show W0.heap[pb]? = some (.cells (lpV false p m) 55 (0, 0)) by rw [← hW0, ← hpb]; exact heapOld4 (heap_alloc_new _ _) _)
  have HA := hid (show W0.heap[pb + 1]? = some (.cells (cells16 a) 22 (0, 0)) by rw [← hW0, ← hpb]; have := heap_alloc_new (w.alloc (.cells (lpV false p m) 55)) (.cells (cells16 a) 22); rw [World.size_alloc] at this; exact this)
  have HB := hid (show Below w.heap.size w W0 by rw [← hW0]; exact ((Below.refl _ _).alloc (Nat.le_refl _) _).alloc (by simp) _)
  have HLT := hid (heap_lt HP.out)
  have HLA := hid (heap_lt HA.out)
  have c0 : W0.cell? ⟨pb, 0, none⟩ = some (.bool false) := cell_of_row W0 pb 0 _ 55 (0, 0) HP.out
  have c17 : W0.cell? ⟨pb, 17, none⟩ = some (.int .i64 m) := cell_of_row W0 pb 17 _ 55 (0, 0) HP.out
  clear hW0
  go_wp2
  go_loopw [8] (fun i wr => ∃ k : Nat, k ≤ m ∧ i = .int .i64 k ∧ (∀ j, j < k → bitOf p j = bitOf a j) ∧ Below W0.heap.size W0 wr) (fun i _ => m - (intOf i).toNat)
  case atStart => exact ⟨0, Nat.zero_le _, rfl, fun j hj => absurd hj (by omega), Below.refl _ _⟩
  case round =>
    obtain ⟨k, hk, rfl, hag, hbr⟩ := hrel
    have HG := hid hag
    have HR := hid hbr
    have e17 : wr.cell? ⟨pb, 17, none⟩ = some (.int .i64 m) := (hbr.cell (p := ⟨pb, 17, none⟩) HLT.out).trans c17
    clear hag hbr c0 c17
    by_cases hlt : k < m
    · have HK8 := hid (show k < 128 by omega)
      by_cases hbit : bitOf p k = bitOf a k
      · have hv := bitv_same hbit
        have HBT := hid hbit
        go_wp2
        refine wp_region_held_drew (S := fun W => Below W0.heap.size W0 W) (by kernel_rfl) (HR.out.drew) (fun hHeld => ?_)
        refine wpAnyH_take (i := 0) (v := ?_) rfl (by kernel_rfl) (by kernel_rfl) (by kernel_rfl) (fun _ _ _ h => h) (Or.inl ⟨by kernel_rfl, ?_⟩) (by assumption) ?_
        rotate_left
        · intro w hSw; go_simp; with_reducible rfl
        try simp (maxSteps := 2000000) only [Act.put, List.getElem_toArray, List.getElem_cons_succ, List.getElem_cons_zero, List.setIfInBounds_toArray, List.set_cons_zero, List.set_cons_succ]
        refine wpAnyH_take (i := 1) (v := _) rfl (by kernel_rfl) (by kernel_rfl) (by kernel_rfl) (fun _ _ _ h => h) (yieldsIf_load_mid (by kernel_rfl) _ _ rfl _ _ rfl (cells16 p).toList _ (fun W hSw => range_row' (o := 1) (n := 16) ((hSw.block pb HLT.out).trans HP.out) rfl) Tryd.underlying22 rfl sz22) (by assumption) ?_
        try simp (maxSteps := 2000000) only [Act.put, List.getElem_toArray, List.getElem_cons_succ, List.getElem_cons_zero, List.setIfInBounds_toArray, List.set_cons_zero, List.set_cons_succ]
        refine wpAnyH_take (i := 2) (v := ?_) rfl (by kernel_rfl) (by kernel_rfl) (by kernel_rfl) (fun _ _ _ h => h) (Or.inl ⟨by kernel_rfl, ?_⟩) (by assumption) ?_
        rotate_left
        · intro w hSw; go_simp; with_reducible rfl
        try simp (maxSteps := 2000000) only [Act.put, List.getElem_toArray, List.getElem_cons_succ, List.getElem_cons_zero, List.setIfInBounds_toArray, List.set_cons_zero, List.set_cons_succ]
        refine wpAnyH_take (i := 4) (v := _) rfl (by kernel_rfl) (by kernel_rfl) (by kernel_rfl) (fun _ _ _ h => h) (yieldsIf_load_mid (by kernel_rfl) _ _ rfl _ _ rfl (cells16 a).toList _ (fun W hSw => range_row' (o := 0) (n := 16) ((hSw.block (pb + 1) HLA.out).trans HA.out) rfl) Tryd.underlying22 rfl sz22) (by assumption) ?_
        try simp (maxSteps := 2000000) only [Act.put, List.getElem_toArray, List.getElem_cons_succ, List.getElem_cons_zero, List.setIfInBounds_toArray, List.set_cons_zero, List.set_cons_succ]
        refine wpAnyH_take (i := 5) (v := ?_) rfl (by kernel_rfl) (by kernel_rfl) (by kernel_rfl) (fun _ _ _ h => h) (Or.inl ⟨by kernel_rfl, ?_⟩) (by assumption) ?_
        rotate_left
        · intro w hSw; go_simp; with_reducible rfl
        try simp (maxSteps := 2000000) only [Act.put, List.getElem_toArray, List.getElem_cons_succ, List.getElem_cons_zero, List.setIfInBounds_toArray, List.set_cons_zero, List.set_cons_succ]
        refine wpAnyH_ready (rs := [3]) (by kernel_rfl) (by simp) ?_
        refine AllReadyH.cons rfl (fun K hK => ?_) AllReadyH.nil
        go_simp
        refine (zzbit_any p k HK8.out _).mono ?_
        rintro e w3 ⟨rfl, hbc⟩
        go_wp2_with fail
        refine hK.out _ _ (hHeld.trans (hbc.mono hHeld.size)) (fun hHeld => ?_)
        clear hK K hbc
        try simp (maxSteps := 2000000) only [Act.put, List.getElem_toArray, List.getElem_cons_succ, List.getElem_cons_zero, List.setIfInBounds_toArray, List.set_cons_zero, List.set_cons_succ]
        refine wpAnyH_ready (rs := [6]) (by kernel_rfl) (by simp) ?_
        refine AllReadyH.cons rfl (fun K hK => ?_) AllReadyH.nil
        go_simp
        refine (zzbit_any a k HK8.out _).mono ?_
        rintro e w4 ⟨rfl, hbc⟩
        go_wp2_with fail
        refine hK.out _ _ (hHeld.trans (hbc.mono hHeld.size)) (fun hHeld => ?_)
        clear hK K hbc
        try simp (maxSteps := 2000000) only [Act.put, List.getElem_toArray, List.getElem_cons_succ, List.getElem_cons_zero, List.setIfInBounds_toArray, List.set_cons_zero, List.set_cons_succ]
        refine wpAnyH_take (i := 7) (v := ?_) rfl (by kernel_rfl) (by kernel_rfl) (by kernel_rfl) (fun _ _ _ h => h) (Or.inl ⟨by kernel_rfl, ?_⟩) (by assumption) ?_
        rotate_left
        · intro w hSw; go_simp; with_reducible rfl
        try simp (maxSteps := 2000000) only [Act.put, List.getElem_toArray, List.getElem_cons_succ, List.getElem_cons_zero, List.setIfInBounds_toArray, List.set_cons_zero, List.set_cons_succ]
        refine wpAnyH_done (by kernel_rfl) ?_ _
        go_wp2_with fail
        go_roundw
        case rel => exact ⟨k + 1, by omega, by go_num, fun j hj => if h : j = k then by rw [h]; exact HBT.out else HG.out j (by omega), hHeld⟩
        case measure => simp [intOf]; omega
      · have hv := bitv_ne hbit
        have HN := hid (agree_no hlt hbit)
        go_wp2
        refine wp_region_held_drew (S := fun W => Below W0.heap.size W0 W) (by kernel_rfl) (HR.out.drew) (fun hHeld => ?_)
        refine wpAnyH_take (i := 0) (v := ?_) rfl (by kernel_rfl) (by kernel_rfl) (by kernel_rfl) (fun _ _ _ h => h) (Or.inl ⟨by kernel_rfl, ?_⟩) (by assumption) ?_
        rotate_left
        · intro w hSw; go_simp; with_reducible rfl
        try simp (maxSteps := 2000000) only [Act.put, List.getElem_toArray, List.getElem_cons_succ, List.getElem_cons_zero, List.setIfInBounds_toArray, List.set_cons_zero, List.set_cons_succ]
        refine wpAnyH_take (i := 1) (v := _) rfl (by kernel_rfl) (by kernel_rfl) (by kernel_rfl) (fun _ _ _ h => h) (yieldsIf_load_mid (by kernel_rfl) _ _ rfl _ _ rfl (cells16 p).toList _ (fun W hSw => range_row' (o := 1) (n := 16) ((hSw.block pb HLT.out).trans HP.out) rfl) Tryd.underlying22 rfl sz22) (by assumption) ?_
        try simp (maxSteps := 2000000) only [Act.put, List.getElem_toArray, List.getElem_cons_succ, List.getElem_cons_zero, List.setIfInBounds_toArray, List.set_cons_zero, List.set_cons_succ]
        refine wpAnyH_take (i := 2) (v := ?_) rfl (by kernel_rfl) (by kernel_rfl) (by kernel_rfl) (fun _ _ _ h => h) (Or.inl ⟨by kernel_rfl, ?_⟩) (by assumption) ?_
        rotate_left
        · intro w hSw; go_simp; with_reducible rfl
        try simp (maxSteps := 2000000) only [Act.put, List.getElem_toArray, List.getElem_cons_succ, List.getElem_cons_zero, List.setIfInBounds_toArray, List.set_cons_zero, List.set_cons_succ]
        refine wpAnyH_take (i := 4) (v := _) rfl (by kernel_rfl) (by kernel_rfl) (by kernel_rfl) (fun _ _ _ h => h) (yieldsIf_load_mid (by kernel_rfl) _ _ rfl _ _ rfl (cells16 a).toList _ (fun W hSw => range_row' (o := 0) (n := 16) ((hSw.block (pb + 1) HLA.out).trans HA.out) rfl) Tryd.underlying22 rfl sz22) (by assumption) ?_
        try simp (maxSteps := 2000000) only [Act.put, List.getElem_toArray, List.getElem_cons_succ, List.getElem_cons_zero, List.setIfInBounds_toArray, List.set_cons_zero, List.set_cons_succ]
        refine wpAnyH_take (i := 5) (v := ?_) rfl (by kernel_rfl) (by kernel_rfl) (by kernel_rfl) (fun _ _ _ h => h) (Or.inl ⟨by kernel_rfl, ?_⟩) (by assumption) ?_
        rotate_left
        · intro w hSw; go_simp; with_reducible rfl
        try simp (maxSteps := 2000000) only [Act.put, List.getElem_toArray, List.getElem_cons_succ, List.getElem_cons_zero, List.setIfInBounds_toArray, List.set_cons_zero, List.set_cons_succ]
        refine wpAnyH_ready (rs := [3]) (by kernel_rfl) (by simp) ?_
        refine AllReadyH.cons rfl (fun K hK => ?_) AllReadyH.nil
        go_simp
        refine (zzbit_any p k HK8.out _).mono ?_
        rintro e w3 ⟨rfl, hbc⟩
        go_wp2_with fail
        refine hK.out _ _ (hHeld.trans (hbc.mono hHeld.size)) (fun hHeld => ?_)
        clear hK K hbc
        try simp (maxSteps := 2000000) only [Act.put, List.getElem_toArray, List.getElem_cons_succ, List.getElem_cons_zero, List.setIfInBounds_toArray, List.set_cons_zero, List.set_cons_succ]
        refine wpAnyH_ready (rs := [6]) (by kernel_rfl) (by simp) ?_
        refine AllReadyH.cons rfl (fun K hK => ?_) AllReadyH.nil
        go_simp
        refine (zzbit_any a k HK8.out _).mono ?_
        rintro e w4 ⟨rfl, hbc⟩
        go_wp2_with fail
        refine hK.out _ _ (hHeld.trans (hbc.mono hHeld.size)) (fun hHeld => ?_)
        clear hK K hbc
        try simp (maxSteps := 2000000) only [Act.put, List.getElem_toArray, List.getElem_cons_succ, List.getElem_cons_zero, List.setIfInBounds_toArray, List.set_cons_zero, List.set_cons_succ]
        refine wpAnyH_take (i := 7) (v := ?_) rfl (by kernel_rfl) (by kernel_rfl) (by kernel_rfl) (fun _ _ _ h => h) (Or.inl ⟨by kernel_rfl, ?_⟩) (by assumption) ?_
        rotate_left
        · intro w hSw; go_simp; with_reducible rfl
        try simp (maxSteps := 2000000) only [Act.put, List.getElem_toArray, List.getElem_cons_succ, List.getElem_cons_zero, List.setIfInBounds_toArray, List.set_cons_zero, List.set_cons_succ]
        refine wpAnyH_done (by kernel_rfl) ?_ _
        go_wp2_with fail
        go_ret
        exact ⟨by rw [HN.out]; rfl, HB.out.trans (hHeld.mono HB.out.size)⟩
    · have HY := hid (agree_yes (p := p) (a := a) (m := m) (fun j hj => HG.out j (by omega)))
      go_wp2
      go_ret
      exact ⟨by rw [HY.out]; rfl, HB.out.trans (HR.out.mono HB.out.size)⟩
end

/-- An entry of the law's list. -/
structure LP where
  is4 : Bool
  b : Nat → UInt8
  n : Int
def LP.v (x : LP) : Array Value := lpV x.is4 x.b x.n
def LP.holds (x : LP) (is4 : Bool) (a : Nat → UInt8) : Bool := hold x.is4 x.b x.n is4 a

theorem zzc_any (x : LP) (is4 : Bool) (a : Nat → UInt8) (w : World) : Calls Tryd.prog 15 #[.agg x.v, .bool is4, .agg (cells16 a)] w fun e w' => e = .returned (.bool (x.holds is4 a)) ∧ Below w.heap.size w w' := by
  obtain ⟨pis4, p, n⟩ := x
  show Calls Tryd.prog 15 #[.agg (lpV pis4 p n), .bool is4, .agg (cells16 a)] w fun e w' => e = .returned (.bool (hold pis4 p n is4 a)) ∧ Below w.heap.size w w'
  by_cases h0 : 0 ≤ n
  · obtain ⟨m, rfl⟩ := Int.eq_ofNat_of_zero_le h0
    by_cases h1 : (m : Int) ≤ (if pis4 then 32 else 128)
    · have eh : hold pis4 p (m : Int) is4 a = ((pis4 == is4) && agree p a m) := by
        unfold hold
        rw [decide_eq_true ⟨h0, h1⟩, Bool.true_and]
        rfl
      rw [eh]
      cases pis4 <;> cases is4
      · exact zzc_in_false p a w m (by simp at h1; omega)
      · exact zzc_far_ft p a w m h0 h1
      · exact zzc_far_tf p a w m h0 h1
      · exact zzc_in_true p a w m (by simp at h1; omega)
    · have eh : hold pis4 p (m : Int) is4 a = false := by
        unfold hold
        rw [decide_eq_false (fun h => h1 h.2), Bool.false_and]
      rw [eh]
      cases pis4 <;> cases is4
      · exact zzc_big_ff p a w m h0 (by simp at h1; omega)
      · exact zzc_big_ft p a w m h0 (by simp at h1; omega)
      · exact zzc_big_tf p a w m h0 (by simp at h1; omega)
      · exact zzc_big_tt p a w m h0 (by simp at h1; omega)
  · have eh : hold pis4 p n is4 a = false := by
      unfold hold
      rw [decide_eq_false (fun h => h0 h.1), Bool.false_and]
    rw [eh]
    cases pis4 <;> cases is4
    · exact zzc_neg_ff p a w n (by omega)
    · exact zzc_neg_ft p a w n (by omega)
    · exact zzc_neg_tf p a w n (by omega)
    · exact zzc_neg_tt p a w n (by omega)
end Go.Proofs.Qxb6615875aDoor
