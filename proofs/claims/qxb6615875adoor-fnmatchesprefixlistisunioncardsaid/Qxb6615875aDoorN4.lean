import Derived.Test.Qxb6615875aDoorN3
import Derived.Test.Qxb6615875aDoorB1
namespace Go.Proofs.Qxb6615875aDoor
open Go.RowKit
set_option linter.unusedSimpArgs false
set_option linter.unusedVariables false
attribute [local go_sem ↓] Go.wp_at_zero Go.wp_at_succ

theorem sz75 : (Tryd.prog.info? 75).map (·.size) = some 4 := by kernel_rfl
theorem sz32 : (Tryd.prog.info? 32).map (·.size) = some 3 := by kernel_rfl
theorem sz27 : (Tryd.prog.info? 27).map (·.size) = some 2 := by kernel_rfl
theorem range_row' {w : World} {g t o n : Nat} {C : Array Value} {cs : List Value} (h : w.heap[g]? = some (.cells C t (0, 0))) (hc : cs = (C.toList.drop o).take n) : w.rangeAt g o cs := by
  subst hc
  intro j v hv
  rw [cell_of_row w g (o + j) _ t (0, 0) h]
  rw [List.getElem?_take] at hv
  split at hv
  · rw [List.getElem?_drop] at hv
    simpa using hv
  · simp at hv

set_option maxRecDepth 100000 in
set_option maxHeartbeats 4000000 in
theorem contains_bad (pis4 is4 : Bool) (ph pl ah al : Int) (p4 p6 : Addr) (w : World) (hz : Z3 w p4 p6) :
    Calls Tryd.prog 38 #[.agg #[.int .u64 ph, .int .u64 pl, .pointer (some (zp p4 p6 pis4)), .int .u8 0], .agg #[.int .u64 ah, .int .u64 al, .pointer (some (zp p4 p6 is4))]] w fun e w' => e = .returned (.bool false) ∧ Below w.heap.size w w' := by
  go_enter Tryd.func38, Tryd.ntmps38
  go_upto_region 1 with fail
  obtain ⟨W0, hW0⟩ : ∃ W0, (w.alloc (.cells #[.int .u64 ph, .int .u64 pl, .pointer (some (zp p4 p6 pis4)), .int .u8 0] 75)).alloc (.cells #[.int .u64 ah, .int .u64 al, .pointer (some (zp p4 p6 is4))] 32) = W0 := ⟨_, rfl⟩
  obtain ⟨pb, hpb⟩ : ∃ pb, w.heap.size = pb := ⟨_, rfl⟩
  rw [hW0, hpb]
  have HP := hid (show W0.heap[pb]? = some (.cells #[.int .u64 ph, .int .u64 pl, .pointer (some (zp p4 p6 pis4)), .int .u8 0] 75 (0, 0)) by rw [← hW0, ← hpb]; exact heapOld4 (heap_alloc_new _ _) _)
  have HA := hid (show W0.heap[pb + 1]? = some (.cells #[.int .u64 ah, .int .u64 al, .pointer (some (zp p4 p6 is4))] 32 (0, 0)) by rw [← hW0, ← hpb]; have := heap_alloc_new (w.alloc (.cells #[.int .u64 ph, .int .u64 pl, .pointer (some (zp p4 p6 pis4)), .int .u8 0] 75)) (.cells #[.int .u64 ah, .int .u64 al, .pointer (some (zp p4 p6 is4))] 32); rw [World.size_alloc] at this; exact this)
  have HZ := hid (show Z3 W0 p4 p6 by rw [← hW0]; exact (hz.alloc _).alloc _)
  have HB := hid (show Below w.heap.size w W0 by rw [← hW0]; exact ((Below.refl _ _).alloc (Nat.le_refl _) _).alloc (by simp) _)
  have HLT := hid (heap_lt HP.out)
  have HLA := hid (heap_lt HA.out)
  clear hW0 hz
  go_wp2_with (first
    | (refine wpList_load_row rfl 75 (.tmp 2) rfl pb rfl 75 _ (0, 0) _ HP.out Tryd.underlying75 rfl sz75 ?_)
    | (refine wpList_load_row rfl 32 (.tmp 3) rfl (pb + 1) rfl 32 _ (0, 0) _ ((HB1.out.block (pb + 1) HLA.out).trans HA.out) Tryd.underlying32 rfl sz32 ?_)
    | (go_at_call 44; refine (isValid_any ph pl (zp p4 p6 pis4) 0 _).mono ?_; rintro e w1 ⟨rfl, hb1⟩; have HB1 := hid hb1; obtain ⟨a0, a1, a2, _⟩ := cells3 ((hb1.block (pb + 1) HLA.out).trans HA.out); clear hb1)
    | (go_at_call 45; refine (hasZone_any is4 ah al p4 p6 _ (HZ.out.below HB1.out)).mono ?_; rintro e w2 ⟨rfl, hb2⟩; have HB2 := hid (HB1.out.trans (hb2.mono HB1.out.size)); clear hb2))
  go_ret
  exact ⟨rfl, HB.out.trans (HB1.out.mono HB.out.size)⟩

set_option maxRecDepth 100000 in
set_option maxHeartbeats 4000000 in
theorem contains_46 (m : Nat) (ph pl ah al : Int) (p4 p6 : Addr) (w : World) (hz : Z3 w p4 p6) :
    Calls Tryd.prog 38 #[.agg #[.int .u64 ph, .int .u64 pl, .pointer (some (zp p4 p6 true)), .int .u8 ((m : Int) + 1)], .agg #[.int .u64 ah, .int .u64 al, .pointer (some (zp p4 p6 false))]] w fun e w' => e = .returned (.bool false) ∧ Below w.heap.size w w' := by
  have hval : decide ((0 : Int) < (m : Int) + 1) = true := decide_eq_true (by omega)
  go_enter Tryd.func38, Tryd.ntmps38
  go_upto_region 1 with fail
  obtain ⟨W0, hW0⟩ : ∃ W0, (w.alloc (.cells #[.int .u64 ph, .int .u64 pl, .pointer (some (zp p4 p6 true)), .int .u8 ((m : Int) + 1)] 75)).alloc (.cells #[.int .u64 ah, .int .u64 al, .pointer (some (zp p4 p6 false))] 32) = W0 := ⟨_, rfl⟩
  obtain ⟨pb, hpb⟩ : ∃ pb, w.heap.size = pb := ⟨_, rfl⟩
  rw [hW0, hpb]
  have HP := hid (show W0.heap[pb]? = some (.cells #[.int .u64 ph, .int .u64 pl, .pointer (some (zp p4 p6 true)), .int .u8 ((m : Int) + 1)] 75 (0, 0)) by rw [← hW0, ← hpb]; exact heapOld4 (heap_alloc_new _ _) _)
  have HA := hid (show W0.heap[pb + 1]? = some (.cells #[.int .u64 ah, .int .u64 al, .pointer (some (zp p4 p6 false))] 32 (0, 0)) by rw [← hW0, ← hpb]; have := heap_alloc_new (w.alloc (.cells #[.int .u64 ph, .int .u64 pl, .pointer (some (zp p4 p6 true)), .int .u8 ((m : Int) + 1)] 75)) (.cells #[.int .u64 ah, .int .u64 al, .pointer (some (zp p4 p6 false))] 32); rw [World.size_alloc] at this; exact this)
  have HZ := hid (show Z3 W0 p4 p6 by rw [← hW0]; exact (hz.alloc _).alloc _)
  have HB := hid (show Below w.heap.size w W0 by rw [← hW0]; exact ((Below.refl _ _).alloc (Nat.le_refl _) _).alloc (by simp) _)
  have HLT := hid (heap_lt HP.out)
  have HLA := hid (heap_lt HA.out)
  clear hW0 hz
  go_wp2_with (first
    | (refine wpList_load_row rfl 75 (.tmp 2) rfl pb rfl 75 _ (0, 0) _ HP.out Tryd.underlying75 rfl sz75 ?_)
    | (refine wpList_load_row rfl 32 (.tmp 3) rfl (pb + 1) rfl 32 _ (0, 0) _ ((HB1.out.block (pb + 1) HLA.out).trans HA.out) Tryd.underlying32 rfl sz32 ?_)
    | (go_at_call 44; refine (isValid_any ph pl (zp p4 p6 true) ((m : Int) + 1) _).mono ?_; rw [hval]; rintro e w1 ⟨rfl, hb1⟩; have HB1 := hid hb1; obtain ⟨a0, a1, a2, _⟩ := cells3 ((hb1.block (pb + 1) HLA.out).trans HA.out); clear hb1)
    | (go_at_call 45; refine (hasZone_any false ah al p4 p6 _ (HZ.out.below HB1.out)).mono ?_; rintro e w2 ⟨rfl, hb2⟩; have HB2 := hid (HB1.out.trans (hb2.mono HB1.out.size)); clear hb2))
  go_cut [5, 6] from 14 to 18 (fun v5 v6 wc => v5 = .int .i64 (if true then 32 else 128) ∧ v6 = .int .i64 (if false then 32 else 128) ∧ Below W0.heap.size W0 wc)
  case first =>
    have hS0 := HB2.out
    refine wp_region_held_drew (S := fun W => Below W0.heap.size W0 W) (by kernel_rfl) (hS0.drew) (fun hHeld => ?_)
    clear hS0
    refine wpAnyH_take (i := 0) (v := ?_) rfl (by kernel_rfl) (by kernel_rfl) (by kernel_rfl) (fun _ _ _ h => h) (Or.inl ⟨by kernel_rfl, ?_⟩) (by assumption) ?_
    rotate_left
    · intro w hSw; go_simp; with_reducible rfl
    try simp (maxSteps := 2000000) only [Act.put, List.getElem_toArray, List.getElem_cons_succ, List.getElem_cons_zero, List.setIfInBounds_toArray, List.set_cons_zero, List.set_cons_succ]
    refine wpAnyH_take (i := 1) (v := _) rfl (by kernel_rfl) (by kernel_rfl) (by kernel_rfl) (fun _ _ _ h => h) (yieldsIf_load_mid (by kernel_rfl) _ _ rfl _ _ rfl [.int .u64 ph, .int .u64 pl, .pointer (some (zp p4 p6 true))] _ (fun W hSw => range_row' (o := 0) (n := 3) ((hSw.block pb HLT.out).trans HP.out) rfl) Tryd.underlying32 rfl sz32) (by assumption) ?_
    try simp (maxSteps := 2000000) only [Act.put, List.getElem_toArray, List.getElem_cons_succ, List.getElem_cons_zero, List.setIfInBounds_toArray, List.set_cons_zero, List.set_cons_succ]
    refine wpAnyH_take (i := 3) (v := _) rfl (by kernel_rfl) (by kernel_rfl) (by kernel_rfl) (fun _ _ _ h => h) (yieldsIf_load_mid (by kernel_rfl) _ _ rfl _ _ rfl [.int .u64 ah, .int .u64 al, .pointer (some (zp p4 p6 false))] _ (fun W hSw => range_row' (o := 0) (n := 3) ((hSw.block (pb + 1) HLA.out).trans HA.out) rfl) Tryd.underlying32 rfl sz32) (by assumption) ?_
    try simp (maxSteps := 2000000) only [Act.put, List.getElem_toArray, List.getElem_cons_succ, List.getElem_cons_zero, List.setIfInBounds_toArray, List.set_cons_zero, List.set_cons_succ]
    refine wpAnyH_ready (rs := [2]) (by kernel_rfl) (by simp) ?_
    refine AllReadyH.cons rfl (fun K hK => ?_) AllReadyH.nil
    go_simp
    refine (bitLen_any true ph pl p4 p6 _ (HZ.out.below hHeld)).mono ?_
    rintro e w3 ⟨rfl, hbc⟩
    go_wp2_with fail
    refine hK.out _ _ (hHeld.trans (hbc.mono hHeld.size)) (fun hHeld => ?_)
    clear hK K hbc
    try simp (maxSteps := 2000000) only [Act.put, List.getElem_toArray, List.getElem_cons_succ, List.getElem_cons_zero, List.setIfInBounds_toArray, List.set_cons_zero, List.set_cons_succ]
    refine wpAnyH_ready (rs := [4]) (by kernel_rfl) (by simp) ?_
    refine AllReadyH.cons rfl (fun K hK => ?_) AllReadyH.nil
    go_simp
    refine (bitLen_any false ah al p4 p6 _ (HZ.out.below hHeld)).mono ?_
    rintro e w4 ⟨rfl, hbc⟩
    go_wp2_with fail
    refine hK.out _ _ (hHeld.trans (hbc.mono hHeld.size)) (fun hHeld => ?_)
    clear hK K hbc
    try simp (maxSteps := 2000000) only [Act.put, List.getElem_toArray, List.getElem_cons_succ, List.getElem_cons_zero, List.setIfInBounds_toArray, List.set_cons_zero, List.set_cons_succ]
    refine wpAnyH_take (i := 5) (v := ?_) rfl (by kernel_rfl) (by kernel_rfl) (by kernel_rfl) (fun _ _ _ h => h) (Or.inl ⟨by kernel_rfl, ?_⟩) (by assumption) ?_
    rotate_left
    · intro w hSw; go_simp; with_reducible rfl
    try simp (maxSteps := 2000000) only [Act.put, List.getElem_toArray, List.getElem_cons_succ, List.getElem_cons_zero, List.setIfInBounds_toArray, List.set_cons_zero, List.set_cons_succ]
    refine wpAnyH_take (i := 6) (v := ?_) rfl (by kernel_rfl) (by kernel_rfl) (by kernel_rfl) (fun _ _ _ h => h) (Or.inl ⟨by kernel_rfl, ?_⟩) (by assumption) ?_
    rotate_left
    · intro w hSw; go_simp; with_reducible rfl
    try simp (maxSteps := 2000000) only [Act.put, List.getElem_toArray, List.getElem_cons_succ, List.getElem_cons_zero, List.setIfInBounds_toArray, List.set_cons_zero, List.set_cons_succ]
    refine wpAnyH_done (by kernel_rfl) ?_ _
    go_wp2_with fail
    go_meet
    case rel => exact ⟨rfl, rfl, hHeld⟩
  case rest =>
    obtain ⟨rfl, rfl, hbc⟩ := hcut
    have HC := hid hbc
    clear hbc
    go_wp2
    go_ret
    exact ⟨rfl, by rw [← hpb]; exact HB.out.trans (HC.out.mono HB.out.size)⟩

set_option maxRecDepth 100000 in
set_option maxHeartbeats 4000000 in
theorem contains_64 (m : Nat) (ph pl ah al : Int) (p4 p6 : Addr) (w : World) (hz : Z3 w p4 p6) :
    Calls Tryd.prog 38 #[.agg #[.int .u64 ph, .int .u64 pl, .pointer (some (zp p4 p6 false)), .int .u8 ((m : Int) + 1)], .agg #[.int .u64 ah, .int .u64 al, .pointer (some (zp p4 p6 true))]] w fun e w' => e = .returned (.bool false) ∧ Below w.heap.size w w' := by
  have hval : decide ((0 : Int) < (m : Int) + 1) = true := decide_eq_true (by omega)
  go_enter Tryd.func38, Tryd.ntmps38
  go_upto_region 1 with fail
  obtain ⟨W0, hW0⟩ : ∃ W0, (w.alloc (.cells #[.int .u64 ph, .int .u64 pl, .pointer (some (zp p4 p6 false)), .int .u8 ((m : Int) + 1)] 75)).alloc (.cells #[.int .u64 ah, .int .u64 al, .pointer (some (zp p4 p6 true))] 32) = W0 := ⟨_, rfl⟩
  obtain ⟨pb, hpb⟩ : ∃ pb, w.heap.size = pb := ⟨_, rfl⟩
  rw [hW0, hpb]
  have HP := hid (show W0.heap[pb]? = some (.cells #[.int .u64 ph, .int .u64 pl, .pointer (some (zp p4 p6 false)), .int .u8 ((m : Int) + 1)] 75 (0, 0)) by rw [← hW0, ← hpb]; exact heapOld4 (heap_alloc_new _ _) _)
  have HA := hid (show W0.heap[pb + 1]? = some (.cells #[.int .u64 ah, .int .u64 al, .pointer (some (zp p4 p6 true))] 32 (0, 0)) by rw [← hW0, ← hpb]; have := heap_alloc_new (w.alloc (.cells #[.int .u64 ph, .int .u64 pl, .pointer (some (zp p4 p6 false)), .int .u8 ((m : Int) + 1)] 75)) (.cells #[.int .u64 ah, .int .u64 al, .pointer (some (zp p4 p6 true))] 32); rw [World.size_alloc] at this; exact this)
  have HZ := hid (show Z3 W0 p4 p6 by rw [← hW0]; exact (hz.alloc _).alloc _)
  have HB := hid (show Below w.heap.size w W0 by rw [← hW0]; exact ((Below.refl _ _).alloc (Nat.le_refl _) _).alloc (by simp) _)
  have HLT := hid (heap_lt HP.out)
  have HLA := hid (heap_lt HA.out)
  clear hW0 hz
  go_wp2_with (first
    | (refine wpList_load_row rfl 75 (.tmp 2) rfl pb rfl 75 _ (0, 0) _ HP.out Tryd.underlying75 rfl sz75 ?_)
    | (refine wpList_load_row rfl 32 (.tmp 3) rfl (pb + 1) rfl 32 _ (0, 0) _ ((HB1.out.block (pb + 1) HLA.out).trans HA.out) Tryd.underlying32 rfl sz32 ?_)
    | (go_at_call 44; refine (isValid_any ph pl (zp p4 p6 false) ((m : Int) + 1) _).mono ?_; rw [hval]; rintro e w1 ⟨rfl, hb1⟩; have HB1 := hid hb1; obtain ⟨a0, a1, a2, _⟩ := cells3 ((hb1.block (pb + 1) HLA.out).trans HA.out); clear hb1)
    | (go_at_call 45; refine (hasZone_any true ah al p4 p6 _ (HZ.out.below HB1.out)).mono ?_; rintro e w2 ⟨rfl, hb2⟩; have HB2 := hid (HB1.out.trans (hb2.mono HB1.out.size)); clear hb2))
  go_cut [5, 6] from 14 to 18 (fun v5 v6 wc => v5 = .int .i64 (if false then 32 else 128) ∧ v6 = .int .i64 (if true then 32 else 128) ∧ Below W0.heap.size W0 wc)
  case first =>
    have hS0 := HB2.out
    refine wp_region_held_drew (S := fun W => Below W0.heap.size W0 W) (by kernel_rfl) (hS0.drew) (fun hHeld => ?_)
    clear hS0
    refine wpAnyH_take (i := 0) (v := ?_) rfl (by kernel_rfl) (by kernel_rfl) (by kernel_rfl) (fun _ _ _ h => h) (Or.inl ⟨by kernel_rfl, ?_⟩) (by assumption) ?_
    rotate_left
    · intro w hSw; go_simp; with_reducible rfl
    try simp (maxSteps := 2000000) only [Act.put, List.getElem_toArray, List.getElem_cons_succ, List.getElem_cons_zero, List.setIfInBounds_toArray, List.set_cons_zero, List.set_cons_succ]
    refine wpAnyH_take (i := 1) (v := _) rfl (by kernel_rfl) (by kernel_rfl) (by kernel_rfl) (fun _ _ _ h => h) (yieldsIf_load_mid (by kernel_rfl) _ _ rfl _ _ rfl [.int .u64 ph, .int .u64 pl, .pointer (some (zp p4 p6 false))] _ (fun W hSw => range_row' (o := 0) (n := 3) ((hSw.block pb HLT.out).trans HP.out) rfl) Tryd.underlying32 rfl sz32) (by assumption) ?_
    try simp (maxSteps := 2000000) only [Act.put, List.getElem_toArray, List.getElem_cons_succ, List.getElem_cons_zero, List.setIfInBounds_toArray, List.set_cons_zero, List.set_cons_succ]
    refine wpAnyH_take (i := 3) (v := _) rfl (by kernel_rfl) (by kernel_rfl) (by kernel_rfl) (fun _ _ _ h => h) (yieldsIf_load_mid (by kernel_rfl) _ _ rfl _ _ rfl [.int .u64 ah, .int .u64 al, .pointer (some (zp p4 p6 true))] _ (fun W hSw => range_row' (o := 0) (n := 3) ((hSw.block (pb + 1) HLA.out).trans HA.out) rfl) Tryd.underlying32 rfl sz32) (by assumption) ?_
    try simp (maxSteps := 2000000) only [Act.put, List.getElem_toArray, List.getElem_cons_succ, List.getElem_cons_zero, List.setIfInBounds_toArray, List.set_cons_zero, List.set_cons_succ]
    refine wpAnyH_ready (rs := [2]) (by kernel_rfl) (by simp) ?_
    refine AllReadyH.cons rfl (fun K hK => ?_) AllReadyH.nil
    go_simp
    refine (bitLen_any false ph pl p4 p6 _ (HZ.out.below hHeld)).mono ?_
    rintro e w3 ⟨rfl, hbc⟩
    go_wp2_with fail
    refine hK.out _ _ (hHeld.trans (hbc.mono hHeld.size)) (fun hHeld => ?_)
    clear hK K hbc
    try simp (maxSteps := 2000000) only [Act.put, List.getElem_toArray, List.getElem_cons_succ, List.getElem_cons_zero, List.setIfInBounds_toArray, List.set_cons_zero, List.set_cons_succ]
    refine wpAnyH_ready (rs := [4]) (by kernel_rfl) (by simp) ?_
    refine AllReadyH.cons rfl (fun K hK => ?_) AllReadyH.nil
    go_simp
    refine (bitLen_any true ah al p4 p6 _ (HZ.out.below hHeld)).mono ?_
    rintro e w4 ⟨rfl, hbc⟩
    go_wp2_with fail
    refine hK.out _ _ (hHeld.trans (hbc.mono hHeld.size)) (fun hHeld => ?_)
    clear hK K hbc
    try simp (maxSteps := 2000000) only [Act.put, List.getElem_toArray, List.getElem_cons_succ, List.getElem_cons_zero, List.setIfInBounds_toArray, List.set_cons_zero, List.set_cons_succ]
    refine wpAnyH_take (i := 5) (v := ?_) rfl (by kernel_rfl) (by kernel_rfl) (by kernel_rfl) (fun _ _ _ h => h) (Or.inl ⟨by kernel_rfl, ?_⟩) (by assumption) ?_
    rotate_left
    · intro w hSw; go_simp; with_reducible rfl
    try simp (maxSteps := 2000000) only [Act.put, List.getElem_toArray, List.getElem_cons_succ, List.getElem_cons_zero, List.setIfInBounds_toArray, List.set_cons_zero, List.set_cons_succ]
    refine wpAnyH_take (i := 6) (v := ?_) rfl (by kernel_rfl) (by kernel_rfl) (by kernel_rfl) (fun _ _ _ h => h) (Or.inl ⟨by kernel_rfl, ?_⟩) (by assumption) ?_
    rotate_left
    · intro w hSw; go_simp; with_reducible rfl
    try simp (maxSteps := 2000000) only [Act.put, List.getElem_toArray, List.getElem_cons_succ, List.getElem_cons_zero, List.setIfInBounds_toArray, List.set_cons_zero, List.set_cons_succ]
    refine wpAnyH_done (by kernel_rfl) ?_ _
    go_wp2_with fail
    go_meet
    case rel => exact ⟨rfl, rfl, hHeld⟩
  case rest =>
    obtain ⟨rfl, rfl, hbc⟩ := hcut
    have HC := hid hbc
    clear hbc
    go_wp2
    go_ret
    exact ⟨rfl, by rw [← hpb]; exact HB.out.trans (HC.out.mono HB.out.size)⟩

set_option maxRecDepth 100000 in
set_option maxHeartbeats 4000000 in
theorem contains_4 (m : Nat) (hm : m ≤ 32) (ph pl ah al : Int) (p4 p6 : Addr) (w : World) (hz : Z3 w p4 p6) :
    Calls Tryd.prog 38 #[.agg #[.int .u64 ph, .int .u64 pl, .pointer (some (zp p4 p6 true)), .int .u8 ((m : Int) + 1)], .agg #[.int .u64 ah, .int .u64 al, .pointer (some (zp p4 p6 true))]] w fun e w' => e = .returned (.bool (IntKind.u32.wrap (bits .xor .u64 al pl / 2 ^ (32 - m)) == 0)) ∧ Below w.heap.size w w' := by
  have hval : decide ((0 : Int) < (m : Int) + 1) = true := decide_eq_true (by omega)
  have hm1 : (m : Int) + 1 - 1 = m := by omega
  have hw1 : IntKind.i64.wrap (32 - (m : Int)) = ((32 - m : Nat) : Int) := by rw [IntKind.wrap_i64]; omega
  have hw2 : bits .and .i64 ((32 - m : Nat) : Int) 63 = ((32 - m : Nat) : Int) := by
    have := bits_mask .i64 63 (by decide) (fun n h0 h1 => by rw [IntKind.wrap_i64]; omega) 6 (by decide) ((32 - m : Nat) : Int) (by omega) (by omega)
    rw [show (2 : Int) ^ 6 - 1 = 63 by decide] at this
    rw [this]; omega
  have hw3 : min (32 - m) 64 = 32 - m := by omega
  go_enter Tryd.func38, Tryd.ntmps38
  go_upto_region 1 with fail
  obtain ⟨W0, hW0⟩ : ∃ W0, (w.alloc (.cells #[.int .u64 ph, .int .u64 pl, .pointer (some (zp p4 p6 true)), .int .u8 ((m : Int) + 1)] 75)).alloc (.cells #[.int .u64 ah, .int .u64 al, .pointer (some (zp p4 p6 true))] 32) = W0 := ⟨_, rfl⟩
  obtain ⟨pb, hpb⟩ : ∃ pb, w.heap.size = pb := ⟨_, rfl⟩
  rw [hW0, hpb]
  have HP := hid (show W0.heap[pb]? = some (.cells #[.int .u64 ph, .int .u64 pl, .pointer (some (zp p4 p6 true)), .int .u8 ((m : Int) + 1)] 75 (0, 0)) by rw [← hW0, ← hpb]; exact heapOld4 (heap_alloc_new _ _) _)
  have HA := hid (show W0.heap[pb + 1]? = some (.cells #[.int .u64 ah, .int .u64 al, .pointer (some (zp p4 p6 true))] 32 (0, 0)) by rw [← hW0, ← hpb]; have := heap_alloc_new (w.alloc (.cells #[.int .u64 ph, .int .u64 pl, .pointer (some (zp p4 p6 true)), .int .u8 ((m : Int) + 1)] 75)) (.cells #[.int .u64 ah, .int .u64 al, .pointer (some (zp p4 p6 true))] 32); rw [World.size_alloc] at this; exact this)
  have HZ := hid (show Z3 W0 p4 p6 by rw [← hW0]; exact (hz.alloc _).alloc _)
  have HB := hid (show Below w.heap.size w W0 by rw [← hW0]; exact ((Below.refl _ _).alloc (Nat.le_refl _) _).alloc (by simp) _)
  have HLT := hid (heap_lt HP.out)
  have HLA := hid (heap_lt HA.out)
  clear hW0 hz
  go_wp2_with (first
    | (refine wpList_load_row rfl 75 (.tmp 2) rfl pb rfl 75 _ (0, 0) _ HP.out Tryd.underlying75 rfl sz75 ?_)
    | (refine wpList_load_row rfl 32 (.tmp 3) rfl (pb + 1) rfl 32 _ (0, 0) _ ((HB1.out.block (pb + 1) HLA.out).trans HA.out) Tryd.underlying32 rfl sz32 ?_)
    | (go_at_call 44; refine (isValid_any ph pl (zp p4 p6 true) ((m : Int) + 1) _).mono ?_; rw [hval]; rintro e w1 ⟨rfl, hb1⟩; have HB1 := hid hb1; obtain ⟨a0, a1, a2, _⟩ := cells3 ((hb1.block (pb + 1) HLA.out).trans HA.out); clear hb1)
    | (go_at_call 45; refine (hasZone_any true ah al p4 p6 _ (HZ.out.below HB1.out)).mono ?_; rintro e w2 ⟨rfl, hb2⟩; have HB2 := hid (HB1.out.trans (hb2.mono HB1.out.size)); clear hb2))
  go_cut [5, 6] from 14 to 18 (fun v5 v6 wc => v5 = .int .i64 (if true then 32 else 128) ∧ v6 = .int .i64 (if true then 32 else 128) ∧ Below W0.heap.size W0 wc)
  case first =>
    have hS0 := HB2.out
    refine wp_region_held_drew (S := fun W => Below W0.heap.size W0 W) (by kernel_rfl) (hS0.drew) (fun hHeld => ?_)
    clear hS0
    refine wpAnyH_take (i := 0) (v := ?_) rfl (by kernel_rfl) (by kernel_rfl) (by kernel_rfl) (fun _ _ _ h => h) (Or.inl ⟨by kernel_rfl, ?_⟩) (by assumption) ?_
    rotate_left
    · intro w hSw; go_simp; with_reducible rfl
    try simp (maxSteps := 2000000) only [Act.put, List.getElem_toArray, List.getElem_cons_succ, List.getElem_cons_zero, List.setIfInBounds_toArray, List.set_cons_zero, List.set_cons_succ]
    refine wpAnyH_take (i := 1) (v := _) rfl (by kernel_rfl) (by kernel_rfl) (by kernel_rfl) (fun _ _ _ h => h) (yieldsIf_load_mid (by kernel_rfl) _ _ rfl _ _ rfl [.int .u64 ph, .int .u64 pl, .pointer (some (zp p4 p6 true))] _ (fun W hSw => range_row' (o := 0) (n := 3) ((hSw.block pb HLT.out).trans HP.out) rfl) Tryd.underlying32 rfl sz32) (by assumption) ?_
    try simp (maxSteps := 2000000) only [Act.put, List.getElem_toArray, List.getElem_cons_succ, List.getElem_cons_zero, List.setIfInBounds_toArray, List.set_cons_zero, List.set_cons_succ]
    refine wpAnyH_take (i := 3) (v := _) rfl (by kernel_rfl) (by kernel_rfl) (by kernel_rfl) (fun _ _ _ h => h) (yieldsIf_load_mid (by kernel_rfl) _ _ rfl _ _ rfl [.int .u64 ah, .int .u64 al, .pointer (some (zp p4 p6 true))] _ (fun W hSw => range_row' (o := 0) (n := 3) ((hSw.block (pb + 1) HLA.out).trans HA.out) rfl) Tryd.underlying32 rfl sz32) (by assumption) ?_
    try simp (maxSteps := 2000000) only [Act.put, List.getElem_toArray, List.getElem_cons_succ, List.getElem_cons_zero, List.setIfInBounds_toArray, List.set_cons_zero, List.set_cons_succ]
    refine wpAnyH_ready (rs := [2]) (by kernel_rfl) (by simp) ?_
    refine AllReadyH.cons rfl (fun K hK => ?_) AllReadyH.nil
    go_simp
    refine (bitLen_any true ph pl p4 p6 _ (HZ.out.below hHeld)).mono ?_
    rintro e w3 ⟨rfl, hbc⟩
    go_wp2_with fail
    refine hK.out _ _ (hHeld.trans (hbc.mono hHeld.size)) (fun hHeld => ?_)
    clear hK K hbc
    try simp (maxSteps := 2000000) only [Act.put, List.getElem_toArray, List.getElem_cons_succ, List.getElem_cons_zero, List.setIfInBounds_toArray, List.set_cons_zero, List.set_cons_succ]
    refine wpAnyH_ready (rs := [4]) (by kernel_rfl) (by simp) ?_
    refine AllReadyH.cons rfl (fun K hK => ?_) AllReadyH.nil
    go_simp
    refine (bitLen_any true ah al p4 p6 _ (HZ.out.below hHeld)).mono ?_
    rintro e w4 ⟨rfl, hbc⟩
    go_wp2_with fail
    refine hK.out _ _ (hHeld.trans (hbc.mono hHeld.size)) (fun hHeld => ?_)
    clear hK K hbc
    try simp (maxSteps := 2000000) only [Act.put, List.getElem_toArray, List.getElem_cons_succ, List.getElem_cons_zero, List.setIfInBounds_toArray, List.set_cons_zero, List.set_cons_succ]
    refine wpAnyH_take (i := 5) (v := ?_) rfl (by kernel_rfl) (by kernel_rfl) (by kernel_rfl) (fun _ _ _ h => h) (Or.inl ⟨by kernel_rfl, ?_⟩) (by assumption) ?_
    rotate_left
    · intro w hSw; go_simp; with_reducible rfl
    try simp (maxSteps := 2000000) only [Act.put, List.getElem_toArray, List.getElem_cons_succ, List.getElem_cons_zero, List.setIfInBounds_toArray, List.set_cons_zero, List.set_cons_succ]
    refine wpAnyH_take (i := 6) (v := ?_) rfl (by kernel_rfl) (by kernel_rfl) (by kernel_rfl) (fun _ _ _ h => h) (Or.inl ⟨by kernel_rfl, ?_⟩) (by assumption) ?_
    rotate_left
    · intro w hSw; go_simp; with_reducible rfl
    try simp (maxSteps := 2000000) only [Act.put, List.getElem_toArray, List.getElem_cons_succ, List.getElem_cons_zero, List.setIfInBounds_toArray, List.set_cons_zero, List.set_cons_succ]
    refine wpAnyH_done (by kernel_rfl) ?_ _
    go_wp2_with fail
    go_meet
    case rel => exact ⟨rfl, rfl, hHeld⟩
  case rest =>
    obtain ⟨rfl, rfl, hbc⟩ := hcut
    have HC := hid hbc
    clear hbc
    go_wp2_with (first
      | (refine wpList_load_row rfl 32 (.tmp 3) rfl (pb + 1) rfl 32 _ (0, 0) _ ((HC.out.block (pb + 1) HLA.out).trans HA.out) Tryd.underlying32 rfl sz32 ?_)
      | (go_at_call 36; refine (is4_any true ah al p4 p6 _ (HZ.out.z.below HC.out)).mono ?_; rintro e w5 ⟨rfl, hb5⟩; have hS0 := HC.out.trans (hb5.mono HC.out.size); clear hb5))
    refine wp_region_held_drew (S := fun W => Below W0.heap.size W0 W) (by kernel_rfl) (hS0.drew) (fun hHeld => ?_)
    clear hS0
    refine wpAnyH_take (i := 0) (v := ?_) rfl (by kernel_rfl) (by kernel_rfl) (by kernel_rfl) (fun _ _ _ h => h) (Or.inl ⟨by kernel_rfl, ?_⟩) (by assumption) ?_
    rotate_left
    · intro w hSw; go_simp; with_reducible rfl
    try simp (maxSteps := 2000000) only [Act.put, List.getElem_toArray, List.getElem_cons_succ, List.getElem_cons_zero, List.setIfInBounds_toArray, List.set_cons_zero, List.set_cons_succ]
    refine wpAnyH_take (i := 1) (v := ?_) rfl (by kernel_rfl) (by kernel_rfl) (by kernel_rfl) (fun _ _ _ h => h) (Or.inl ⟨by kernel_rfl, ?_⟩) (by assumption) ?_
    rotate_left
    · intro w hSw; go_simp; with_reducible rfl
    try simp (maxSteps := 2000000) only [Act.put, List.getElem_toArray, List.getElem_cons_succ, List.getElem_cons_zero, List.setIfInBounds_toArray, List.set_cons_zero, List.set_cons_succ]
    refine wpAnyH_take (i := 2) (v := ?_) rfl (by kernel_rfl) (by kernel_rfl) (by kernel_rfl) (fun _ _ _ h => h) (Or.inl ⟨by kernel_rfl, ?_⟩) (by assumption) ?_
    rotate_left
    · intro w hSw; have hcl : w.cell? ⟨(pb + 1), 1, none⟩ = some (.int .u64 al) := (hSw.cell (p := ⟨(pb + 1), 1, none⟩) HLA.out).trans (cell_of_row W0 (pb + 1) 1 _ 32 (0, 0) HA.out); go_simp; with_reducible rfl
    try simp (maxSteps := 2000000) only [Act.put, List.getElem_toArray, List.getElem_cons_succ, List.getElem_cons_zero, List.setIfInBounds_toArray, List.set_cons_zero, List.set_cons_succ]
    refine wpAnyH_take (i := 3) (v := ?_) rfl (by kernel_rfl) (by kernel_rfl) (by kernel_rfl) (fun _ _ _ h => h) (Or.inl ⟨by kernel_rfl, ?_⟩) (by assumption) ?_
    rotate_left
    · intro w hSw; go_simp; with_reducible rfl
    try simp (maxSteps := 2000000) only [Act.put, List.getElem_toArray, List.getElem_cons_succ, List.getElem_cons_zero, List.setIfInBounds_toArray, List.set_cons_zero, List.set_cons_succ]
    refine wpAnyH_take (i := 4) (v := ?_) rfl (by kernel_rfl) (by kernel_rfl) (by kernel_rfl) (fun _ _ _ h => h) (Or.inl ⟨by kernel_rfl, ?_⟩) (by assumption) ?_
    rotate_left
    · intro w hSw; go_simp; with_reducible rfl
    try simp (maxSteps := 2000000) only [Act.put, List.getElem_toArray, List.getElem_cons_succ, List.getElem_cons_zero, List.setIfInBounds_toArray, List.set_cons_zero, List.set_cons_succ]
    refine wpAnyH_take (i := 5) (v := ?_) rfl (by kernel_rfl) (by kernel_rfl) (by kernel_rfl) (fun _ _ _ h => h) (Or.inl ⟨by kernel_rfl, ?_⟩) (by assumption) ?_
    rotate_left
    · intro w hSw; go_simp; with_reducible rfl
    try simp (maxSteps := 2000000) only [Act.put, List.getElem_toArray, List.getElem_cons_succ, List.getElem_cons_zero, List.setIfInBounds_toArray, List.set_cons_zero, List.set_cons_succ]
    refine wpAnyH_take (i := 6) (v := ?_) rfl (by kernel_rfl) (by kernel_rfl) (by kernel_rfl) (fun _ _ _ h => h) (Or.inl ⟨by kernel_rfl, ?_⟩) (by assumption) ?_
    rotate_left
    · intro w hSw; have hcl : w.cell? ⟨pb, 1, none⟩ = some (.int .u64 pl) := (hSw.cell (p := ⟨pb, 1, none⟩) HLT.out).trans (cell_of_row W0 pb 1 _ 75 (0, 0) HP.out); go_simp; with_reducible rfl
    try simp (maxSteps := 2000000) only [Act.put, List.getElem_toArray, List.getElem_cons_succ, List.getElem_cons_zero, List.setIfInBounds_toArray, List.set_cons_zero, List.set_cons_succ]
    refine wpAnyH_take (i := 7) (v := ?_) rfl (by kernel_rfl) (by kernel_rfl) (by kernel_rfl) (fun _ _ _ h => h) (Or.inl ⟨by kernel_rfl, ?_⟩) (by assumption) ?_
    rotate_left
    · intro w hSw; go_simp; with_reducible rfl
    try simp (maxSteps := 2000000) only [Act.put, List.getElem_toArray, List.getElem_cons_succ, List.getElem_cons_zero, List.setIfInBounds_toArray, List.set_cons_zero, List.set_cons_succ]
    refine wpAnyH_take (i := 8) (v := _) rfl (by kernel_rfl) (by kernel_rfl) (by kernel_rfl) (fun _ _ _ h => h) (yieldsIf_load_mid (by kernel_rfl) _ _ rfl _ _ rfl [.int .u64 ph, .int .u64 pl, .pointer (some (zp p4 p6 true)), .int .u8 ((m : Int) + 1)] _ (fun W hSw => range_row' (o := 0) (n := 4) ((hSw.block pb HLT.out).trans HP.out) rfl) Tryd.underlying75 rfl sz75) (by assumption) ?_
    try simp (maxSteps := 2000000) only [Act.put, List.getElem_toArray, List.getElem_cons_succ, List.getElem_cons_zero, List.setIfInBounds_toArray, List.set_cons_zero, List.set_cons_succ]
    refine wpAnyH_ready (rs := [9]) (by kernel_rfl) (by simp) ?_
    refine AllReadyH.cons rfl (fun K hK => ?_) AllReadyH.nil
    go_simp
    refine (pbits_any ph pl (zp p4 p6 true) ((m : Int) + 1) _ (by omega) (by omega)).mono ?_
    rintro e w6 ⟨rfl, hbc⟩
    rw [hm1]
    go_wp2_with fail
    refine hK.out _ _ (hHeld.trans (hbc.mono hHeld.size)) (fun hHeld => ?_)
    clear hK K hbc
    try simp (maxSteps := 2000000) only [Act.put, List.getElem_toArray, List.getElem_cons_succ, List.getElem_cons_zero, List.setIfInBounds_toArray, List.set_cons_zero, List.set_cons_succ]
    refine wpAnyH_take (i := 10) (v := ?_) rfl (by kernel_rfl) (by kernel_rfl) (by kernel_rfl) (fun _ _ _ h => h) (Or.inl ⟨by kernel_rfl, ?_⟩) (by assumption) ?_
    rotate_left
    · intro w hSw; go_simp; with_reducible rfl
    try simp (maxSteps := 2000000) only [Act.put, List.getElem_toArray, List.getElem_cons_succ, List.getElem_cons_zero, List.setIfInBounds_toArray, List.set_cons_zero, List.set_cons_succ]
    refine wpAnyH_take (i := 11) (v := ?_) rfl (by kernel_rfl) (by kernel_rfl) (by kernel_rfl) (fun _ _ _ h => h) (Or.inl ⟨by kernel_rfl, ?_⟩) (by assumption) ?_
    rotate_left
    · intro w hSw; go_simp; with_reducible rfl
    try simp (maxSteps := 2000000) only [Act.put, List.getElem_toArray, List.getElem_cons_succ, List.getElem_cons_zero, List.setIfInBounds_toArray, List.set_cons_zero, List.set_cons_succ]
    refine wpAnyH_take (i := 12) (v := ?_) rfl (by kernel_rfl) (by kernel_rfl) (by kernel_rfl) (fun _ _ _ h => h) (Or.inl ⟨by kernel_rfl, ?_⟩) (by assumption) ?_
    rotate_left
    · intro w hSw; go_simp; with_reducible rfl
    try simp (maxSteps := 2000000) only [Act.put, List.getElem_toArray, List.getElem_cons_succ, List.getElem_cons_zero, List.setIfInBounds_toArray, List.set_cons_zero, List.set_cons_succ]
    refine wpAnyH_take (i := 13) (v := ?_) rfl (by kernel_rfl) (by kernel_rfl) (by kernel_rfl) (fun _ _ _ h => h) (Or.inl ⟨by kernel_rfl, ?_⟩) (by assumption) ?_
    rotate_left
    · intro w hSw; go_simp; with_reducible rfl
    try simp (maxSteps := 2000000) only [Act.put, List.getElem_toArray, List.getElem_cons_succ, List.getElem_cons_zero, List.setIfInBounds_toArray, List.set_cons_zero, List.set_cons_succ]
    refine wpAnyH_take (i := 14) (v := ?_) rfl (by kernel_rfl) (by kernel_rfl) (by kernel_rfl) (fun _ _ _ h => h) (Or.inl ⟨by kernel_rfl, ?_⟩) (by assumption) ?_
    rotate_left
    · intro w hSw; go_simp; with_reducible rfl
    try simp (maxSteps := 2000000) only [Act.put, List.getElem_toArray, List.getElem_cons_succ, List.getElem_cons_zero, List.setIfInBounds_toArray, List.set_cons_zero, List.set_cons_succ]
    refine wpAnyH_take (i := 15) (v := ?_) rfl (by kernel_rfl) (by kernel_rfl) (by kernel_rfl) (fun _ _ _ h => h) (Or.inl ⟨by kernel_rfl, ?_⟩) (by assumption) ?_
    rotate_left
    · intro w hSw; go_simp; with_reducible rfl
    try simp (maxSteps := 2000000) only [Act.put, List.getElem_toArray, List.getElem_cons_succ, List.getElem_cons_zero, List.setIfInBounds_toArray, List.set_cons_zero, List.set_cons_succ]
    refine wpAnyH_done (by kernel_rfl) ?_ _
    go_wp2_with fail
    go_ret
    exact ⟨rfl, HB.out.trans (hHeld.mono HB.out.size)⟩

set_option maxRecDepth 100000 in
set_option maxHeartbeats 4000000 in
theorem contains_6 (m : Nat) (hm : m ≤ 128) (ph pl ah al : Int) (p4 p6 : Addr) (w : World) (hz : Z3 w p4 p6) :
    Calls Tryd.prog 38 #[.agg #[.int .u64 ph, .int .u64 pl, .pointer (some (zp p4 p6 false)), .int .u8 ((m : Int) + 1)], .agg #[.int .u64 ah, .int .u64 al, .pointer (some (zp p4 p6 false))]] w fun e w' => e = .returned (.bool (bits .or .u64 (bits .and .u64 (bits .xor .u64 ah ph) (mhi m)) (bits .and .u64 (bits .xor .u64 al pl) (mlo m)) == 0)) ∧ Below w.heap.size w w' := by
  have hval : decide ((0 : Int) < (m : Int) + 1) = true := decide_eq_true (by omega)
  have hm1 : (m : Int) + 1 - 1 = m := by omega
  go_enter Tryd.func38, Tryd.ntmps38
  go_upto_region 1 with fail
  obtain ⟨W0, hW0⟩ : ∃ W0, (w.alloc (.cells #[.int .u64 ph, .int .u64 pl, .pointer (some (zp p4 p6 false)), .int .u8 ((m : Int) + 1)] 75)).alloc (.cells #[.int .u64 ah, .int .u64 al, .pointer (some (zp p4 p6 false))] 32) = W0 := ⟨_, rfl⟩
  obtain ⟨pb, hpb⟩ : ∃ pb, w.heap.size = pb := ⟨_, rfl⟩
  rw [hW0, hpb]
  have HP := hid (show W0.heap[pb]? = some (.cells #[.int .u64 ph, .int .u64 pl, .pointer (some (zp p4 p6 false)), .int .u8 ((m : Int) + 1)] 75 (0, 0)) by rw [← hW0, ← hpb]; exact heapOld4 (heap_alloc_new _ _) _)
  have HA := hid (show W0.heap[pb + 1]? = some (.cells #[.int .u64 ah, .int .u64 al, .pointer (some (zp p4 p6 false))] 32 (0, 0)) by rw [← hW0, ← hpb]; have := heap_alloc_new (w.alloc (.cells #[.int .u64 ph, .int .u64 pl, .pointer (some (zp p4 p6 false)), .int .u8 ((m : Int) + 1)] 75)) (.cells #[.int .u64 ah, .int .u64 al, .pointer (some (zp p4 p6 false))] 32); rw [World.size_alloc] at this; exact this)
  have HZ := hid (show Z3 W0 p4 p6 by rw [← hW0]; exact (hz.alloc _).alloc _)
  have HB := hid (show Below w.heap.size w W0 by rw [← hW0]; exact ((Below.refl _ _).alloc (Nat.le_refl _) _).alloc (by simp) _)
  have HLT := hid (heap_lt HP.out)
  have HLA := hid (heap_lt HA.out)
  clear hW0 hz
  go_wp2_with (first
    | (refine wpList_load_row rfl 75 (.tmp 2) rfl pb rfl 75 _ (0, 0) _ HP.out Tryd.underlying75 rfl sz75 ?_)
    | (refine wpList_load_row rfl 32 (.tmp 3) rfl (pb + 1) rfl 32 _ (0, 0) _ ((HB1.out.block (pb + 1) HLA.out).trans HA.out) Tryd.underlying32 rfl sz32 ?_)
    | (go_at_call 44; refine (isValid_any ph pl (zp p4 p6 false) ((m : Int) + 1) _).mono ?_; rw [hval]; rintro e w1 ⟨rfl, hb1⟩; have HB1 := hid hb1; obtain ⟨a0, a1, a2, _⟩ := cells3 ((hb1.block (pb + 1) HLA.out).trans HA.out); clear hb1)
    | (go_at_call 45; refine (hasZone_any false ah al p4 p6 _ (HZ.out.below HB1.out)).mono ?_; rintro e w2 ⟨rfl, hb2⟩; have HB2 := hid (HB1.out.trans (hb2.mono HB1.out.size)); clear hb2))
  go_cut [5, 6] from 14 to 18 (fun v5 v6 wc => v5 = .int .i64 (if false then 32 else 128) ∧ v6 = .int .i64 (if false then 32 else 128) ∧ Below W0.heap.size W0 wc)
  case first =>
    have hS0 := HB2.out
    refine wp_region_held_drew (S := fun W => Below W0.heap.size W0 W) (by kernel_rfl) (hS0.drew) (fun hHeld => ?_)
    clear hS0
    refine wpAnyH_take (i := 0) (v := ?_) rfl (by kernel_rfl) (by kernel_rfl) (by kernel_rfl) (fun _ _ _ h => h) (Or.inl ⟨by kernel_rfl, ?_⟩) (by assumption) ?_
    rotate_left
    · intro w hSw; go_simp; with_reducible rfl
    try simp (maxSteps := 2000000) only [Act.put, List.getElem_toArray, List.getElem_cons_succ, List.getElem_cons_zero, List.setIfInBounds_toArray, List.set_cons_zero, List.set_cons_succ]
    refine wpAnyH_take (i := 1) (v := _) rfl (by kernel_rfl) (by kernel_rfl) (by kernel_rfl) (fun _ _ _ h => h) (yieldsIf_load_mid (by kernel_rfl) _ _ rfl _ _ rfl [.int .u64 ph, .int .u64 pl, .pointer (some (zp p4 p6 false))] _ (fun W hSw => range_row' (o := 0) (n := 3) ((hSw.block pb HLT.out).trans HP.out) rfl) Tryd.underlying32 rfl sz32) (by assumption) ?_
    try simp (maxSteps := 2000000) only [Act.put, List.getElem_toArray, List.getElem_cons_succ, List.getElem_cons_zero, List.setIfInBounds_toArray, List.set_cons_zero, List.set_cons_succ]
    refine wpAnyH_take (i := 3) (v := _) rfl (by kernel_rfl) (by kernel_rfl) (by kernel_rfl) (fun _ _ _ h => h) (yieldsIf_load_mid (by kernel_rfl) _ _ rfl _ _ rfl [.int .u64 ah, .int .u64 al, .pointer (some (zp p4 p6 false))] _ (fun W hSw => range_row' (o := 0) (n := 3) ((hSw.block (pb + 1) HLA.out).trans HA.out) rfl) Tryd.underlying32 rfl sz32) (by assumption) ?_
    try simp (maxSteps := 2000000) only [Act.put, List.getElem_toArray, List.getElem_cons_succ, List.getElem_cons_zero, List.setIfInBounds_toArray, List.set_cons_zero, List.set_cons_succ]
    refine wpAnyH_ready (rs := [2]) (by kernel_rfl) (by simp) ?_
    refine AllReadyH.cons rfl (fun K hK => ?_) AllReadyH.nil
    go_simp
    refine (bitLen_any false ph pl p4 p6 _ (HZ.out.below hHeld)).mono ?_
    rintro e w3 ⟨rfl, hbc⟩
    go_wp2_with fail
    refine hK.out _ _ (hHeld.trans (hbc.mono hHeld.size)) (fun hHeld => ?_)
    clear hK K hbc
    try simp (maxSteps := 2000000) only [Act.put, List.getElem_toArray, List.getElem_cons_succ, List.getElem_cons_zero, List.setIfInBounds_toArray, List.set_cons_zero, List.set_cons_succ]
    refine wpAnyH_ready (rs := [4]) (by kernel_rfl) (by simp) ?_
    refine AllReadyH.cons rfl (fun K hK => ?_) AllReadyH.nil
    go_simp
    refine (bitLen_any false ah al p4 p6 _ (HZ.out.below hHeld)).mono ?_
    rintro e w4 ⟨rfl, hbc⟩
    go_wp2_with fail
    refine hK.out _ _ (hHeld.trans (hbc.mono hHeld.size)) (fun hHeld => ?_)
    clear hK K hbc
    try simp (maxSteps := 2000000) only [Act.put, List.getElem_toArray, List.getElem_cons_succ, List.getElem_cons_zero, List.setIfInBounds_toArray, List.set_cons_zero, List.set_cons_succ]
    refine wpAnyH_take (i := 5) (v := ?_) rfl (by kernel_rfl) (by kernel_rfl) (by kernel_rfl) (fun _ _ _ h => h) (Or.inl ⟨by kernel_rfl, ?_⟩) (by assumption) ?_
    rotate_left
    · intro w hSw; go_simp; with_reducible rfl
    try simp (maxSteps := 2000000) only [Act.put, List.getElem_toArray, List.getElem_cons_succ, List.getElem_cons_zero, List.setIfInBounds_toArray, List.set_cons_zero, List.set_cons_succ]
    refine wpAnyH_take (i := 6) (v := ?_) rfl (by kernel_rfl) (by kernel_rfl) (by kernel_rfl) (fun _ _ _ h => h) (Or.inl ⟨by kernel_rfl, ?_⟩) (by assumption) ?_
    rotate_left
    · intro w hSw; go_simp; with_reducible rfl
    try simp (maxSteps := 2000000) only [Act.put, List.getElem_toArray, List.getElem_cons_succ, List.getElem_cons_zero, List.setIfInBounds_toArray, List.set_cons_zero, List.set_cons_succ]
    refine wpAnyH_done (by kernel_rfl) ?_ _
    go_wp2_with fail
    go_meet
    case rel => exact ⟨rfl, rfl, hHeld⟩
  case rest =>
    obtain ⟨rfl, rfl, hbc⟩ := hcut
    have HC := hid hbc
    clear hbc
    go_wp2_with (first
      | (refine wpList_load_row rfl 32 (.tmp 3) rfl (pb + 1) rfl 32 _ (0, 0) _ ((HC.out.block (pb + 1) HLA.out).trans HA.out) Tryd.underlying32 rfl sz32 ?_)
      | (go_at_call 36; refine (is4_any false ah al p4 p6 _ (HZ.out.z.below HC.out)).mono ?_; rintro e w5 ⟨rfl, hb5⟩; have hS0 := HC.out.trans (hb5.mono HC.out.size); clear hb5))
    refine wp_region_held_drew (S := fun W => Below W0.heap.size W0 W) (by kernel_rfl) (hS0.drew) (fun hHeld => ?_)
    clear hS0
    refine wpAnyH_take (i := 0) (v := ?_) rfl (by kernel_rfl) (by kernel_rfl) (by kernel_rfl) (fun _ _ _ h => h) (Or.inl ⟨by kernel_rfl, ?_⟩) (by assumption) ?_
    rotate_left
    · intro w hSw; go_simp; with_reducible rfl
    try simp (maxSteps := 2000000) only [Act.put, List.getElem_toArray, List.getElem_cons_succ, List.getElem_cons_zero, List.setIfInBounds_toArray, List.set_cons_zero, List.set_cons_succ]
    refine wpAnyH_take (i := 1) (v := _) rfl (by kernel_rfl) (by kernel_rfl) (by kernel_rfl) (fun _ _ _ h => h) (yieldsIf_load_mid (by kernel_rfl) _ _ rfl _ _ rfl [.int .u64 ah, .int .u64 al] _ (fun W hSw => range_row' (o := 0) (n := 2) ((hSw.block (pb + 1) HLA.out).trans HA.out) rfl) Tryd.underlying27 rfl sz27) (by assumption) ?_
    try simp (maxSteps := 2000000) only [Act.put, List.getElem_toArray, List.getElem_cons_succ, List.getElem_cons_zero, List.setIfInBounds_toArray, List.set_cons_zero, List.set_cons_succ]
    refine wpAnyH_take (i := 2) (v := ?_) rfl (by kernel_rfl) (by kernel_rfl) (by kernel_rfl) (fun _ _ _ h => h) (Or.inl ⟨by kernel_rfl, ?_⟩) (by assumption) ?_
    rotate_left
    · intro w hSw; go_simp; with_reducible rfl
    try simp (maxSteps := 2000000) only [Act.put, List.getElem_toArray, List.getElem_cons_succ, List.getElem_cons_zero, List.setIfInBounds_toArray, List.set_cons_zero, List.set_cons_succ]
    refine wpAnyH_take (i := 3) (v := ?_) rfl (by kernel_rfl) (by kernel_rfl) (by kernel_rfl) (fun _ _ _ h => h) (Or.inl ⟨by kernel_rfl, ?_⟩) (by assumption) ?_
    rotate_left
    · intro w hSw; go_simp; with_reducible rfl
    try simp (maxSteps := 2000000) only [Act.put, List.getElem_toArray, List.getElem_cons_succ, List.getElem_cons_zero, List.setIfInBounds_toArray, List.set_cons_zero, List.set_cons_succ]
    refine wpAnyH_take (i := 4) (v := _) rfl (by kernel_rfl) (by kernel_rfl) (by kernel_rfl) (fun _ _ _ h => h) (yieldsIf_load_mid (by kernel_rfl) _ _ rfl _ _ rfl [.int .u64 ph, .int .u64 pl] _ (fun W hSw => range_row' (o := 0) (n := 2) ((hSw.block pb HLT.out).trans HP.out) rfl) Tryd.underlying27 rfl sz27) (by assumption) ?_
    try simp (maxSteps := 2000000) only [Act.put, List.getElem_toArray, List.getElem_cons_succ, List.getElem_cons_zero, List.setIfInBounds_toArray, List.set_cons_zero, List.set_cons_succ]
    refine wpAnyH_take (i := 6) (v := _) rfl (by kernel_rfl) (by kernel_rfl) (by kernel_rfl) (fun _ _ _ h => h) (yieldsIf_load_mid (by kernel_rfl) _ _ rfl _ _ rfl [.int .u64 ph, .int .u64 pl, .pointer (some (zp p4 p6 false)), .int .u8 ((m : Int) + 1)] _ (fun W hSw => range_row' (o := 0) (n := 4) ((hSw.block pb HLT.out).trans HP.out) rfl) Tryd.underlying75 rfl sz75) (by assumption) ?_
    try simp (maxSteps := 2000000) only [Act.put, List.getElem_toArray, List.getElem_cons_succ, List.getElem_cons_zero, List.setIfInBounds_toArray, List.set_cons_zero, List.set_cons_succ]
    refine wpAnyH_ready (rs := [5]) (by kernel_rfl) (by simp) ?_
    refine AllReadyH.cons rfl (fun K hK => ?_) AllReadyH.nil
    go_simp
    refine (xor128_any ah al ph pl _).mono ?_
    rintro e x1 ⟨rfl, hbc⟩
    go_wp2_with fail
    refine hK.out _ _ (hHeld.trans (hbc.mono hHeld.size)) (fun hHeld => ?_)
    clear hK K hbc
    try simp (maxSteps := 2000000) only [Act.put, List.getElem_toArray, List.getElem_cons_succ, List.getElem_cons_zero, List.setIfInBounds_toArray, List.set_cons_zero, List.set_cons_succ]
    refine wpAnyH_ready (rs := [7]) (by kernel_rfl) (by simp) ?_
    refine AllReadyH.cons rfl (fun K hK => ?_) AllReadyH.nil
    go_simp
    refine (pbits_any ph pl (zp p4 p6 false) ((m : Int) + 1) _ (by omega) (by omega)).mono ?_
    rintro e x2 ⟨rfl, hbc⟩
    rw [hm1]
    go_wp2_with fail
    refine hK.out _ _ (hHeld.trans (hbc.mono hHeld.size)) (fun hHeld => ?_)
    clear hK K hbc
    try simp (maxSteps := 2000000) only [Act.put, List.getElem_toArray, List.getElem_cons_succ, List.getElem_cons_zero, List.setIfInBounds_toArray, List.set_cons_zero, List.set_cons_succ]
    refine wpAnyH_ready (rs := [8]) (by kernel_rfl) (by simp) ?_
    refine AllReadyH.cons rfl (fun K hK => ?_) AllReadyH.nil
    go_simp
    refine (mask6_any m hm _).mono ?_
    rintro e x3 ⟨rfl, hbc⟩
    go_wp2_with fail
    refine hK.out _ _ (hHeld.trans (hbc.mono hHeld.size)) (fun hHeld => ?_)
    clear hK K hbc
    try simp (maxSteps := 2000000) only [Act.put, List.getElem_toArray, List.getElem_cons_succ, List.getElem_cons_zero, List.setIfInBounds_toArray, List.set_cons_zero, List.set_cons_succ]
    refine wpAnyH_ready (rs := [9]) (by kernel_rfl) (by simp) ?_
    refine AllReadyH.cons rfl (fun K hK => ?_) AllReadyH.nil
    go_simp
    refine (and128_any (bits .xor .u64 ah ph) (bits .xor .u64 al pl) (mhi m) (mlo m) _).mono ?_
    rintro e x4 ⟨rfl, hbc⟩
    go_wp2_with fail
    refine hK.out _ _ (hHeld.trans (hbc.mono hHeld.size)) (fun hHeld => ?_)
    clear hK K hbc
    try simp (maxSteps := 2000000) only [Act.put, List.getElem_toArray, List.getElem_cons_succ, List.getElem_cons_zero, List.setIfInBounds_toArray, List.set_cons_zero, List.set_cons_succ]
    refine wpAnyH_ready (rs := [10]) (by kernel_rfl) (by simp) ?_
    refine AllReadyH.cons rfl (fun K hK => ?_) AllReadyH.nil
    go_simp
    refine (zero128_any (bits .and .u64 (bits .xor .u64 ah ph) (mhi m)) (bits .and .u64 (bits .xor .u64 al pl) (mlo m)) _).mono ?_
    rintro e x5 ⟨rfl, hbc⟩
    go_wp2_with fail
    refine hK.out _ _ (hHeld.trans (hbc.mono hHeld.size)) (fun hHeld => ?_)
    clear hK K hbc
    try simp (maxSteps := 2000000) only [Act.put, List.getElem_toArray, List.getElem_cons_succ, List.getElem_cons_zero, List.setIfInBounds_toArray, List.set_cons_zero, List.set_cons_succ]
    refine wpAnyH_take (i := 11) (v := ?_) rfl (by kernel_rfl) (by kernel_rfl) (by kernel_rfl) (fun _ _ _ h => h) (Or.inl ⟨by kernel_rfl, ?_⟩) (by assumption) ?_
    rotate_left
    · intro w hSw; go_simp; with_reducible rfl
    try simp (maxSteps := 2000000) only [Act.put, List.getElem_toArray, List.getElem_cons_succ, List.getElem_cons_zero, List.setIfInBounds_toArray, List.set_cons_zero, List.set_cons_succ]
    refine wpAnyH_done (by kernel_rfl) ?_ _
    go_wp2_with fail
    go_ret
    exact ⟨rfl, HB.out.trans (hHeld.mono HB.out.size)⟩

/-- The bits, one more; 0 where they are out of range. -/
def bpo (pis4 : Bool) (n : Int) : Int := if 0 ≤ n ∧ n ≤ (if pis4 then 32 else 128) then n + 1 else 0
theorem contains_any (pis4 is4 : Bool) (p a : Nat → UInt8) (n : Int) (p4 p6 : Addr) (w : World) (hz : Z3 w p4 p6) :
    Calls Tryd.prog 38 #[.agg #[.int .u64 (ahi pis4 p), .int .u64 (alo pis4 p), .pointer (some (zp p4 p6 pis4)), .int .u8 (bpo pis4 n)], .agg #[.int .u64 (ahi is4 a), .int .u64 (alo is4 a), .pointer (some (zp p4 p6 is4))]] w fun e w' => e = .returned (.bool (hold pis4 p n is4 a)) ∧ Below w.heap.size w w' := by
  by_cases hr : 0 ≤ n ∧ n ≤ (if pis4 then 32 else 128)
  · have eb : bpo pis4 n = n + 1 := if_pos hr
    obtain ⟨m, rfl⟩ := Int.eq_ofNat_of_zero_le hr.1
    have eh : hold pis4 p (m : Int) is4 a = ((pis4 == is4) && agree p a m) := by
      unfold hold
      rw [decide_eq_true hr, Bool.true_and]
      rfl
    rw [eb, eh]
    cases pis4 <;> cases is4
    · have hm : m ≤ 128 := by have := hr.2; simp at this; omega
      have e := six a p m hm
      have := contains_6 m hm (ahi false p) (alo false p) (ahi false a) (alo false a) p4 p6 w hz
      rw [show (ahi false a) = ((beN a 8 : Nat) : Int) from rfl, show (alo false a) = ((beN (fun j => a (8 + j)) 8 : Nat) : Int) from rfl, show (ahi false p) = ((beN p 8 : Nat) : Int) from rfl, show (alo false p) = ((beN (fun j => p (8 + j)) 8 : Nat) : Int) from rfl, e] at this
      exact this
    · exact contains_64 m (ahi false p) (alo false p) (ahi true a) (alo true a) p4 p6 w hz
    · exact contains_46 m (ahi true p) (alo true p) (ahi false a) (alo false a) p4 p6 w hz
    · have hm : m ≤ 32 := by have := hr.2; simp at this; omega
      have e := four a p m hm
      have := contains_4 m hm (ahi true p) (alo true p) (ahi true a) (alo true a) p4 p6 w hz
      rw [show (alo true a) = 281470681743360 + ((beN a 4 : Nat) : Int) from rfl, show (alo true p) = 281470681743360 + ((beN p 4 : Nat) : Int) from rfl, e] at this
      exact this
  · have eb : bpo pis4 n = 0 := if_neg hr
    have eh : hold pis4 p n is4 a = false := by
      unfold hold
      rw [decide_eq_false hr, Bool.false_and]
    rw [eb, eh]
    exact contains_bad pis4 is4 (ahi pis4 p) (alo pis4 p) (ahi is4 a) (alo is4 a) p4 p6 w hz
end Go.Proofs.Qxb6615875aDoor
