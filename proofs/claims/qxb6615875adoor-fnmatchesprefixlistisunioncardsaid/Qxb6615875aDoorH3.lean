import Derived.Test.Qxb6615875aDoorH2
import Derived.Deep.CutRange
namespace Go.Proofs.Qxb6615875aDoor
open Go.RowKit
set_option linter.unusedSimpArgs false
set_option linter.unusedVariables false
attribute [local go_sem ↓] Go.wp_at_zero Go.wp_at_succ

set_option maxRecDepth 100000 in
set_option maxHeartbeats 4000000 in
theorem zones_1 (zb : Nat) (host : Bool) (ifc : ByteArray) (hi lo : Int) (z : Addr) (w : World) (c0 : Bool) (K0 : ∀ W, Below w.heap.size w W → Calls Tryd.prog 37 #[.pointer (some ⟨zb, 0, none⟩), .agg (sideV host ifc hi lo z)] W fun e W' => e = .returned (.bool c0) ∧ Below W.heap.size W W') :
    Calls Tryd.prog 30 #[.slice (some ⟨zb, 0, none⟩) 1 1, .agg (sideV host ifc hi lo z)] w fun e w' => e = .returned (.bool c0) ∧ Below w.heap.size w w' := by
  have hn := fun w => Lib.run_eql_slice_nil (P := Tryd.prog) w 47 63 (some ⟨zb, 0, none⟩) 1 1 0 0 Tryd.underlying47
  have HS0 := hid (side_new w host ifc hi lo z)
  have HB0 := hid (show Below w.heap.size w (w.alloc (.cells (sideV host ifc hi lo z) 82)) from (Below.refl _ _).alloc (Nat.le_refl _) _)
  have HK0 := hid K0
  clear K0
  go_enter Tryd.func30, Tryd.ntmps30
  go_wp2
  go_loopw [10] (fun i wr => ∃ k : Int, 0 ≤ k ∧ k ≤ 1 ∧ i = .int .i64 k ∧ (1 ≤ k → c0 = false) ∧ SideAt wr w.heap.size host ifc hi lo z ∧ Below w.heap.size w wr) (fun i _ => (1 - intOf i).toNat)
  case atStart => exact ⟨0, by omega, by omega, rfl, by omega, HS0.out, HB0.out⟩
  case round =>
    clear HS0 HB0
    obtain ⟨k, hk0, hk, rfl, hc0, hside, hbr⟩ := hrel
    rcases (show k = 0 ∨ k = 1 by omega) with rfl | rfl
    · clear hc0
      have HZ := hid (hside.below (Below.refl _ _).drew)
      have hbw := hbr.drew
      have hszr : w.heap.size ≤ wr.drew.heap.size := hbr.size
      clear hside
      rcases Bool.eq_false_or_eq_true c0 with hc | hc
      all_goals
        have HC := hid hc
        clear hc
        go_wp2
        go_cut [17] from 13 to 17 (fun v wc => v = .bool c0 ∧ Below wr.drew.heap.size wr.drew wc)
        case first =>
          refine wp_region_held_drew (S := fun W => Below wr.drew.heap.size wr.drew W) (by kernel_rfl) (Below.refl _ _) (fun hHeld => ?_)
          refine wpAnyH_take (i := 0) (v := ?_) rfl (by kernel_rfl) (by kernel_rfl) (by kernel_rfl) (fun _ _ _ h => h) (Or.inl ⟨by kernel_rfl, ?_⟩) (by assumption) ?_
          rotate_left
          · intro w hSw; go_simp; with_reducible rfl
          try simp (maxSteps := 2000000) only [Act.put, List.getElem_toArray, List.getElem_cons_succ, List.getElem_cons_zero, List.setIfInBounds_toArray, List.set_cons_zero, List.set_cons_succ]
          refine wpAnyH_take (i := 1) (v := ?_) rfl (by kernel_rfl) (by kernel_rfl) (by kernel_rfl) (fun _ _ _ h => h) (Or.inl ⟨by kernel_rfl, ?_⟩) (by assumption) ?_
          rotate_left
          · intro w hSw; go_simp; with_reducible rfl
          try simp (maxSteps := 2000000) only [Act.put, List.getElem_toArray, List.getElem_cons_succ, List.getElem_cons_zero, List.setIfInBounds_toArray, List.set_cons_zero, List.set_cons_succ]
          refine wpAnyH_take (i := 2) (v := ?_) rfl (by kernel_rfl) (by kernel_rfl) (by kernel_rfl) (fun _ _ _ h => h) (Or.inl ⟨by kernel_rfl, ?_⟩) (by assumption) ?_
          rotate_left
          · intro w hSw; go_simp; with_reducible rfl
          try simp (maxSteps := 2000000) only [Act.put, List.getElem_toArray, List.getElem_cons_succ, List.getElem_cons_zero, List.setIfInBounds_toArray, List.set_cons_zero, List.set_cons_succ]
          refine wpAnyH_take (i := 3) (v := _) rfl (by kernel_rfl) (by kernel_rfl) (by kernel_rfl) (fun _ _ _ h => h) (yieldsIf_load_mid (by kernel_rfl) _ _ rfl _ _ rfl (sideV host ifc hi lo z).toList _ (fun w hSw => range_row (o := 0) (n := 5) (HZ.out.below hSw).row rfl) Tryd.underlying82 rfl size82) (by assumption) ?_
          try simp (maxSteps := 2000000) only [Act.put, List.getElem_toArray, List.getElem_cons_succ, List.getElem_cons_zero, List.setIfInBounds_toArray, List.set_cons_zero, List.set_cons_succ]
          refine wpAnyH_ready (rs := [4]) (by kernel_rfl) (by simp) ?_
          refine AllReadyH.cons rfl ?_ AllReadyH.nil
          intro K hK
          rw [if_pos (by kernel_rfl)]
          go_simp
          refine (HK0.out _ (hbw.trans (hHeld.mono hszr))).mono ?_
          rintro e w6 ⟨rfl, hb6⟩
          go_wp2_with fail
          refine hK.out _ _ (hHeld.trans (hb6.mono hHeld.size)) (fun hHeld => ?_)
          clear hK K
          try simp (maxSteps := 2000000) only [Act.put, List.getElem_toArray, List.getElem_cons_succ, List.getElem_cons_zero, List.setIfInBounds_toArray, List.set_cons_zero, List.set_cons_succ]
          refine wpAnyH_done (by kernel_rfl) ?_ _
          go_wp2_with fail
          go_meet
          case rel => exact ⟨rfl, hHeld⟩
        case rest =>
          obtain ⟨rfl, hbc⟩ := hcut
          have HS2 := hid (HZ.out.below hbc)
          have HB2 := hid (hbw.trans (hbc.mono hszr))
          clear hbc hbw HZ
          rw [HC.out]
          go_wp2
          first
            | (go_ret; exact ⟨by rw [HC.out]; rfl, HB2.out⟩)
            | (go_roundw; exact ⟨1, by omega, by omega, by go_num, fun _ => HC.out, HS2.out, HB2.out⟩; simp [intOf])
    · have H0 := hid (hc0 (by omega))
      clear hc0
      go_wp2
      go_ret
      exact ⟨by rw [H0.out]; rfl, hbr⟩

set_option maxRecDepth 100000 in
set_option maxHeartbeats 4000000 in
theorem zones_2 (zb : Nat) (host : Bool) (ifc : ByteArray) (hi lo : Int) (z : Addr) (w : World) (c0 c1 : Bool) (K0 : ∀ W, Below w.heap.size w W → Calls Tryd.prog 37 #[.pointer (some ⟨zb, 0, none⟩), .agg (sideV host ifc hi lo z)] W fun e W' => e = .returned (.bool c0) ∧ Below W.heap.size W W') (K1 : ∀ W, Below w.heap.size w W → Calls Tryd.prog 37 #[.pointer (some ⟨zb, 3, none⟩), .agg (sideV host ifc hi lo z)] W fun e W' => e = .returned (.bool c1) ∧ Below W.heap.size W W') :
    Calls Tryd.prog 30 #[.slice (some ⟨zb, 0, none⟩) 2 2, .agg (sideV host ifc hi lo z)] w fun e w' => e = .returned (.bool (c0 || c1)) ∧ Below w.heap.size w w' := by
  have hn := fun w => Lib.run_eql_slice_nil (P := Tryd.prog) w 47 63 (some ⟨zb, 0, none⟩) 2 2 0 0 Tryd.underlying47
  have HS0 := hid (side_new w host ifc hi lo z)
  have HB0 := hid (show Below w.heap.size w (w.alloc (.cells (sideV host ifc hi lo z) 82)) from (Below.refl _ _).alloc (Nat.le_refl _) _)
  have HK0 := hid K0
  clear K0
  have HK1 := hid K1
  clear K1
  go_enter Tryd.func30, Tryd.ntmps30
  go_wp2
  go_loopw [10] (fun i wr => ∃ k : Int, 0 ≤ k ∧ k ≤ 2 ∧ i = .int .i64 k ∧ (1 ≤ k → c0 = false) ∧ (2 ≤ k → c1 = false) ∧ SideAt wr w.heap.size host ifc hi lo z ∧ Below w.heap.size w wr) (fun i _ => (2 - intOf i).toNat)
  case atStart => exact ⟨0, by omega, by omega, rfl, by omega, by omega, HS0.out, HB0.out⟩
  case round =>
    clear HS0 HB0
    obtain ⟨k, hk0, hk, rfl, hc0, hc1, hside, hbr⟩ := hrel
    rcases (show k = 0 ∨ k = 1 ∨ k = 2 by omega) with rfl | rfl | rfl
    · clear hc0 hc1
      have HZ := hid (hside.below (Below.refl _ _).drew)
      have hbw := hbr.drew
      have hszr : w.heap.size ≤ wr.drew.heap.size := hbr.size
      clear hside
      rcases Bool.eq_false_or_eq_true c0 with hc | hc
      all_goals
        have HC := hid hc
        clear hc
        go_wp2
        go_cut [17] from 13 to 17 (fun v wc => v = .bool c0 ∧ Below wr.drew.heap.size wr.drew wc)
        case first =>
          refine wp_region_held_drew (S := fun W => Below wr.drew.heap.size wr.drew W) (by kernel_rfl) (Below.refl _ _) (fun hHeld => ?_)
          refine wpAnyH_take (i := 0) (v := ?_) rfl (by kernel_rfl) (by kernel_rfl) (by kernel_rfl) (fun _ _ _ h => h) (Or.inl ⟨by kernel_rfl, ?_⟩) (by assumption) ?_
          rotate_left
          · intro w hSw; go_simp; with_reducible rfl
          try simp (maxSteps := 2000000) only [Act.put, List.getElem_toArray, List.getElem_cons_succ, List.getElem_cons_zero, List.setIfInBounds_toArray, List.set_cons_zero, List.set_cons_succ]
          refine wpAnyH_take (i := 1) (v := ?_) rfl (by kernel_rfl) (by kernel_rfl) (by kernel_rfl) (fun _ _ _ h => h) (Or.inl ⟨by kernel_rfl, ?_⟩) (by assumption) ?_
          rotate_left
          · intro w hSw; go_simp; with_reducible rfl
          try simp (maxSteps := 2000000) only [Act.put, List.getElem_toArray, List.getElem_cons_succ, List.getElem_cons_zero, List.setIfInBounds_toArray, List.set_cons_zero, List.set_cons_succ]
          refine wpAnyH_take (i := 2) (v := ?_) rfl (by kernel_rfl) (by kernel_rfl) (by kernel_rfl) (fun _ _ _ h => h) (Or.inl ⟨by kernel_rfl, ?_⟩) (by assumption) ?_
          rotate_left
          · intro w hSw; go_simp; with_reducible rfl
          try simp (maxSteps := 2000000) only [Act.put, List.getElem_toArray, List.getElem_cons_succ, List.getElem_cons_zero, List.setIfInBounds_toArray, List.set_cons_zero, List.set_cons_succ]
          refine wpAnyH_take (i := 3) (v := _) rfl (by kernel_rfl) (by kernel_rfl) (by kernel_rfl) (fun _ _ _ h => h) (yieldsIf_load_mid (by kernel_rfl) _ _ rfl _ _ rfl (sideV host ifc hi lo z).toList _ (fun w hSw => range_row (o := 0) (n := 5) (HZ.out.below hSw).row rfl) Tryd.underlying82 rfl size82) (by assumption) ?_
          try simp (maxSteps := 2000000) only [Act.put, List.getElem_toArray, List.getElem_cons_succ, List.getElem_cons_zero, List.setIfInBounds_toArray, List.set_cons_zero, List.set_cons_succ]
          refine wpAnyH_ready (rs := [4]) (by kernel_rfl) (by simp) ?_
          refine AllReadyH.cons rfl ?_ AllReadyH.nil
          intro K hK
          rw [if_pos (by kernel_rfl)]
          go_simp
          refine (HK0.out _ (hbw.trans (hHeld.mono hszr))).mono ?_
          rintro e w6 ⟨rfl, hb6⟩
          go_wp2_with fail
          refine hK.out _ _ (hHeld.trans (hb6.mono hHeld.size)) (fun hHeld => ?_)
          clear hK K
          try simp (maxSteps := 2000000) only [Act.put, List.getElem_toArray, List.getElem_cons_succ, List.getElem_cons_zero, List.setIfInBounds_toArray, List.set_cons_zero, List.set_cons_succ]
          refine wpAnyH_done (by kernel_rfl) ?_ _
          go_wp2_with fail
          go_meet
          case rel => exact ⟨rfl, hHeld⟩
        case rest =>
          obtain ⟨rfl, hbc⟩ := hcut
          have HS2 := hid (HZ.out.below hbc)
          have HB2 := hid (hbw.trans (hbc.mono hszr))
          clear hbc hbw HZ
          rw [HC.out]
          go_wp2
          first
            | (go_ret; exact ⟨by rw [HC.out]; rfl, HB2.out⟩)
            | (go_roundw; exact ⟨1, by omega, by omega, by go_num, fun _ => HC.out, by omega, HS2.out, HB2.out⟩; simp [intOf])
    · have H0 := hid (hc0 (by omega))
      clear hc0 hc1
      have HZ := hid (hside.below (Below.refl _ _).drew)
      have hbw := hbr.drew
      have hszr : w.heap.size ≤ wr.drew.heap.size := hbr.size
      clear hside
      rcases Bool.eq_false_or_eq_true c1 with hc | hc
      all_goals
        have HC := hid hc
        clear hc
        go_wp2
        go_cut [17] from 13 to 17 (fun v wc => v = .bool c1 ∧ Below wr.drew.heap.size wr.drew wc)
        case first =>
          refine wp_region_held_drew (S := fun W => Below wr.drew.heap.size wr.drew W) (by kernel_rfl) (Below.refl _ _) (fun hHeld => ?_)
          refine wpAnyH_take (i := 0) (v := ?_) rfl (by kernel_rfl) (by kernel_rfl) (by kernel_rfl) (fun _ _ _ h => h) (Or.inl ⟨by kernel_rfl, ?_⟩) (by assumption) ?_
          rotate_left
          · intro w hSw; go_simp; with_reducible rfl
          try simp (maxSteps := 2000000) only [Act.put, List.getElem_toArray, List.getElem_cons_succ, List.getElem_cons_zero, List.setIfInBounds_toArray, List.set_cons_zero, List.set_cons_succ]
          refine wpAnyH_take (i := 1) (v := ?_) rfl (by kernel_rfl) (by kernel_rfl) (by kernel_rfl) (fun _ _ _ h => h) (Or.inl ⟨by kernel_rfl, ?_⟩) (by assumption) ?_
          rotate_left
          · intro w hSw; go_simp; with_reducible rfl
          try simp (maxSteps := 2000000) only [Act.put, List.getElem_toArray, List.getElem_cons_succ, List.getElem_cons_zero, List.setIfInBounds_toArray, List.set_cons_zero, List.set_cons_succ]
          refine wpAnyH_take (i := 2) (v := ?_) rfl (by kernel_rfl) (by kernel_rfl) (by kernel_rfl) (fun _ _ _ h => h) (Or.inl ⟨by kernel_rfl, ?_⟩) (by assumption) ?_
          rotate_left
          · intro w hSw; go_simp; with_reducible rfl
          try simp (maxSteps := 2000000) only [Act.put, List.getElem_toArray, List.getElem_cons_succ, List.getElem_cons_zero, List.setIfInBounds_toArray, List.set_cons_zero, List.set_cons_succ]
          refine wpAnyH_take (i := 3) (v := _) rfl (by kernel_rfl) (by kernel_rfl) (by kernel_rfl) (fun _ _ _ h => h) (yieldsIf_load_mid (by kernel_rfl) _ _ rfl _ _ rfl (sideV host ifc hi lo z).toList _ (fun w hSw => range_row (o := 0) (n := 5) (HZ.out.below hSw).row rfl) Tryd.underlying82 rfl size82) (by assumption) ?_
          try simp (maxSteps := 2000000) only [Act.put, List.getElem_toArray, List.getElem_cons_succ, List.getElem_cons_zero, List.setIfInBounds_toArray, List.set_cons_zero, List.set_cons_succ]
          refine wpAnyH_ready (rs := [4]) (by kernel_rfl) (by simp) ?_
          refine AllReadyH.cons rfl ?_ AllReadyH.nil
          intro K hK
          rw [if_pos (by kernel_rfl)]
          go_simp
          refine (HK1.out _ (hbw.trans (hHeld.mono hszr))).mono ?_
          rintro e w6 ⟨rfl, hb6⟩
          go_wp2_with fail
          refine hK.out _ _ (hHeld.trans (hb6.mono hHeld.size)) (fun hHeld => ?_)
          clear hK K
          try simp (maxSteps := 2000000) only [Act.put, List.getElem_toArray, List.getElem_cons_succ, List.getElem_cons_zero, List.setIfInBounds_toArray, List.set_cons_zero, List.set_cons_succ]
          refine wpAnyH_done (by kernel_rfl) ?_ _
          go_wp2_with fail
          go_meet
          case rel => exact ⟨rfl, hHeld⟩
        case rest =>
          obtain ⟨rfl, hbc⟩ := hcut
          have HS2 := hid (HZ.out.below hbc)
          have HB2 := hid (hbw.trans (hbc.mono hszr))
          clear hbc hbw HZ
          rw [HC.out]
          go_wp2
          first
            | (go_ret; exact ⟨by rw [HC.out, Bool.or_true]; rfl, HB2.out⟩)
            | (go_roundw; exact ⟨2, by omega, by omega, by go_num, fun _ => H0.out, fun _ => HC.out, HS2.out, HB2.out⟩; simp [intOf])
    · have H0 := hid (hc0 (by omega))
      have H1 := hid (hc1 (by omega))
      clear hc0 hc1
      go_wp2
      go_ret
      exact ⟨by rw [H0.out, H1.out]; rfl, hbr⟩
end Go.Proofs.Qxb6615875aDoor
