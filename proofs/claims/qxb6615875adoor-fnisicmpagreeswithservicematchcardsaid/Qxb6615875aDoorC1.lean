import Derived.Test.Qxb6615875aDoorH5
import Derived.Deep.CutRange
import Derived.Deep.RegionHeld3
import Derived.Deep.MidRow
namespace Go.Proofs.Qxb6615875aDoor
open Go.RowKit
set_option linter.unusedSimpArgs false
set_option linter.unusedVariables false

theorem sz5 : (Tryd.prog.info? 5).map (·.size) = some 1 := by kernel_rfl
theorem sz23 : (Tryd.prog.info? 23).map (·.size) = some 1 := by kernel_rfl
theorem sz39 : (Tryd.prog.info? 39).map (·.size) = some 1 := by kernel_rfl
theorem sz40 : (Tryd.prog.info? 40).map (·.size) = some 1 := by kernel_rfl
theorem sz35 : (Tryd.prog.info? 35).map (·.size) = some 13 := by kernel_rfl
/-- A definition of a protocol alone. -/
def dfV (svc : Int) : Array Value := #[.int .u8 svc, .slice none 0 0, .slice none 0 0, .slice none 0 0]

set_option maxHeartbeats 1000000 in
theorem inlist53_nil (v : Int) (w : World) : Calls Tryd.prog 53 #[.slice none 0 0, .int .u8 v] w fun e w' => e = .returned (.bool true) ∧ Below w.heap.size w w' := by
  have hn := fun w => Lib.run_eql_slice_nil (P := Tryd.prog) w 40 5 none 0 0 0 0 Tryd.underlying40
  go_enter Tryd.func53, Tryd.ntmps53
  go_wp2
  go_ret
  exact ⟨rfl, Below.refl _ _⟩
set_option maxHeartbeats 1000000 in
theorem inports_nil (v : Int) (w : World) : Calls Tryd.prog 54 #[.slice none 0 0, .int .u16 v] w fun e w' => e = .returned (.bool true) ∧ Below w.heap.size w w' := by
  have hn := fun w => Lib.run_eql_slice_nil (P := Tryd.prog) w 39 105 none 0 0 0 0 Tryd.underlying39
  go_enter Tryd.func54, Tryd.ntmps54
  go_wp2
  go_ret
  exact ⟨rfl, Below.refl _ _⟩

set_option maxRecDepth 100000 in
set_option maxHeartbeats 4000000 in
theorem df_other (db : Nat) (is4 : Bool) (proto sh sl dh dl sp dp ty co : Int) (dz : Addr) (iif oif : ByteArray) (p4 p6 : Addr) (w : World) (hz : Zs w p4 p6) (svc : Int) (hne : (svc != proto) = true) (h : w.heap[db]? = some (.cells (dfV svc) 42 (0, 0))) :
    Calls Tryd.prog 40 #[.pointer (some ⟨db, 0, none⟩), .agg (pkt proto sh sl (zp p4 p6 is4) dh dl dz sp dp ty co iif oif)] w fun e w' => e = .returned (.bool false) ∧ Below w.heap.size w w' := by
  go_enter Tryd.func40, Tryd.ntmps40
  go_wp2
  obtain ⟨W0, hW0⟩ : ∃ W0, w.alloc (.cells (pkt proto sh sl (zp p4 p6 is4) dh dl dz sp dp ty co iif oif) 35) = W0 := ⟨_, rfl⟩
  obtain ⟨pb, hpb⟩ : ∃ pb, w.heap.size = pb := ⟨_, rfl⟩
  rw [hW0, hpb]
  have HP := hid (show W0.heap[pb]? = some (.cells (pkt proto sh sl (zp p4 p6 is4) dh dl dz sp dp ty co iif oif) 35 (0, 0)) by rw [← hW0, ← hpb]; exact heap_alloc_new _ _)
  have HD := hid (show W0.heap[db]? = some (.cells (dfV svc) 42 (0, 0)) by rw [← hW0]; exact heapOld h _)
  have HZ := hid (show Zs W0 p4 p6 by rw [← hW0]; exact hz.alloc _)
  have HB := hid (show Below w.heap.size w W0 by rw [← hW0]; exact (Below.refl _ _).alloc (Nat.le_refl _) _)
  have HLT := hid (heap_lt HP.out)
  have HLD := hid (heap_lt HD.out)
  have hS0 : Below W0.heap.size W0 W0 := Below.refl _ _
  clear hW0 h hz
  refine wp_region_held_drew (S := fun W => Below W0.heap.size W0 W) (by kernel_rfl) (hS0.drew) (fun hHeld => ?_)
  clear hS0
  refine wpAnyH_take (i := 0) (v := ?_) rfl (by kernel_rfl) (by kernel_rfl) (by kernel_rfl) (fun _ _ _ h => h) (Or.inl ⟨by kernel_rfl, ?_⟩) (by assumption) ?_
  rotate_left
  · intro w hSw; go_simp; with_reducible rfl
  try simp (maxSteps := 2000000) only [Act.put, List.getElem_toArray, List.getElem_cons_succ, List.getElem_cons_zero, List.setIfInBounds_toArray, List.set_cons_zero, List.set_cons_succ]
  refine wpAnyH_take (i := 1) (v := ?_) rfl (by kernel_rfl) (by kernel_rfl) (by kernel_rfl) (fun _ _ _ h => h) (Or.inl ⟨by kernel_rfl, ?_⟩) (by assumption) ?_
  rotate_left
  · intro w hSw; go_simp; with_reducible rfl
  try simp (maxSteps := 2000000) only [Act.put, List.getElem_toArray, List.getElem_cons_succ, List.getElem_cons_zero, List.setIfInBounds_toArray, List.set_cons_zero, List.set_cons_succ]
  refine wpAnyH_take (i := 2) (v := ?_) rfl (by kernel_rfl) (by kernel_rfl) (by kernel_rfl) (fun _ _ _ h => h) (Or.inl ⟨by kernel_rfl, ?_⟩) (by assumption) ?_
  rotate_left
  · intro w hSw; go_simp; with_reducible rfl
  try simp (maxSteps := 2000000) only [Act.put, List.getElem_toArray, List.getElem_cons_succ, List.getElem_cons_zero, List.setIfInBounds_toArray, List.set_cons_zero, List.set_cons_succ]
  refine wpAnyH_take (i := 3) (v := ?_) rfl (by kernel_rfl) (by kernel_rfl) (by kernel_rfl) (fun _ _ _ h => h) (Or.inl ⟨by kernel_rfl, ?_⟩) (by assumption) ?_
  rotate_left
  · intro w hSw; have hcl : w.cell? ⟨db, 0, none⟩ = some (.int .u8 svc) := (hSw.cell (p := ⟨db, 0, none⟩) HLD.out).trans (cell_of_row W0 db 0 _ 42 (0, 0) HD.out); go_simp; with_reducible rfl
  try simp (maxSteps := 2000000) only [Act.put, List.getElem_toArray, List.getElem_cons_succ, List.getElem_cons_zero, List.setIfInBounds_toArray, List.set_cons_zero, List.set_cons_succ]
  refine wpAnyH_take (i := 4) (v := ?_) rfl (by kernel_rfl) (by kernel_rfl) (by kernel_rfl) (fun _ _ _ h => h) (Or.inl ⟨by kernel_rfl, ?_⟩) (by assumption) ?_
  rotate_left
  · intro w hSw; go_simp; with_reducible rfl
  try simp (maxSteps := 2000000) only [Act.put, List.getElem_toArray, List.getElem_cons_succ, List.getElem_cons_zero, List.setIfInBounds_toArray, List.set_cons_zero, List.set_cons_succ]
  refine wpAnyH_take (i := 5) (v := ?_) rfl (by kernel_rfl) (by kernel_rfl) (by kernel_rfl) (fun _ _ _ h => h) (Or.inl ⟨by kernel_rfl, ?_⟩) (by assumption) ?_
  rotate_left
  · intro w hSw; have hcl : w.cell? ⟨pb, 0, none⟩ = some (.int .u8 proto) := (hSw.cell (p := ⟨pb, 0, none⟩) HLT.out).trans (cell_of_row W0 pb 0 _ 35 (0, 0) HP.out); go_simp; with_reducible rfl
  try simp (maxSteps := 2000000) only [Act.put, List.getElem_toArray, List.getElem_cons_succ, List.getElem_cons_zero, List.setIfInBounds_toArray, List.set_cons_zero, List.set_cons_succ]
  refine wpAnyH_take (i := 6) (v := ?_) rfl (by kernel_rfl) (by kernel_rfl) (by kernel_rfl) (fun _ _ _ h => h) (Or.inl ⟨by kernel_rfl, ?_⟩) (by assumption) ?_
  rotate_left
  · intro w hSw; go_simp; with_reducible rfl
  try simp (maxSteps := 2000000) only [Act.put, List.getElem_toArray, List.getElem_cons_succ, List.getElem_cons_zero, List.setIfInBounds_toArray, List.set_cons_zero, List.set_cons_succ]
  refine wpAnyH_done (by kernel_rfl) ?_ _
  go_wp2_with fail
  go_ret
  exact ⟨rfl, HB.out.trans (hHeld.mono HB.out.size)⟩

set_option maxRecDepth 100000 in
set_option maxHeartbeats 4000000 in
theorem df_icmp4_on (db : Nat) (is4 : Bool) (proto sh sl dh dl sp dp ty co : Int) (dz : Addr) (iif oif : ByteArray) (p4 p6 : Addr) (w : World) (hz : Zs w p4 p6) (hpr : proto = 1) (hfam : fam is4 = 4) (h : w.heap[db]? = some (.cells (dfV proto) 42 (0, 0))) :
    Calls Tryd.prog 40 #[.pointer (some ⟨db, 0, none⟩), .agg (pkt proto sh sl (zp p4 p6 is4) dh dl dz sp dp ty co iif oif)] w fun e w' => e = .returned (.bool true) ∧ Below w.heap.size w w' := by
  subst hpr
  go_enter Tryd.func40, Tryd.ntmps40
  go_wp2
  obtain ⟨W0, hW0⟩ : ∃ W0, w.alloc (.cells (pkt 1 sh sl (zp p4 p6 is4) dh dl dz sp dp ty co iif oif) 35) = W0 := ⟨_, rfl⟩
  obtain ⟨pb, hpb⟩ : ∃ pb, w.heap.size = pb := ⟨_, rfl⟩
  rw [hW0, hpb]
  have HP := hid (show W0.heap[pb]? = some (.cells (pkt 1 sh sl (zp p4 p6 is4) dh dl dz sp dp ty co iif oif) 35 (0, 0)) by rw [← hW0, ← hpb]; exact heap_alloc_new _ _)
  have HD := hid (show W0.heap[db]? = some (.cells (dfV 1) 42 (0, 0)) by rw [← hW0]; exact heapOld h _)
  have HZ := hid (show Zs W0 p4 p6 by rw [← hW0]; exact hz.alloc _)
  have HB := hid (show Below w.heap.size w W0 by rw [← hW0]; exact (Below.refl _ _).alloc (Nat.le_refl _) _)
  have HLT := hid (heap_lt HP.out)
  have HLD := hid (heap_lt HD.out)
  have hS0 : Below W0.heap.size W0 W0 := Below.refl _ _
  clear hW0 h hz
  refine wp_region_held_drew (S := fun W => Below W0.heap.size W0 W) (by kernel_rfl) (hS0.drew) (fun hHeld => ?_)
  clear hS0
  refine wpAnyH_take (i := 0) (v := ?_) rfl (by kernel_rfl) (by kernel_rfl) (by kernel_rfl) (fun _ _ _ h => h) (Or.inl ⟨by kernel_rfl, ?_⟩) (by assumption) ?_
  rotate_left
  · intro w hSw; go_simp; with_reducible rfl
  try simp (maxSteps := 2000000) only [Act.put, List.getElem_toArray, List.getElem_cons_succ, List.getElem_cons_zero, List.setIfInBounds_toArray, List.set_cons_zero, List.set_cons_succ]
  refine wpAnyH_take (i := 1) (v := ?_) rfl (by kernel_rfl) (by kernel_rfl) (by kernel_rfl) (fun _ _ _ h => h) (Or.inl ⟨by kernel_rfl, ?_⟩) (by assumption) ?_
  rotate_left
  · intro w hSw; go_simp; with_reducible rfl
  try simp (maxSteps := 2000000) only [Act.put, List.getElem_toArray, List.getElem_cons_succ, List.getElem_cons_zero, List.setIfInBounds_toArray, List.set_cons_zero, List.set_cons_succ]
  refine wpAnyH_take (i := 2) (v := ?_) rfl (by kernel_rfl) (by kernel_rfl) (by kernel_rfl) (fun _ _ _ h => h) (Or.inl ⟨by kernel_rfl, ?_⟩) (by assumption) ?_
  rotate_left
  · intro w hSw; go_simp; with_reducible rfl
  try simp (maxSteps := 2000000) only [Act.put, List.getElem_toArray, List.getElem_cons_succ, List.getElem_cons_zero, List.setIfInBounds_toArray, List.set_cons_zero, List.set_cons_succ]
  refine wpAnyH_take (i := 3) (v := ?_) rfl (by kernel_rfl) (by kernel_rfl) (by kernel_rfl) (fun _ _ _ h => h) (Or.inl ⟨by kernel_rfl, ?_⟩) (by assumption) ?_
  rotate_left
  · intro w hSw; have hcl : w.cell? ⟨db, 0, none⟩ = some (.int .u8 1) := (hSw.cell (p := ⟨db, 0, none⟩) HLD.out).trans (cell_of_row W0 db 0 _ 42 (0, 0) HD.out); go_simp; with_reducible rfl
  try simp (maxSteps := 2000000) only [Act.put, List.getElem_toArray, List.getElem_cons_succ, List.getElem_cons_zero, List.setIfInBounds_toArray, List.set_cons_zero, List.set_cons_succ]
  refine wpAnyH_take (i := 4) (v := ?_) rfl (by kernel_rfl) (by kernel_rfl) (by kernel_rfl) (fun _ _ _ h => h) (Or.inl ⟨by kernel_rfl, ?_⟩) (by assumption) ?_
  rotate_left
  · intro w hSw; go_simp; with_reducible rfl
  try simp (maxSteps := 2000000) only [Act.put, List.getElem_toArray, List.getElem_cons_succ, List.getElem_cons_zero, List.setIfInBounds_toArray, List.set_cons_zero, List.set_cons_succ]
  refine wpAnyH_take (i := 5) (v := ?_) rfl (by kernel_rfl) (by kernel_rfl) (by kernel_rfl) (fun _ _ _ h => h) (Or.inl ⟨by kernel_rfl, ?_⟩) (by assumption) ?_
  rotate_left
  · intro w hSw; have hcl : w.cell? ⟨pb, 0, none⟩ = some (.int .u8 1) := (hSw.cell (p := ⟨pb, 0, none⟩) HLT.out).trans (cell_of_row W0 pb 0 _ 35 (0, 0) HP.out); go_simp; with_reducible rfl
  try simp (maxSteps := 2000000) only [Act.put, List.getElem_toArray, List.getElem_cons_succ, List.getElem_cons_zero, List.setIfInBounds_toArray, List.set_cons_zero, List.set_cons_succ]
  refine wpAnyH_take (i := 6) (v := ?_) rfl (by kernel_rfl) (by kernel_rfl) (by kernel_rfl) (fun _ _ _ h => h) (Or.inl ⟨by kernel_rfl, ?_⟩) (by assumption) ?_
  rotate_left
  · intro w hSw; go_simp; with_reducible rfl
  try simp (maxSteps := 2000000) only [Act.put, List.getElem_toArray, List.getElem_cons_succ, List.getElem_cons_zero, List.setIfInBounds_toArray, List.set_cons_zero, List.set_cons_succ]
  refine wpAnyH_done (by kernel_rfl) ?_ _
  generalize W0.drew = W1 at hHeld ⊢
  have hc0 : W1.cell? ⟨db, 0, none⟩ = some (.int .u8 1) := (hHeld.cell (p := ⟨db, 0, none⟩) HLD.out).trans (cell_of_row W0 db 0 _ 42 (0, 0) HD.out)
  have hS0 := hHeld
  clear hHeld
  go_wp2_with go_in
  refine wp_region_held_drew (S := fun W => Below W0.heap.size W0 W) (by kernel_rfl) (hS0.drew) (fun hHeld => ?_)
  clear hS0
  refine wpAnyH_take (i := 0) (v := ?_) rfl (by kernel_rfl) (by kernel_rfl) (by kernel_rfl) (fun _ _ _ h => h) (Or.inl ⟨by kernel_rfl, ?_⟩) (by assumption) ?_
  rotate_left
  · intro w hSw; go_simp; with_reducible rfl
  try simp (maxSteps := 2000000) only [Act.put, List.getElem_toArray, List.getElem_cons_succ, List.getElem_cons_zero, List.setIfInBounds_toArray, List.set_cons_zero, List.set_cons_succ]
  refine wpAnyH_take (i := 1) (v := _) rfl (by kernel_rfl) (by kernel_rfl) (by kernel_rfl) (fun _ _ _ h => h) (yieldsIf_load_mid (by kernel_rfl) _ _ rfl _ _ rfl (pkt 1 sh sl (zp p4 p6 is4) dh dl dz sp dp ty co iif oif).toList _ (fun W hSw => range_row (o := 0) (n := 13) ((hSw.block pb HLT.out).trans HP.out) rfl) Tryd.underlying35 rfl sz35) (by assumption) ?_
  try simp (maxSteps := 2000000) only [Act.put, List.getElem_toArray, List.getElem_cons_succ, List.getElem_cons_zero, List.setIfInBounds_toArray, List.set_cons_zero, List.set_cons_succ]
  refine wpAnyH_ready (rs := [2]) (by kernel_rfl) (by simp) ?_
  refine AllReadyH.cons rfl ?_ AllReadyH.nil
  intro K hK
  rw [if_pos (by kernel_rfl)]
  go_simp
  refine (family_any is4 1 sh sl dh dl sp dp ty co dz iif oif p4 p6 _ (HZ.out.below hHeld)).mono ?_
  rintro e w2 ⟨rfl, hbc⟩
  rw [hfam]
  go_wp2_with fail
  refine hK.out _ _ (hHeld.trans (hbc.mono hHeld.size)) (fun hHeld => ?_)
  clear hK K hbc
  try simp (maxSteps := 2000000) only [Act.put, List.getElem_toArray, List.getElem_cons_succ, List.getElem_cons_zero, List.setIfInBounds_toArray, List.set_cons_zero, List.set_cons_succ]
  refine wpAnyH_take (i := 3) (v := ?_) rfl (by kernel_rfl) (by kernel_rfl) (by kernel_rfl) (fun _ _ _ h => h) (Or.inl ⟨by kernel_rfl, ?_⟩) (by assumption) ?_
  rotate_left
  · intro w hSw; go_simp; with_reducible rfl
  try simp (maxSteps := 2000000) only [Act.put, List.getElem_toArray, List.getElem_cons_succ, List.getElem_cons_zero, List.setIfInBounds_toArray, List.set_cons_zero, List.set_cons_succ]
  refine wpAnyH_take (i := 4) (v := ?_) rfl (by kernel_rfl) (by kernel_rfl) (by kernel_rfl) (fun _ _ _ h => h) (Or.inl ⟨by kernel_rfl, ?_⟩) (by assumption) ?_
  rotate_left
  · intro w hSw; go_simp; with_reducible rfl
  try simp (maxSteps := 2000000) only [Act.put, List.getElem_toArray, List.getElem_cons_succ, List.getElem_cons_zero, List.setIfInBounds_toArray, List.set_cons_zero, List.set_cons_succ]
  refine wpAnyH_take (i := 5) (v := ?_) rfl (by kernel_rfl) (by kernel_rfl) (by kernel_rfl) (fun _ _ _ h => h) (Or.inl ⟨by kernel_rfl, ?_⟩) (by assumption) ?_
  rotate_left
  · intro w hSw; go_simp; with_reducible rfl
  try simp (maxSteps := 2000000) only [Act.put, List.getElem_toArray, List.getElem_cons_succ, List.getElem_cons_zero, List.setIfInBounds_toArray, List.set_cons_zero, List.set_cons_succ]
  refine wpAnyH_take (i := 6) (v := ?_) rfl (by kernel_rfl) (by kernel_rfl) (by kernel_rfl) (fun _ _ _ h => h) (Or.inl ⟨by kernel_rfl, ?_⟩) (by assumption) ?_
  rotate_left
  · intro w hSw; go_simp; with_reducible rfl
  try simp (maxSteps := 2000000) only [Act.put, List.getElem_toArray, List.getElem_cons_succ, List.getElem_cons_zero, List.setIfInBounds_toArray, List.set_cons_zero, List.set_cons_succ]
  refine wpAnyH_take (i := 7) (v := ?_) rfl (by kernel_rfl) (by kernel_rfl) (by kernel_rfl) (fun _ _ _ h => h) (Or.inl ⟨by kernel_rfl, ?_⟩) (by assumption) ?_
  rotate_left
  · intro w hSw; go_simp; with_reducible rfl
  try simp (maxSteps := 2000000) only [Act.put, List.getElem_toArray, List.getElem_cons_succ, List.getElem_cons_zero, List.setIfInBounds_toArray, List.set_cons_zero, List.set_cons_succ]
  refine wpAnyH_take (i := 8) (v := ?_) rfl (by kernel_rfl) (by kernel_rfl) (by kernel_rfl) (fun _ _ _ h => h) (Or.inl ⟨by kernel_rfl, ?_⟩) (by assumption) ?_
  rotate_left
  · intro w hSw; have hcl : w.cell? ⟨db, 3, none⟩ = some (.slice none 0 0) := (hSw.cell (p := ⟨db, 3, none⟩) HLD.out).trans (cell_of_row W0 db 3 _ 42 (0, 0) HD.out); go_simp; with_reducible rfl
  try simp (maxSteps := 2000000) only [Act.put, List.getElem_toArray, List.getElem_cons_succ, List.getElem_cons_zero, List.setIfInBounds_toArray, List.set_cons_zero, List.set_cons_succ]
  refine wpAnyH_take (i := 9) (v := ?_) rfl (by kernel_rfl) (by kernel_rfl) (by kernel_rfl) (fun _ _ _ h => h) (Or.inl ⟨by kernel_rfl, ?_⟩) (by assumption) ?_
  rotate_left
  · intro w hSw; go_simp; with_reducible rfl
  try simp (maxSteps := 2000000) only [Act.put, List.getElem_toArray, List.getElem_cons_succ, List.getElem_cons_zero, List.setIfInBounds_toArray, List.set_cons_zero, List.set_cons_succ]
  refine wpAnyH_take (i := 10) (v := ?_) rfl (by kernel_rfl) (by kernel_rfl) (by kernel_rfl) (fun _ _ _ h => h) (Or.inl ⟨by kernel_rfl, ?_⟩) (by assumption) ?_
  rotate_left
  · intro w hSw; have hcl : w.cell? ⟨pb, 9, none⟩ = some (.int .u8 ty) := (hSw.cell (p := ⟨pb, 9, none⟩) HLT.out).trans (cell_of_row W0 pb 9 _ 35 (0, 0) HP.out); go_simp; with_reducible rfl
  try simp (maxSteps := 2000000) only [Act.put, List.getElem_toArray, List.getElem_cons_succ, List.getElem_cons_zero, List.setIfInBounds_toArray, List.set_cons_zero, List.set_cons_succ]
  refine wpAnyH_ready (rs := [11]) (by kernel_rfl) (by simp) ?_
  refine AllReadyH.cons rfl ?_ AllReadyH.nil
  intro K hK
  rw [if_pos (by kernel_rfl)]
  go_simp
  refine (inlist53_nil ty _).mono ?_
  rintro e w3 ⟨rfl, hbc⟩
  go_wp2_with fail
  refine hK.out _ _ (hHeld.trans (hbc.mono hHeld.size)) (fun hHeld => ?_)
  clear hK K hbc
  try simp (maxSteps := 2000000) only [Act.put, List.getElem_toArray, List.getElem_cons_succ, List.getElem_cons_zero, List.setIfInBounds_toArray, List.set_cons_zero, List.set_cons_succ]
  refine wpAnyH_take (i := 12) (v := ?_) rfl (by kernel_rfl) (by kernel_rfl) (by kernel_rfl) (fun _ _ _ h => h) (Or.inl ⟨by kernel_rfl, ?_⟩) (by assumption) ?_
  rotate_left
  · intro w hSw; go_simp; with_reducible rfl
  try simp (maxSteps := 2000000) only [Act.put, List.getElem_toArray, List.getElem_cons_succ, List.getElem_cons_zero, List.setIfInBounds_toArray, List.set_cons_zero, List.set_cons_succ]
  refine wpAnyH_take (i := 13) (v := ?_) rfl (by kernel_rfl) (by kernel_rfl) (by kernel_rfl) (fun _ _ _ h => h) (Or.inl ⟨by kernel_rfl, ?_⟩) (by assumption) ?_
  rotate_left
  · intro w hSw; go_simp; with_reducible rfl
  try simp (maxSteps := 2000000) only [Act.put, List.getElem_toArray, List.getElem_cons_succ, List.getElem_cons_zero, List.setIfInBounds_toArray, List.set_cons_zero, List.set_cons_succ]
  refine wpAnyH_done (by kernel_rfl) ?_ _
  go_wp2_with fail
  go_ret
  exact ⟨rfl, HB.out.trans (hHeld.mono HB.out.size)⟩

set_option maxRecDepth 100000 in
set_option maxHeartbeats 4000000 in
theorem df_icmp4_off (db : Nat) (is4 : Bool) (proto sh sl dh dl sp dp ty co : Int) (dz : Addr) (iif oif : ByteArray) (p4 p6 : Addr) (w : World) (hz : Zs w p4 p6) (hpr : proto = 1) (hfam : fam is4 = 6) (h : w.heap[db]? = some (.cells (dfV proto) 42 (0, 0))) :
    Calls Tryd.prog 40 #[.pointer (some ⟨db, 0, none⟩), .agg (pkt proto sh sl (zp p4 p6 is4) dh dl dz sp dp ty co iif oif)] w fun e w' => e = .returned (.bool false) ∧ Below w.heap.size w w' := by
  subst hpr
  go_enter Tryd.func40, Tryd.ntmps40
  go_wp2
  obtain ⟨W0, hW0⟩ : ∃ W0, w.alloc (.cells (pkt 1 sh sl (zp p4 p6 is4) dh dl dz sp dp ty co iif oif) 35) = W0 := ⟨_, rfl⟩
  obtain ⟨pb, hpb⟩ : ∃ pb, w.heap.size = pb := ⟨_, rfl⟩
  rw [hW0, hpb]
  have HP := hid (show W0.heap[pb]? = some (.cells (pkt 1 sh sl (zp p4 p6 is4) dh dl dz sp dp ty co iif oif) 35 (0, 0)) by rw [← hW0, ← hpb]; exact heap_alloc_new _ _)
  have HD := hid (show W0.heap[db]? = some (.cells (dfV 1) 42 (0, 0)) by rw [← hW0]; exact heapOld h _)
  have HZ := hid (show Zs W0 p4 p6 by rw [← hW0]; exact hz.alloc _)
  have HB := hid (show Below w.heap.size w W0 by rw [← hW0]; exact (Below.refl _ _).alloc (Nat.le_refl _) _)
  have HLT := hid (heap_lt HP.out)
  have HLD := hid (heap_lt HD.out)
  have hS0 : Below W0.heap.size W0 W0 := Below.refl _ _
  clear hW0 h hz
  refine wp_region_held_drew (S := fun W => Below W0.heap.size W0 W) (by kernel_rfl) (hS0.drew) (fun hHeld => ?_)
  clear hS0
  refine wpAnyH_take (i := 0) (v := ?_) rfl (by kernel_rfl) (by kernel_rfl) (by kernel_rfl) (fun _ _ _ h => h) (Or.inl ⟨by kernel_rfl, ?_⟩) (by assumption) ?_
  rotate_left
  · intro w hSw; go_simp; with_reducible rfl
  try simp (maxSteps := 2000000) only [Act.put, List.getElem_toArray, List.getElem_cons_succ, List.getElem_cons_zero, List.setIfInBounds_toArray, List.set_cons_zero, List.set_cons_succ]
  refine wpAnyH_take (i := 1) (v := ?_) rfl (by kernel_rfl) (by kernel_rfl) (by kernel_rfl) (fun _ _ _ h => h) (Or.inl ⟨by kernel_rfl, ?_⟩) (by assumption) ?_
  rotate_left
  · intro w hSw; go_simp; with_reducible rfl
  try simp (maxSteps := 2000000) only [Act.put, List.getElem_toArray, List.getElem_cons_succ, List.getElem_cons_zero, List.setIfInBounds_toArray, List.set_cons_zero, List.set_cons_succ]
  refine wpAnyH_take (i := 2) (v := ?_) rfl (by kernel_rfl) (by kernel_rfl) (by kernel_rfl) (fun _ _ _ h => h) (Or.inl ⟨by kernel_rfl, ?_⟩) (by assumption) ?_
  rotate_left
  · intro w hSw; go_simp; with_reducible rfl
  try simp (maxSteps := 2000000) only [Act.put, List.getElem_toArray, List.getElem_cons_succ, List.getElem_cons_zero, List.setIfInBounds_toArray, List.set_cons_zero, List.set_cons_succ]
  refine wpAnyH_take (i := 3) (v := ?_) rfl (by kernel_rfl) (by kernel_rfl) (by kernel_rfl) (fun _ _ _ h => h) (Or.inl ⟨by kernel_rfl, ?_⟩) (by assumption) ?_
  rotate_left
  · intro w hSw; have hcl : w.cell? ⟨db, 0, none⟩ = some (.int .u8 1) := (hSw.cell (p := ⟨db, 0, none⟩) HLD.out).trans (cell_of_row W0 db 0 _ 42 (0, 0) HD.out); go_simp; with_reducible rfl
  try simp (maxSteps := 2000000) only [Act.put, List.getElem_toArray, List.getElem_cons_succ, List.getElem_cons_zero, List.setIfInBounds_toArray, List.set_cons_zero, List.set_cons_succ]
  refine wpAnyH_take (i := 4) (v := ?_) rfl (by kernel_rfl) (by kernel_rfl) (by kernel_rfl) (fun _ _ _ h => h) (Or.inl ⟨by kernel_rfl, ?_⟩) (by assumption) ?_
  rotate_left
  · intro w hSw; go_simp; with_reducible rfl
  try simp (maxSteps := 2000000) only [Act.put, List.getElem_toArray, List.getElem_cons_succ, List.getElem_cons_zero, List.setIfInBounds_toArray, List.set_cons_zero, List.set_cons_succ]
  refine wpAnyH_take (i := 5) (v := ?_) rfl (by kernel_rfl) (by kernel_rfl) (by kernel_rfl) (fun _ _ _ h => h) (Or.inl ⟨by kernel_rfl, ?_⟩) (by assumption) ?_
  rotate_left
  · intro w hSw; have hcl : w.cell? ⟨pb, 0, none⟩ = some (.int .u8 1) := (hSw.cell (p := ⟨pb, 0, none⟩) HLT.out).trans (cell_of_row W0 pb 0 _ 35 (0, 0) HP.out); go_simp; with_reducible rfl
  try simp (maxSteps := 2000000) only [Act.put, List.getElem_toArray, List.getElem_cons_succ, List.getElem_cons_zero, List.setIfInBounds_toArray, List.set_cons_zero, List.set_cons_succ]
  refine wpAnyH_take (i := 6) (v := ?_) rfl (by kernel_rfl) (by kernel_rfl) (by kernel_rfl) (fun _ _ _ h => h) (Or.inl ⟨by kernel_rfl, ?_⟩) (by assumption) ?_
  rotate_left
  · intro w hSw; go_simp; with_reducible rfl
  try simp (maxSteps := 2000000) only [Act.put, List.getElem_toArray, List.getElem_cons_succ, List.getElem_cons_zero, List.setIfInBounds_toArray, List.set_cons_zero, List.set_cons_succ]
  refine wpAnyH_done (by kernel_rfl) ?_ _
  generalize W0.drew = W1 at hHeld ⊢
  have hc0 : W1.cell? ⟨db, 0, none⟩ = some (.int .u8 1) := (hHeld.cell (p := ⟨db, 0, none⟩) HLD.out).trans (cell_of_row W0 db 0 _ 42 (0, 0) HD.out)
  have hS0 := hHeld
  clear hHeld
  go_wp2_with go_in
  refine wp_region_held_drew (S := fun W => Below W0.heap.size W0 W) (by kernel_rfl) (hS0.drew) (fun hHeld => ?_)
  clear hS0
  refine wpAnyH_take (i := 0) (v := ?_) rfl (by kernel_rfl) (by kernel_rfl) (by kernel_rfl) (fun _ _ _ h => h) (Or.inl ⟨by kernel_rfl, ?_⟩) (by assumption) ?_
  rotate_left
  · intro w hSw; go_simp; with_reducible rfl
  try simp (maxSteps := 2000000) only [Act.put, List.getElem_toArray, List.getElem_cons_succ, List.getElem_cons_zero, List.setIfInBounds_toArray, List.set_cons_zero, List.set_cons_succ]
  refine wpAnyH_take (i := 1) (v := _) rfl (by kernel_rfl) (by kernel_rfl) (by kernel_rfl) (fun _ _ _ h => h) (yieldsIf_load_mid (by kernel_rfl) _ _ rfl _ _ rfl (pkt 1 sh sl (zp p4 p6 is4) dh dl dz sp dp ty co iif oif).toList _ (fun W hSw => range_row (o := 0) (n := 13) ((hSw.block pb HLT.out).trans HP.out) rfl) Tryd.underlying35 rfl sz35) (by assumption) ?_
  try simp (maxSteps := 2000000) only [Act.put, List.getElem_toArray, List.getElem_cons_succ, List.getElem_cons_zero, List.setIfInBounds_toArray, List.set_cons_zero, List.set_cons_succ]
  refine wpAnyH_ready (rs := [2]) (by kernel_rfl) (by simp) ?_
  refine AllReadyH.cons rfl ?_ AllReadyH.nil
  intro K hK
  rw [if_pos (by kernel_rfl)]
  go_simp
  refine (family_any is4 1 sh sl dh dl sp dp ty co dz iif oif p4 p6 _ (HZ.out.below hHeld)).mono ?_
  rintro e w2 ⟨rfl, hbc⟩
  rw [hfam]
  go_wp2_with fail
  refine hK.out _ _ (hHeld.trans (hbc.mono hHeld.size)) (fun hHeld => ?_)
  clear hK K hbc
  try simp (maxSteps := 2000000) only [Act.put, List.getElem_toArray, List.getElem_cons_succ, List.getElem_cons_zero, List.setIfInBounds_toArray, List.set_cons_zero, List.set_cons_succ]
  refine wpAnyH_take (i := 3) (v := ?_) rfl (by kernel_rfl) (by kernel_rfl) (by kernel_rfl) (fun _ _ _ h => h) (Or.inl ⟨by kernel_rfl, ?_⟩) (by assumption) ?_
  rotate_left
  · intro w hSw; go_simp; with_reducible rfl
  try simp (maxSteps := 2000000) only [Act.put, List.getElem_toArray, List.getElem_cons_succ, List.getElem_cons_zero, List.setIfInBounds_toArray, List.set_cons_zero, List.set_cons_succ]
  refine wpAnyH_take (i := 4) (v := ?_) rfl (by kernel_rfl) (by kernel_rfl) (by kernel_rfl) (fun _ _ _ h => h) (Or.inl ⟨by kernel_rfl, ?_⟩) (by assumption) ?_
  rotate_left
  · intro w hSw; go_simp; with_reducible rfl
  try simp (maxSteps := 2000000) only [Act.put, List.getElem_toArray, List.getElem_cons_succ, List.getElem_cons_zero, List.setIfInBounds_toArray, List.set_cons_zero, List.set_cons_succ]
  refine wpAnyH_take (i := 5) (v := _) rfl (by kernel_rfl) (by kernel_rfl) (by kernel_rfl) (fun _ _ _ h => h) (Or.inr ⟨by kernel_rfl, rfl⟩) (by assumption) ?_
  try simp (maxSteps := 2000000) only [Act.put, List.getElem_toArray, List.getElem_cons_succ, List.getElem_cons_zero, List.setIfInBounds_toArray, List.set_cons_zero, List.set_cons_succ]
  refine wpAnyH_take (i := 6) (v := _) rfl (by kernel_rfl) (by kernel_rfl) (by kernel_rfl) (fun _ _ _ h => h) (Or.inr ⟨by kernel_rfl, rfl⟩) (by assumption) ?_
  try simp (maxSteps := 2000000) only [Act.put, List.getElem_toArray, List.getElem_cons_succ, List.getElem_cons_zero, List.setIfInBounds_toArray, List.set_cons_zero, List.set_cons_succ]
  refine wpAnyH_take (i := 7) (v := _) rfl (by kernel_rfl) (by kernel_rfl) (by kernel_rfl) (fun _ _ _ h => h) (Or.inr ⟨by kernel_rfl, rfl⟩) (by assumption) ?_
  try simp (maxSteps := 2000000) only [Act.put, List.getElem_toArray, List.getElem_cons_succ, List.getElem_cons_zero, List.setIfInBounds_toArray, List.set_cons_zero, List.set_cons_succ]
  refine wpAnyH_take (i := 8) (v := _) rfl (by kernel_rfl) (by kernel_rfl) (by kernel_rfl) (fun _ _ _ h => h) (Or.inr ⟨by kernel_rfl, rfl⟩) (by assumption) ?_
  try simp (maxSteps := 2000000) only [Act.put, List.getElem_toArray, List.getElem_cons_succ, List.getElem_cons_zero, List.setIfInBounds_toArray, List.set_cons_zero, List.set_cons_succ]
  refine wpAnyH_take (i := 9) (v := _) rfl (by kernel_rfl) (by kernel_rfl) (by kernel_rfl) (fun _ _ _ h => h) (Or.inr ⟨by kernel_rfl, rfl⟩) (by assumption) ?_
  try simp (maxSteps := 2000000) only [Act.put, List.getElem_toArray, List.getElem_cons_succ, List.getElem_cons_zero, List.setIfInBounds_toArray, List.set_cons_zero, List.set_cons_succ]
  refine wpAnyH_take (i := 10) (v := _) rfl (by kernel_rfl) (by kernel_rfl) (by kernel_rfl) (fun _ _ _ h => h) (Or.inr ⟨by kernel_rfl, rfl⟩) (by assumption) ?_
  try simp (maxSteps := 2000000) only [Act.put, List.getElem_toArray, List.getElem_cons_succ, List.getElem_cons_zero, List.setIfInBounds_toArray, List.set_cons_zero, List.set_cons_succ]
  refine wpAnyH_take (i := 11) (v := _) rfl (by kernel_rfl) (by kernel_rfl) (by kernel_rfl) (fun _ _ _ h => h) (Or.inr ⟨by kernel_rfl, rfl⟩) (by assumption) ?_
  try simp (maxSteps := 2000000) only [Act.put, List.getElem_toArray, List.getElem_cons_succ, List.getElem_cons_zero, List.setIfInBounds_toArray, List.set_cons_zero, List.set_cons_succ]
  refine wpAnyH_take (i := 12) (v := ?_) rfl (by kernel_rfl) (by kernel_rfl) (by kernel_rfl) (fun _ _ _ h => h) (Or.inl ⟨by kernel_rfl, ?_⟩) (by assumption) ?_
  rotate_left
  · intro w hSw; go_simp; with_reducible rfl
  try simp (maxSteps := 2000000) only [Act.put, List.getElem_toArray, List.getElem_cons_succ, List.getElem_cons_zero, List.setIfInBounds_toArray, List.set_cons_zero, List.set_cons_succ]
  refine wpAnyH_take (i := 13) (v := ?_) rfl (by kernel_rfl) (by kernel_rfl) (by kernel_rfl) (fun _ _ _ h => h) (Or.inl ⟨by kernel_rfl, ?_⟩) (by assumption) ?_
  rotate_left
  · intro w hSw; go_simp; with_reducible rfl
  try simp (maxSteps := 2000000) only [Act.put, List.getElem_toArray, List.getElem_cons_succ, List.getElem_cons_zero, List.setIfInBounds_toArray, List.set_cons_zero, List.set_cons_succ]
  refine wpAnyH_done (by kernel_rfl) ?_ _
  go_wp2_with fail
  go_ret
  exact ⟨rfl, HB.out.trans (hHeld.mono HB.out.size)⟩

set_option maxRecDepth 100000 in
set_option maxHeartbeats 4000000 in
theorem df_icmp6_on (db : Nat) (is4 : Bool) (proto sh sl dh dl sp dp ty co : Int) (dz : Addr) (iif oif : ByteArray) (p4 p6 : Addr) (w : World) (hz : Zs w p4 p6) (hpr : proto = 58) (hfam : fam is4 = 6) (h : w.heap[db]? = some (.cells (dfV proto) 42 (0, 0))) :
    Calls Tryd.prog 40 #[.pointer (some ⟨db, 0, none⟩), .agg (pkt proto sh sl (zp p4 p6 is4) dh dl dz sp dp ty co iif oif)] w fun e w' => e = .returned (.bool true) ∧ Below w.heap.size w w' := by
  subst hpr
  go_enter Tryd.func40, Tryd.ntmps40
  go_wp2
  obtain ⟨W0, hW0⟩ : ∃ W0, w.alloc (.cells (pkt 58 sh sl (zp p4 p6 is4) dh dl dz sp dp ty co iif oif) 35) = W0 := ⟨_, rfl⟩
  obtain ⟨pb, hpb⟩ : ∃ pb, w.heap.size = pb := ⟨_, rfl⟩
  rw [hW0, hpb]
  have HP := hid (show W0.heap[pb]? = some (.cells (pkt 58 sh sl (zp p4 p6 is4) dh dl dz sp dp ty co iif oif) 35 (0, 0)) by rw [← hW0, ← hpb]; exact heap_alloc_new _ _)
  have HD := hid (show W0.heap[db]? = some (.cells (dfV 58) 42 (0, 0)) by rw [← hW0]; exact heapOld h _)
  have HZ := hid (show Zs W0 p4 p6 by rw [← hW0]; exact hz.alloc _)
  have HB := hid (show Below w.heap.size w W0 by rw [← hW0]; exact (Below.refl _ _).alloc (Nat.le_refl _) _)
  have HLT := hid (heap_lt HP.out)
  have HLD := hid (heap_lt HD.out)
  have hS0 : Below W0.heap.size W0 W0 := Below.refl _ _
  clear hW0 h hz
  refine wp_region_held_drew (S := fun W => Below W0.heap.size W0 W) (by kernel_rfl) (hS0.drew) (fun hHeld => ?_)
  clear hS0
  refine wpAnyH_take (i := 0) (v := ?_) rfl (by kernel_rfl) (by kernel_rfl) (by kernel_rfl) (fun _ _ _ h => h) (Or.inl ⟨by kernel_rfl, ?_⟩) (by assumption) ?_
  rotate_left
  · intro w hSw; go_simp; with_reducible rfl
  try simp (maxSteps := 2000000) only [Act.put, List.getElem_toArray, List.getElem_cons_succ, List.getElem_cons_zero, List.setIfInBounds_toArray, List.set_cons_zero, List.set_cons_succ]
  refine wpAnyH_take (i := 1) (v := ?_) rfl (by kernel_rfl) (by kernel_rfl) (by kernel_rfl) (fun _ _ _ h => h) (Or.inl ⟨by kernel_rfl, ?_⟩) (by assumption) ?_
  rotate_left
  · intro w hSw; go_simp; with_reducible rfl
  try simp (maxSteps := 2000000) only [Act.put, List.getElem_toArray, List.getElem_cons_succ, List.getElem_cons_zero, List.setIfInBounds_toArray, List.set_cons_zero, List.set_cons_succ]
  refine wpAnyH_take (i := 2) (v := ?_) rfl (by kernel_rfl) (by kernel_rfl) (by kernel_rfl) (fun _ _ _ h => h) (Or.inl ⟨by kernel_rfl, ?_⟩) (by assumption) ?_
  rotate_left
  · intro w hSw; go_simp; with_reducible rfl
  try simp (maxSteps := 2000000) only [Act.put, List.getElem_toArray, List.getElem_cons_succ, List.getElem_cons_zero, List.setIfInBounds_toArray, List.set_cons_zero, List.set_cons_succ]
  refine wpAnyH_take (i := 3) (v := ?_) rfl (by kernel_rfl) (by kernel_rfl) (by kernel_rfl) (fun _ _ _ h => h) (Or.inl ⟨by kernel_rfl, ?_⟩) (by assumption) ?_
  rotate_left
  · intro w hSw; have hcl : w.cell? ⟨db, 0, none⟩ = some (.int .u8 58) := (hSw.cell (p := ⟨db, 0, none⟩) HLD.out).trans (cell_of_row W0 db 0 _ 42 (0, 0) HD.out); go_simp; with_reducible rfl
  try simp (maxSteps := 2000000) only [Act.put, List.getElem_toArray, List.getElem_cons_succ, List.getElem_cons_zero, List.setIfInBounds_toArray, List.set_cons_zero, List.set_cons_succ]
  refine wpAnyH_take (i := 4) (v := ?_) rfl (by kernel_rfl) (by kernel_rfl) (by kernel_rfl) (fun _ _ _ h => h) (Or.inl ⟨by kernel_rfl, ?_⟩) (by assumption) ?_
  rotate_left
  · intro w hSw; go_simp; with_reducible rfl
  try simp (maxSteps := 2000000) only [Act.put, List.getElem_toArray, List.getElem_cons_succ, List.getElem_cons_zero, List.setIfInBounds_toArray, List.set_cons_zero, List.set_cons_succ]
  refine wpAnyH_take (i := 5) (v := ?_) rfl (by kernel_rfl) (by kernel_rfl) (by kernel_rfl) (fun _ _ _ h => h) (Or.inl ⟨by kernel_rfl, ?_⟩) (by assumption) ?_
  rotate_left
  · intro w hSw; have hcl : w.cell? ⟨pb, 0, none⟩ = some (.int .u8 58) := (hSw.cell (p := ⟨pb, 0, none⟩) HLT.out).trans (cell_of_row W0 pb 0 _ 35 (0, 0) HP.out); go_simp; with_reducible rfl
  try simp (maxSteps := 2000000) only [Act.put, List.getElem_toArray, List.getElem_cons_succ, List.getElem_cons_zero, List.setIfInBounds_toArray, List.set_cons_zero, List.set_cons_succ]
  refine wpAnyH_take (i := 6) (v := ?_) rfl (by kernel_rfl) (by kernel_rfl) (by kernel_rfl) (fun _ _ _ h => h) (Or.inl ⟨by kernel_rfl, ?_⟩) (by assumption) ?_
  rotate_left
  · intro w hSw; go_simp; with_reducible rfl
  try simp (maxSteps := 2000000) only [Act.put, List.getElem_toArray, List.getElem_cons_succ, List.getElem_cons_zero, List.setIfInBounds_toArray, List.set_cons_zero, List.set_cons_succ]
  refine wpAnyH_done (by kernel_rfl) ?_ _
  generalize W0.drew = W1 at hHeld ⊢
  have hc0 : W1.cell? ⟨db, 0, none⟩ = some (.int .u8 58) := (hHeld.cell (p := ⟨db, 0, none⟩) HLD.out).trans (cell_of_row W0 db 0 _ 42 (0, 0) HD.out)
  have hS0 := hHeld
  clear hHeld
  go_wp2_with go_in
  refine wp_region_held_drew (S := fun W => Below W0.heap.size W0 W) (by kernel_rfl) (hS0.drew) (fun hHeld => ?_)
  clear hS0
  refine wpAnyH_take (i := 0) (v := ?_) rfl (by kernel_rfl) (by kernel_rfl) (by kernel_rfl) (fun _ _ _ h => h) (Or.inl ⟨by kernel_rfl, ?_⟩) (by assumption) ?_
  rotate_left
  · intro w hSw; go_simp; with_reducible rfl
  try simp (maxSteps := 2000000) only [Act.put, List.getElem_toArray, List.getElem_cons_succ, List.getElem_cons_zero, List.setIfInBounds_toArray, List.set_cons_zero, List.set_cons_succ]
  refine wpAnyH_take (i := 1) (v := _) rfl (by kernel_rfl) (by kernel_rfl) (by kernel_rfl) (fun _ _ _ h => h) (yieldsIf_load_mid (by kernel_rfl) _ _ rfl _ _ rfl (pkt 58 sh sl (zp p4 p6 is4) dh dl dz sp dp ty co iif oif).toList _ (fun W hSw => range_row (o := 0) (n := 13) ((hSw.block pb HLT.out).trans HP.out) rfl) Tryd.underlying35 rfl sz35) (by assumption) ?_
  try simp (maxSteps := 2000000) only [Act.put, List.getElem_toArray, List.getElem_cons_succ, List.getElem_cons_zero, List.setIfInBounds_toArray, List.set_cons_zero, List.set_cons_succ]
  refine wpAnyH_ready (rs := [2]) (by kernel_rfl) (by simp) ?_
  refine AllReadyH.cons rfl ?_ AllReadyH.nil
  intro K hK
  rw [if_pos (by kernel_rfl)]
  go_simp
  refine (family_any is4 58 sh sl dh dl sp dp ty co dz iif oif p4 p6 _ (HZ.out.below hHeld)).mono ?_
  rintro e w2 ⟨rfl, hbc⟩
  rw [hfam]
  go_wp2_with fail
  refine hK.out _ _ (hHeld.trans (hbc.mono hHeld.size)) (fun hHeld => ?_)
  clear hK K hbc
  try simp (maxSteps := 2000000) only [Act.put, List.getElem_toArray, List.getElem_cons_succ, List.getElem_cons_zero, List.setIfInBounds_toArray, List.set_cons_zero, List.set_cons_succ]
  refine wpAnyH_take (i := 3) (v := ?_) rfl (by kernel_rfl) (by kernel_rfl) (by kernel_rfl) (fun _ _ _ h => h) (Or.inl ⟨by kernel_rfl, ?_⟩) (by assumption) ?_
  rotate_left
  · intro w hSw; go_simp; with_reducible rfl
  try simp (maxSteps := 2000000) only [Act.put, List.getElem_toArray, List.getElem_cons_succ, List.getElem_cons_zero, List.setIfInBounds_toArray, List.set_cons_zero, List.set_cons_succ]
  refine wpAnyH_take (i := 4) (v := ?_) rfl (by kernel_rfl) (by kernel_rfl) (by kernel_rfl) (fun _ _ _ h => h) (Or.inl ⟨by kernel_rfl, ?_⟩) (by assumption) ?_
  rotate_left
  · intro w hSw; go_simp; with_reducible rfl
  try simp (maxSteps := 2000000) only [Act.put, List.getElem_toArray, List.getElem_cons_succ, List.getElem_cons_zero, List.setIfInBounds_toArray, List.set_cons_zero, List.set_cons_succ]
  refine wpAnyH_take (i := 5) (v := ?_) rfl (by kernel_rfl) (by kernel_rfl) (by kernel_rfl) (fun _ _ _ h => h) (Or.inl ⟨by kernel_rfl, ?_⟩) (by assumption) ?_
  rotate_left
  · intro w hSw; go_simp; with_reducible rfl
  try simp (maxSteps := 2000000) only [Act.put, List.getElem_toArray, List.getElem_cons_succ, List.getElem_cons_zero, List.setIfInBounds_toArray, List.set_cons_zero, List.set_cons_succ]
  refine wpAnyH_take (i := 6) (v := ?_) rfl (by kernel_rfl) (by kernel_rfl) (by kernel_rfl) (fun _ _ _ h => h) (Or.inl ⟨by kernel_rfl, ?_⟩) (by assumption) ?_
  rotate_left
  · intro w hSw; go_simp; with_reducible rfl
  try simp (maxSteps := 2000000) only [Act.put, List.getElem_toArray, List.getElem_cons_succ, List.getElem_cons_zero, List.setIfInBounds_toArray, List.set_cons_zero, List.set_cons_succ]
  refine wpAnyH_take (i := 7) (v := ?_) rfl (by kernel_rfl) (by kernel_rfl) (by kernel_rfl) (fun _ _ _ h => h) (Or.inl ⟨by kernel_rfl, ?_⟩) (by assumption) ?_
  rotate_left
  · intro w hSw; go_simp; with_reducible rfl
  try simp (maxSteps := 2000000) only [Act.put, List.getElem_toArray, List.getElem_cons_succ, List.getElem_cons_zero, List.setIfInBounds_toArray, List.set_cons_zero, List.set_cons_succ]
  refine wpAnyH_take (i := 8) (v := ?_) rfl (by kernel_rfl) (by kernel_rfl) (by kernel_rfl) (fun _ _ _ h => h) (Or.inl ⟨by kernel_rfl, ?_⟩) (by assumption) ?_
  rotate_left
  · intro w hSw; have hcl : w.cell? ⟨db, 3, none⟩ = some (.slice none 0 0) := (hSw.cell (p := ⟨db, 3, none⟩) HLD.out).trans (cell_of_row W0 db 3 _ 42 (0, 0) HD.out); go_simp; with_reducible rfl
  try simp (maxSteps := 2000000) only [Act.put, List.getElem_toArray, List.getElem_cons_succ, List.getElem_cons_zero, List.setIfInBounds_toArray, List.set_cons_zero, List.set_cons_succ]
  refine wpAnyH_take (i := 9) (v := ?_) rfl (by kernel_rfl) (by kernel_rfl) (by kernel_rfl) (fun _ _ _ h => h) (Or.inl ⟨by kernel_rfl, ?_⟩) (by assumption) ?_
  rotate_left
  · intro w hSw; go_simp; with_reducible rfl
  try simp (maxSteps := 2000000) only [Act.put, List.getElem_toArray, List.getElem_cons_succ, List.getElem_cons_zero, List.setIfInBounds_toArray, List.set_cons_zero, List.set_cons_succ]
  refine wpAnyH_take (i := 10) (v := ?_) rfl (by kernel_rfl) (by kernel_rfl) (by kernel_rfl) (fun _ _ _ h => h) (Or.inl ⟨by kernel_rfl, ?_⟩) (by assumption) ?_
  rotate_left
  · intro w hSw; have hcl : w.cell? ⟨pb, 9, none⟩ = some (.int .u8 ty) := (hSw.cell (p := ⟨pb, 9, none⟩) HLT.out).trans (cell_of_row W0 pb 9 _ 35 (0, 0) HP.out); go_simp; with_reducible rfl
  try simp (maxSteps := 2000000) only [Act.put, List.getElem_toArray, List.getElem_cons_succ, List.getElem_cons_zero, List.setIfInBounds_toArray, List.set_cons_zero, List.set_cons_succ]
  refine wpAnyH_ready (rs := [11]) (by kernel_rfl) (by simp) ?_
  refine AllReadyH.cons rfl ?_ AllReadyH.nil
  intro K hK
  rw [if_pos (by kernel_rfl)]
  go_simp
  refine (inlist53_nil ty _).mono ?_
  rintro e w3 ⟨rfl, hbc⟩
  go_wp2_with fail
  refine hK.out _ _ (hHeld.trans (hbc.mono hHeld.size)) (fun hHeld => ?_)
  clear hK K hbc
  try simp (maxSteps := 2000000) only [Act.put, List.getElem_toArray, List.getElem_cons_succ, List.getElem_cons_zero, List.setIfInBounds_toArray, List.set_cons_zero, List.set_cons_succ]
  refine wpAnyH_take (i := 12) (v := ?_) rfl (by kernel_rfl) (by kernel_rfl) (by kernel_rfl) (fun _ _ _ h => h) (Or.inl ⟨by kernel_rfl, ?_⟩) (by assumption) ?_
  rotate_left
  · intro w hSw; go_simp; with_reducible rfl
  try simp (maxSteps := 2000000) only [Act.put, List.getElem_toArray, List.getElem_cons_succ, List.getElem_cons_zero, List.setIfInBounds_toArray, List.set_cons_zero, List.set_cons_succ]
  refine wpAnyH_take (i := 13) (v := ?_) rfl (by kernel_rfl) (by kernel_rfl) (by kernel_rfl) (fun _ _ _ h => h) (Or.inl ⟨by kernel_rfl, ?_⟩) (by assumption) ?_
  rotate_left
  · intro w hSw; go_simp; with_reducible rfl
  try simp (maxSteps := 2000000) only [Act.put, List.getElem_toArray, List.getElem_cons_succ, List.getElem_cons_zero, List.setIfInBounds_toArray, List.set_cons_zero, List.set_cons_succ]
  refine wpAnyH_done (by kernel_rfl) ?_ _
  go_wp2_with fail
  go_ret
  exact ⟨rfl, HB.out.trans (hHeld.mono HB.out.size)⟩

set_option maxRecDepth 100000 in
set_option maxHeartbeats 4000000 in
theorem df_icmp6_off (db : Nat) (is4 : Bool) (proto sh sl dh dl sp dp ty co : Int) (dz : Addr) (iif oif : ByteArray) (p4 p6 : Addr) (w : World) (hz : Zs w p4 p6) (hpr : proto = 58) (hfam : fam is4 = 4) (h : w.heap[db]? = some (.cells (dfV proto) 42 (0, 0))) :
    Calls Tryd.prog 40 #[.pointer (some ⟨db, 0, none⟩), .agg (pkt proto sh sl (zp p4 p6 is4) dh dl dz sp dp ty co iif oif)] w fun e w' => e = .returned (.bool false) ∧ Below w.heap.size w w' := by
  subst hpr
  go_enter Tryd.func40, Tryd.ntmps40
  go_wp2
  obtain ⟨W0, hW0⟩ : ∃ W0, w.alloc (.cells (pkt 58 sh sl (zp p4 p6 is4) dh dl dz sp dp ty co iif oif) 35) = W0 := ⟨_, rfl⟩
  obtain ⟨pb, hpb⟩ : ∃ pb, w.heap.size = pb := ⟨_, rfl⟩
  rw [hW0, hpb]
  have HP := hid (show W0.heap[pb]? = some (.cells (pkt 58 sh sl (zp p4 p6 is4) dh dl dz sp dp ty co iif oif) 35 (0, 0)) by rw [← hW0, ← hpb]; exact heap_alloc_new _ _)
  have HD := hid (show W0.heap[db]? = some (.cells (dfV 58) 42 (0, 0)) by rw [← hW0]; exact heapOld h _)
  have HZ := hid (show Zs W0 p4 p6 by rw [← hW0]; exact hz.alloc _)
  have HB := hid (show Below w.heap.size w W0 by rw [← hW0]; exact (Below.refl _ _).alloc (Nat.le_refl _) _)
  have HLT := hid (heap_lt HP.out)
  have HLD := hid (heap_lt HD.out)
  have hS0 : Below W0.heap.size W0 W0 := Below.refl _ _
  clear hW0 h hz
  refine wp_region_held_drew (S := fun W => Below W0.heap.size W0 W) (by kernel_rfl) (hS0.drew) (fun hHeld => ?_)
  clear hS0
  refine wpAnyH_take (i := 0) (v := ?_) rfl (by kernel_rfl) (by kernel_rfl) (by kernel_rfl) (fun _ _ _ h => h) (Or.inl ⟨by kernel_rfl, ?_⟩) (by assumption) ?_
  rotate_left
  · intro w hSw; go_simp; with_reducible rfl
  try simp (maxSteps := 2000000) only [Act.put, List.getElem_toArray, List.getElem_cons_succ, List.getElem_cons_zero, List.setIfInBounds_toArray, List.set_cons_zero, List.set_cons_succ]
  refine wpAnyH_take (i := 1) (v := ?_) rfl (by kernel_rfl) (by kernel_rfl) (by kernel_rfl) (fun _ _ _ h => h) (Or.inl ⟨by kernel_rfl, ?_⟩) (by assumption) ?_
  rotate_left
  · intro w hSw; go_simp; with_reducible rfl
  try simp (maxSteps := 2000000) only [Act.put, List.getElem_toArray, List.getElem_cons_succ, List.getElem_cons_zero, List.setIfInBounds_toArray, List.set_cons_zero, List.set_cons_succ]
  refine wpAnyH_take (i := 2) (v := ?_) rfl (by kernel_rfl) (by kernel_rfl) (by kernel_rfl) (fun _ _ _ h => h) (Or.inl ⟨by kernel_rfl, ?_⟩) (by assumption) ?_
  rotate_left
  · intro w hSw; go_simp; with_reducible rfl
  try simp (maxSteps := 2000000) only [Act.put, List.getElem_toArray, List.getElem_cons_succ, List.getElem_cons_zero, List.setIfInBounds_toArray, List.set_cons_zero, List.set_cons_succ]
  refine wpAnyH_take (i := 3) (v := ?_) rfl (by kernel_rfl) (by kernel_rfl) (by kernel_rfl) (fun _ _ _ h => h) (Or.inl ⟨by kernel_rfl, ?_⟩) (by assumption) ?_
  rotate_left
  · intro w hSw; have hcl : w.cell? ⟨db, 0, none⟩ = some (.int .u8 58) := (hSw.cell (p := ⟨db, 0, none⟩) HLD.out).trans (cell_of_row W0 db 0 _ 42 (0, 0) HD.out); go_simp; with_reducible rfl
  try simp (maxSteps := 2000000) only [Act.put, List.getElem_toArray, List.getElem_cons_succ, List.getElem_cons_zero, List.setIfInBounds_toArray, List.set_cons_zero, List.set_cons_succ]
  refine wpAnyH_take (i := 4) (v := ?_) rfl (by kernel_rfl) (by kernel_rfl) (by kernel_rfl) (fun _ _ _ h => h) (Or.inl ⟨by kernel_rfl, ?_⟩) (by assumption) ?_
  rotate_left
  · intro w hSw; go_simp; with_reducible rfl
  try simp (maxSteps := 2000000) only [Act.put, List.getElem_toArray, List.getElem_cons_succ, List.getElem_cons_zero, List.setIfInBounds_toArray, List.set_cons_zero, List.set_cons_succ]
  refine wpAnyH_take (i := 5) (v := ?_) rfl (by kernel_rfl) (by kernel_rfl) (by kernel_rfl) (fun _ _ _ h => h) (Or.inl ⟨by kernel_rfl, ?_⟩) (by assumption) ?_
  rotate_left
  · intro w hSw; have hcl : w.cell? ⟨pb, 0, none⟩ = some (.int .u8 58) := (hSw.cell (p := ⟨pb, 0, none⟩) HLT.out).trans (cell_of_row W0 pb 0 _ 35 (0, 0) HP.out); go_simp; with_reducible rfl
  try simp (maxSteps := 2000000) only [Act.put, List.getElem_toArray, List.getElem_cons_succ, List.getElem_cons_zero, List.setIfInBounds_toArray, List.set_cons_zero, List.set_cons_succ]
  refine wpAnyH_take (i := 6) (v := ?_) rfl (by kernel_rfl) (by kernel_rfl) (by kernel_rfl) (fun _ _ _ h => h) (Or.inl ⟨by kernel_rfl, ?_⟩) (by assumption) ?_
  rotate_left
  · intro w hSw; go_simp; with_reducible rfl
  try simp (maxSteps := 2000000) only [Act.put, List.getElem_toArray, List.getElem_cons_succ, List.getElem_cons_zero, List.setIfInBounds_toArray, List.set_cons_zero, List.set_cons_succ]
  refine wpAnyH_done (by kernel_rfl) ?_ _
  generalize W0.drew = W1 at hHeld ⊢
  have hc0 : W1.cell? ⟨db, 0, none⟩ = some (.int .u8 58) := (hHeld.cell (p := ⟨db, 0, none⟩) HLD.out).trans (cell_of_row W0 db 0 _ 42 (0, 0) HD.out)
  have hS0 := hHeld
  clear hHeld
  go_wp2_with go_in
  refine wp_region_held_drew (S := fun W => Below W0.heap.size W0 W) (by kernel_rfl) (hS0.drew) (fun hHeld => ?_)
  clear hS0
  refine wpAnyH_take (i := 0) (v := ?_) rfl (by kernel_rfl) (by kernel_rfl) (by kernel_rfl) (fun _ _ _ h => h) (Or.inl ⟨by kernel_rfl, ?_⟩) (by assumption) ?_
  rotate_left
  · intro w hSw; go_simp; with_reducible rfl
  try simp (maxSteps := 2000000) only [Act.put, List.getElem_toArray, List.getElem_cons_succ, List.getElem_cons_zero, List.setIfInBounds_toArray, List.set_cons_zero, List.set_cons_succ]
  refine wpAnyH_take (i := 1) (v := _) rfl (by kernel_rfl) (by kernel_rfl) (by kernel_rfl) (fun _ _ _ h => h) (yieldsIf_load_mid (by kernel_rfl) _ _ rfl _ _ rfl (pkt 58 sh sl (zp p4 p6 is4) dh dl dz sp dp ty co iif oif).toList _ (fun W hSw => range_row (o := 0) (n := 13) ((hSw.block pb HLT.out).trans HP.out) rfl) Tryd.underlying35 rfl sz35) (by assumption) ?_
  try simp (maxSteps := 2000000) only [Act.put, List.getElem_toArray, List.getElem_cons_succ, List.getElem_cons_zero, List.setIfInBounds_toArray, List.set_cons_zero, List.set_cons_succ]
  refine wpAnyH_ready (rs := [2]) (by kernel_rfl) (by simp) ?_
  refine AllReadyH.cons rfl ?_ AllReadyH.nil
  intro K hK
  rw [if_pos (by kernel_rfl)]
  go_simp
  refine (family_any is4 58 sh sl dh dl sp dp ty co dz iif oif p4 p6 _ (HZ.out.below hHeld)).mono ?_
  rintro e w2 ⟨rfl, hbc⟩
  rw [hfam]
  go_wp2_with fail
  refine hK.out _ _ (hHeld.trans (hbc.mono hHeld.size)) (fun hHeld => ?_)
  clear hK K hbc
  try simp (maxSteps := 2000000) only [Act.put, List.getElem_toArray, List.getElem_cons_succ, List.getElem_cons_zero, List.setIfInBounds_toArray, List.set_cons_zero, List.set_cons_succ]
  refine wpAnyH_take (i := 3) (v := ?_) rfl (by kernel_rfl) (by kernel_rfl) (by kernel_rfl) (fun _ _ _ h => h) (Or.inl ⟨by kernel_rfl, ?_⟩) (by assumption) ?_
  rotate_left
  · intro w hSw; go_simp; with_reducible rfl
  try simp (maxSteps := 2000000) only [Act.put, List.getElem_toArray, List.getElem_cons_succ, List.getElem_cons_zero, List.setIfInBounds_toArray, List.set_cons_zero, List.set_cons_succ]
  refine wpAnyH_take (i := 4) (v := ?_) rfl (by kernel_rfl) (by kernel_rfl) (by kernel_rfl) (fun _ _ _ h => h) (Or.inl ⟨by kernel_rfl, ?_⟩) (by assumption) ?_
  rotate_left
  · intro w hSw; go_simp; with_reducible rfl
  try simp (maxSteps := 2000000) only [Act.put, List.getElem_toArray, List.getElem_cons_succ, List.getElem_cons_zero, List.setIfInBounds_toArray, List.set_cons_zero, List.set_cons_succ]
  refine wpAnyH_take (i := 5) (v := _) rfl (by kernel_rfl) (by kernel_rfl) (by kernel_rfl) (fun _ _ _ h => h) (Or.inr ⟨by kernel_rfl, rfl⟩) (by assumption) ?_
  try simp (maxSteps := 2000000) only [Act.put, List.getElem_toArray, List.getElem_cons_succ, List.getElem_cons_zero, List.setIfInBounds_toArray, List.set_cons_zero, List.set_cons_succ]
  refine wpAnyH_take (i := 6) (v := _) rfl (by kernel_rfl) (by kernel_rfl) (by kernel_rfl) (fun _ _ _ h => h) (Or.inr ⟨by kernel_rfl, rfl⟩) (by assumption) ?_
  try simp (maxSteps := 2000000) only [Act.put, List.getElem_toArray, List.getElem_cons_succ, List.getElem_cons_zero, List.setIfInBounds_toArray, List.set_cons_zero, List.set_cons_succ]
  refine wpAnyH_take (i := 7) (v := _) rfl (by kernel_rfl) (by kernel_rfl) (by kernel_rfl) (fun _ _ _ h => h) (Or.inr ⟨by kernel_rfl, rfl⟩) (by assumption) ?_
  try simp (maxSteps := 2000000) only [Act.put, List.getElem_toArray, List.getElem_cons_succ, List.getElem_cons_zero, List.setIfInBounds_toArray, List.set_cons_zero, List.set_cons_succ]
  refine wpAnyH_take (i := 8) (v := _) rfl (by kernel_rfl) (by kernel_rfl) (by kernel_rfl) (fun _ _ _ h => h) (Or.inr ⟨by kernel_rfl, rfl⟩) (by assumption) ?_
  try simp (maxSteps := 2000000) only [Act.put, List.getElem_toArray, List.getElem_cons_succ, List.getElem_cons_zero, List.setIfInBounds_toArray, List.set_cons_zero, List.set_cons_succ]
  refine wpAnyH_take (i := 9) (v := _) rfl (by kernel_rfl) (by kernel_rfl) (by kernel_rfl) (fun _ _ _ h => h) (Or.inr ⟨by kernel_rfl, rfl⟩) (by assumption) ?_
  try simp (maxSteps := 2000000) only [Act.put, List.getElem_toArray, List.getElem_cons_succ, List.getElem_cons_zero, List.setIfInBounds_toArray, List.set_cons_zero, List.set_cons_succ]
  refine wpAnyH_take (i := 10) (v := _) rfl (by kernel_rfl) (by kernel_rfl) (by kernel_rfl) (fun _ _ _ h => h) (Or.inr ⟨by kernel_rfl, rfl⟩) (by assumption) ?_
  try simp (maxSteps := 2000000) only [Act.put, List.getElem_toArray, List.getElem_cons_succ, List.getElem_cons_zero, List.setIfInBounds_toArray, List.set_cons_zero, List.set_cons_succ]
  refine wpAnyH_take (i := 11) (v := _) rfl (by kernel_rfl) (by kernel_rfl) (by kernel_rfl) (fun _ _ _ h => h) (Or.inr ⟨by kernel_rfl, rfl⟩) (by assumption) ?_
  try simp (maxSteps := 2000000) only [Act.put, List.getElem_toArray, List.getElem_cons_succ, List.getElem_cons_zero, List.setIfInBounds_toArray, List.set_cons_zero, List.set_cons_succ]
  refine wpAnyH_take (i := 12) (v := ?_) rfl (by kernel_rfl) (by kernel_rfl) (by kernel_rfl) (fun _ _ _ h => h) (Or.inl ⟨by kernel_rfl, ?_⟩) (by assumption) ?_
  rotate_left
  · intro w hSw; go_simp; with_reducible rfl
  try simp (maxSteps := 2000000) only [Act.put, List.getElem_toArray, List.getElem_cons_succ, List.getElem_cons_zero, List.setIfInBounds_toArray, List.set_cons_zero, List.set_cons_succ]
  refine wpAnyH_take (i := 13) (v := ?_) rfl (by kernel_rfl) (by kernel_rfl) (by kernel_rfl) (fun _ _ _ h => h) (Or.inl ⟨by kernel_rfl, ?_⟩) (by assumption) ?_
  rotate_left
  · intro w hSw; go_simp; with_reducible rfl
  try simp (maxSteps := 2000000) only [Act.put, List.getElem_toArray, List.getElem_cons_succ, List.getElem_cons_zero, List.setIfInBounds_toArray, List.set_cons_zero, List.set_cons_succ]
  refine wpAnyH_done (by kernel_rfl) ?_ _
  go_wp2_with fail
  go_ret
  exact ⟨rfl, HB.out.trans (hHeld.mono HB.out.size)⟩

set_option maxRecDepth 100000 in
set_option maxHeartbeats 4000000 in
theorem df_plain (db : Nat) (is4 : Bool) (proto sh sl dh dl sp dp ty co : Int) (dz : Addr) (iif oif : ByteArray) (p4 p6 : Addr) (w : World) (hz : Zs w p4 p6) (b1 : (proto == 1) = false) (b2 : (proto == 58) = false) (h : w.heap[db]? = some (.cells (dfV proto) 42 (0, 0))) :
    Calls Tryd.prog 40 #[.pointer (some ⟨db, 0, none⟩), .agg (pkt proto sh sl (zp p4 p6 is4) dh dl dz sp dp ty co iif oif)] w fun e w' => e = .returned (.bool true) ∧ Below w.heap.size w w' := by
  go_enter Tryd.func40, Tryd.ntmps40
  go_wp2
  obtain ⟨W0, hW0⟩ : ∃ W0, w.alloc (.cells (pkt proto sh sl (zp p4 p6 is4) dh dl dz sp dp ty co iif oif) 35) = W0 := ⟨_, rfl⟩
  obtain ⟨pb, hpb⟩ : ∃ pb, w.heap.size = pb := ⟨_, rfl⟩
  rw [hW0, hpb]
  have HP := hid (show W0.heap[pb]? = some (.cells (pkt proto sh sl (zp p4 p6 is4) dh dl dz sp dp ty co iif oif) 35 (0, 0)) by rw [← hW0, ← hpb]; exact heap_alloc_new _ _)
  have HD := hid (show W0.heap[db]? = some (.cells (dfV proto) 42 (0, 0)) by rw [← hW0]; exact heapOld h _)
  have HZ := hid (show Zs W0 p4 p6 by rw [← hW0]; exact hz.alloc _)
  have HB := hid (show Below w.heap.size w W0 by rw [← hW0]; exact (Below.refl _ _).alloc (Nat.le_refl _) _)
  have HLT := hid (heap_lt HP.out)
  have HLD := hid (heap_lt HD.out)
  have hS0 : Below W0.heap.size W0 W0 := Below.refl _ _
  clear hW0 h hz
  refine wp_region_held_drew (S := fun W => Below W0.heap.size W0 W) (by kernel_rfl) (hS0.drew) (fun hHeld => ?_)
  clear hS0
  refine wpAnyH_take (i := 0) (v := ?_) rfl (by kernel_rfl) (by kernel_rfl) (by kernel_rfl) (fun _ _ _ h => h) (Or.inl ⟨by kernel_rfl, ?_⟩) (by assumption) ?_
  rotate_left
  · intro w hSw; go_simp; with_reducible rfl
  try simp (maxSteps := 2000000) only [Act.put, List.getElem_toArray, List.getElem_cons_succ, List.getElem_cons_zero, List.setIfInBounds_toArray, List.set_cons_zero, List.set_cons_succ]
  refine wpAnyH_take (i := 1) (v := ?_) rfl (by kernel_rfl) (by kernel_rfl) (by kernel_rfl) (fun _ _ _ h => h) (Or.inl ⟨by kernel_rfl, ?_⟩) (by assumption) ?_
  rotate_left
  · intro w hSw; go_simp; with_reducible rfl
  try simp (maxSteps := 2000000) only [Act.put, List.getElem_toArray, List.getElem_cons_succ, List.getElem_cons_zero, List.setIfInBounds_toArray, List.set_cons_zero, List.set_cons_succ]
  refine wpAnyH_take (i := 2) (v := ?_) rfl (by kernel_rfl) (by kernel_rfl) (by kernel_rfl) (fun _ _ _ h => h) (Or.inl ⟨by kernel_rfl, ?_⟩) (by assumption) ?_
  rotate_left
  · intro w hSw; go_simp; with_reducible rfl
  try simp (maxSteps := 2000000) only [Act.put, List.getElem_toArray, List.getElem_cons_succ, List.getElem_cons_zero, List.setIfInBounds_toArray, List.set_cons_zero, List.set_cons_succ]
  refine wpAnyH_take (i := 3) (v := ?_) rfl (by kernel_rfl) (by kernel_rfl) (by kernel_rfl) (fun _ _ _ h => h) (Or.inl ⟨by kernel_rfl, ?_⟩) (by assumption) ?_
  rotate_left
  · intro w hSw; have hcl : w.cell? ⟨db, 0, none⟩ = some (.int .u8 proto) := (hSw.cell (p := ⟨db, 0, none⟩) HLD.out).trans (cell_of_row W0 db 0 _ 42 (0, 0) HD.out); go_simp; with_reducible rfl
  try simp (maxSteps := 2000000) only [Act.put, List.getElem_toArray, List.getElem_cons_succ, List.getElem_cons_zero, List.setIfInBounds_toArray, List.set_cons_zero, List.set_cons_succ]
  refine wpAnyH_take (i := 4) (v := ?_) rfl (by kernel_rfl) (by kernel_rfl) (by kernel_rfl) (fun _ _ _ h => h) (Or.inl ⟨by kernel_rfl, ?_⟩) (by assumption) ?_
  rotate_left
  · intro w hSw; go_simp; with_reducible rfl
  try simp (maxSteps := 2000000) only [Act.put, List.getElem_toArray, List.getElem_cons_succ, List.getElem_cons_zero, List.setIfInBounds_toArray, List.set_cons_zero, List.set_cons_succ]
  refine wpAnyH_take (i := 5) (v := ?_) rfl (by kernel_rfl) (by kernel_rfl) (by kernel_rfl) (fun _ _ _ h => h) (Or.inl ⟨by kernel_rfl, ?_⟩) (by assumption) ?_
  rotate_left
  · intro w hSw; have hcl : w.cell? ⟨pb, 0, none⟩ = some (.int .u8 proto) := (hSw.cell (p := ⟨pb, 0, none⟩) HLT.out).trans (cell_of_row W0 pb 0 _ 35 (0, 0) HP.out); go_simp; with_reducible rfl
  try simp (maxSteps := 2000000) only [Act.put, List.getElem_toArray, List.getElem_cons_succ, List.getElem_cons_zero, List.setIfInBounds_toArray, List.set_cons_zero, List.set_cons_succ]
  refine wpAnyH_take (i := 6) (v := ?_) rfl (by kernel_rfl) (by kernel_rfl) (by kernel_rfl) (fun _ _ _ h => h) (Or.inl ⟨by kernel_rfl, ?_⟩) (by assumption) ?_
  rotate_left
  · intro w hSw; go_simp; with_reducible rfl
  try simp (maxSteps := 2000000) only [Act.put, List.getElem_toArray, List.getElem_cons_succ, List.getElem_cons_zero, List.setIfInBounds_toArray, List.set_cons_zero, List.set_cons_succ]
  refine wpAnyH_done (by kernel_rfl) ?_ _
  generalize W0.drew = W1 at hHeld ⊢
  have hc0 : W1.cell? ⟨db, 0, none⟩ = some (.int .u8 proto) := (hHeld.cell (p := ⟨db, 0, none⟩) HLD.out).trans (cell_of_row W0 db 0 _ 42 (0, 0) HD.out)
  have hS0 := hHeld
  clear hHeld
  go_wp2_with go_in
  refine wp_region_held_drew (S := fun W => Below W0.heap.size W0 W) (by kernel_rfl) (hS0.drew) (fun hHeld => ?_)
  clear hS0
  refine wpAnyH_take (i := 0) (v := ?_) rfl (by kernel_rfl) (by kernel_rfl) (by kernel_rfl) (fun _ _ _ h => h) (Or.inl ⟨by kernel_rfl, ?_⟩) (by assumption) ?_
  rotate_left
  · intro w hSw; go_simp; with_reducible rfl
  try simp (maxSteps := 2000000) only [Act.put, List.getElem_toArray, List.getElem_cons_succ, List.getElem_cons_zero, List.setIfInBounds_toArray, List.set_cons_zero, List.set_cons_succ]
  refine wpAnyH_take (i := 1) (v := ?_) rfl (by kernel_rfl) (by kernel_rfl) (by kernel_rfl) (fun _ _ _ h => h) (Or.inl ⟨by kernel_rfl, ?_⟩) (by assumption) ?_
  rotate_left
  · intro w hSw; go_simp; with_reducible rfl
  try simp (maxSteps := 2000000) only [Act.put, List.getElem_toArray, List.getElem_cons_succ, List.getElem_cons_zero, List.setIfInBounds_toArray, List.set_cons_zero, List.set_cons_succ]
  refine wpAnyH_take (i := 2) (v := ?_) rfl (by kernel_rfl) (by kernel_rfl) (by kernel_rfl) (fun _ _ _ h => h) (Or.inl ⟨by kernel_rfl, ?_⟩) (by assumption) ?_
  rotate_left
  · intro w hSw; go_simp; with_reducible rfl
  try simp (maxSteps := 2000000) only [Act.put, List.getElem_toArray, List.getElem_cons_succ, List.getElem_cons_zero, List.setIfInBounds_toArray, List.set_cons_zero, List.set_cons_succ]
  refine wpAnyH_take (i := 3) (v := ?_) rfl (by kernel_rfl) (by kernel_rfl) (by kernel_rfl) (fun _ _ _ h => h) (Or.inl ⟨by kernel_rfl, ?_⟩) (by assumption) ?_
  rotate_left
  · intro w hSw; have hcl : w.cell? ⟨db, 1, none⟩ = some (.slice none 0 0) := (hSw.cell (p := ⟨db, 1, none⟩) HLD.out).trans (cell_of_row W0 db 1 _ 42 (0, 0) HD.out); go_simp; with_reducible rfl
  try simp (maxSteps := 2000000) only [Act.put, List.getElem_toArray, List.getElem_cons_succ, List.getElem_cons_zero, List.setIfInBounds_toArray, List.set_cons_zero, List.set_cons_succ]
  refine wpAnyH_take (i := 4) (v := ?_) rfl (by kernel_rfl) (by kernel_rfl) (by kernel_rfl) (fun _ _ _ h => h) (Or.inl ⟨by kernel_rfl, ?_⟩) (by assumption) ?_
  rotate_left
  · intro w hSw; go_simp; with_reducible rfl
  try simp (maxSteps := 2000000) only [Act.put, List.getElem_toArray, List.getElem_cons_succ, List.getElem_cons_zero, List.setIfInBounds_toArray, List.set_cons_zero, List.set_cons_succ]
  refine wpAnyH_take (i := 5) (v := ?_) rfl (by kernel_rfl) (by kernel_rfl) (by kernel_rfl) (fun _ _ _ h => h) (Or.inl ⟨by kernel_rfl, ?_⟩) (by assumption) ?_
  rotate_left
  · intro w hSw; have hcl : w.cell? ⟨pb, 8, none⟩ = some (.int .u16 dp) := (hSw.cell (p := ⟨pb, 8, none⟩) HLT.out).trans (cell_of_row W0 pb 8 _ 35 (0, 0) HP.out); go_simp; with_reducible rfl
  try simp (maxSteps := 2000000) only [Act.put, List.getElem_toArray, List.getElem_cons_succ, List.getElem_cons_zero, List.setIfInBounds_toArray, List.set_cons_zero, List.set_cons_succ]
  refine wpAnyH_ready (rs := [6]) (by kernel_rfl) (by simp) ?_
  refine AllReadyH.cons rfl ?_ AllReadyH.nil
  intro K hK
  rw [if_pos (by kernel_rfl)]
  go_simp
  refine (inports_nil dp _).mono ?_
  rintro e w2 ⟨rfl, hbc⟩
  go_wp2_with fail
  refine hK.out _ _ (hHeld.trans (hbc.mono hHeld.size)) (fun hHeld => ?_)
  clear hK K hbc
  try simp (maxSteps := 2000000) only [Act.put, List.getElem_toArray, List.getElem_cons_succ, List.getElem_cons_zero, List.setIfInBounds_toArray, List.set_cons_zero, List.set_cons_succ]
  refine wpAnyH_take (i := 7) (v := ?_) rfl (by kernel_rfl) (by kernel_rfl) (by kernel_rfl) (fun _ _ _ h => h) (Or.inl ⟨by kernel_rfl, ?_⟩) (by assumption) ?_
  rotate_left
  · intro w hSw; go_simp; with_reducible rfl
  try simp (maxSteps := 2000000) only [Act.put, List.getElem_toArray, List.getElem_cons_succ, List.getElem_cons_zero, List.setIfInBounds_toArray, List.set_cons_zero, List.set_cons_succ]
  refine wpAnyH_take (i := 8) (v := ?_) rfl (by kernel_rfl) (by kernel_rfl) (by kernel_rfl) (fun _ _ _ h => h) (Or.inl ⟨by kernel_rfl, ?_⟩) (by assumption) ?_
  rotate_left
  · intro w hSw; go_simp; with_reducible rfl
  try simp (maxSteps := 2000000) only [Act.put, List.getElem_toArray, List.getElem_cons_succ, List.getElem_cons_zero, List.setIfInBounds_toArray, List.set_cons_zero, List.set_cons_succ]
  refine wpAnyH_take (i := 9) (v := ?_) rfl (by kernel_rfl) (by kernel_rfl) (by kernel_rfl) (fun _ _ _ h => h) (Or.inl ⟨by kernel_rfl, ?_⟩) (by assumption) ?_
  rotate_left
  · intro w hSw; go_simp; with_reducible rfl
  try simp (maxSteps := 2000000) only [Act.put, List.getElem_toArray, List.getElem_cons_succ, List.getElem_cons_zero, List.setIfInBounds_toArray, List.set_cons_zero, List.set_cons_succ]
  refine wpAnyH_take (i := 10) (v := ?_) rfl (by kernel_rfl) (by kernel_rfl) (by kernel_rfl) (fun _ _ _ h => h) (Or.inl ⟨by kernel_rfl, ?_⟩) (by assumption) ?_
  rotate_left
  · intro w hSw; go_simp; with_reducible rfl
  try simp (maxSteps := 2000000) only [Act.put, List.getElem_toArray, List.getElem_cons_succ, List.getElem_cons_zero, List.setIfInBounds_toArray, List.set_cons_zero, List.set_cons_succ]
  refine wpAnyH_take (i := 11) (v := ?_) rfl (by kernel_rfl) (by kernel_rfl) (by kernel_rfl) (fun _ _ _ h => h) (Or.inl ⟨by kernel_rfl, ?_⟩) (by assumption) ?_
  rotate_left
  · intro w hSw; have hcl : w.cell? ⟨db, 2, none⟩ = some (.slice none 0 0) := (hSw.cell (p := ⟨db, 2, none⟩) HLD.out).trans (cell_of_row W0 db 2 _ 42 (0, 0) HD.out); go_simp; with_reducible rfl
  try simp (maxSteps := 2000000) only [Act.put, List.getElem_toArray, List.getElem_cons_succ, List.getElem_cons_zero, List.setIfInBounds_toArray, List.set_cons_zero, List.set_cons_succ]
  refine wpAnyH_take (i := 12) (v := ?_) rfl (by kernel_rfl) (by kernel_rfl) (by kernel_rfl) (fun _ _ _ h => h) (Or.inl ⟨by kernel_rfl, ?_⟩) (by assumption) ?_
  rotate_left
  · intro w hSw; go_simp; with_reducible rfl
  try simp (maxSteps := 2000000) only [Act.put, List.getElem_toArray, List.getElem_cons_succ, List.getElem_cons_zero, List.setIfInBounds_toArray, List.set_cons_zero, List.set_cons_succ]
  refine wpAnyH_take (i := 13) (v := ?_) rfl (by kernel_rfl) (by kernel_rfl) (by kernel_rfl) (fun _ _ _ h => h) (Or.inl ⟨by kernel_rfl, ?_⟩) (by assumption) ?_
  rotate_left
  · intro w hSw; have hcl : w.cell? ⟨pb, 7, none⟩ = some (.int .u16 sp) := (hSw.cell (p := ⟨pb, 7, none⟩) HLT.out).trans (cell_of_row W0 pb 7 _ 35 (0, 0) HP.out); go_simp; with_reducible rfl
  try simp (maxSteps := 2000000) only [Act.put, List.getElem_toArray, List.getElem_cons_succ, List.getElem_cons_zero, List.setIfInBounds_toArray, List.set_cons_zero, List.set_cons_succ]
  refine wpAnyH_ready (rs := [14]) (by kernel_rfl) (by simp) ?_
  refine AllReadyH.cons rfl ?_ AllReadyH.nil
  intro K hK
  rw [if_pos (by kernel_rfl)]
  go_simp
  refine (inports_nil sp _).mono ?_
  rintro e w3 ⟨rfl, hbc⟩
  go_wp2_with fail
  refine hK.out _ _ (hHeld.trans (hbc.mono hHeld.size)) (fun hHeld => ?_)
  clear hK K hbc
  try simp (maxSteps := 2000000) only [Act.put, List.getElem_toArray, List.getElem_cons_succ, List.getElem_cons_zero, List.setIfInBounds_toArray, List.set_cons_zero, List.set_cons_succ]
  refine wpAnyH_take (i := 15) (v := ?_) rfl (by kernel_rfl) (by kernel_rfl) (by kernel_rfl) (fun _ _ _ h => h) (Or.inl ⟨by kernel_rfl, ?_⟩) (by assumption) ?_
  rotate_left
  · intro w hSw; go_simp; with_reducible rfl
  try simp (maxSteps := 2000000) only [Act.put, List.getElem_toArray, List.getElem_cons_succ, List.getElem_cons_zero, List.setIfInBounds_toArray, List.set_cons_zero, List.set_cons_succ]
  refine wpAnyH_take (i := 16) (v := ?_) rfl (by kernel_rfl) (by kernel_rfl) (by kernel_rfl) (fun _ _ _ h => h) (Or.inl ⟨by kernel_rfl, ?_⟩) (by assumption) ?_
  rotate_left
  · intro w hSw; go_simp; with_reducible rfl
  try simp (maxSteps := 2000000) only [Act.put, List.getElem_toArray, List.getElem_cons_succ, List.getElem_cons_zero, List.setIfInBounds_toArray, List.set_cons_zero, List.set_cons_succ]
  refine wpAnyH_done (by kernel_rfl) ?_ _
  go_wp2_with fail
  go_ret
  exact ⟨rfl, HB.out.trans (hHeld.mono HB.out.size)⟩

end Go.Proofs.Qxb6615875aDoor
