import Derived.Test.Qxb6615875aDoorM1
namespace Go.Proofs.Qxb6615875aDoor
open Go.RowKit
set_option linter.unusedSimpArgs false
set_option linter.unusedVariables false
attribute [local go_sem ↓] Go.wp_at_zero Go.wp_at_succ

set_option maxRecDepth 100000 in
set_option maxHeartbeats 8000000 in
theorem matches_0 (rb : Nat) (inV outV srcV destV : Value) (hin : ∃ a n c, inV = .slice a n c) (hou : ∃ a n c, outV = .slice a n c) (hsr : ∃ a n c, srcV = .slice a n c) (hde : ∃ a n c, destV = .slice a n c) (proto sh sl dh dl sp dp ty co : Int) (sz dz : Addr) (iif oif : ByteArray) (w : World)
    (h4 : w.cell? ⟨rb, 4, none⟩ = some inV) (h5 : w.cell? ⟨rb, 5, none⟩ = some outV) (h6 : w.cell? ⟨rb, 6, none⟩ = some srcV) (h7 : w.cell? ⟨rb, 7, none⟩ = some destV)
    (K1 : ∀ W, Below w.heap.size w W → Calls Tryd.prog 30 #[inV, .agg (sideV (path iif oif == 2) iif sh sl sz)] W fun e W' => e = .returned (.bool false) ∧ Below W.heap.size W W') :
    Calls Tryd.prog 22 #[.pointer (some ⟨rb, 0, none⟩), .agg (pkt proto sh sl sz dh dl dz sp dp ty co iif oif)] w fun e w' => e = .returned (.bool false) ∧ Below w.heap.size w w' := by
  obtain ⟨ia, il, ic, rfl⟩ := hin
  obtain ⟨oa, ol, oc, rfl⟩ := hou
  obtain ⟨sa, sll, sc, rfl⟩ := hsr
  obtain ⟨da, dll, dc, rfl⟩ := hde
  have HK4 := hid h4
  have HK5 := hid h5
  have HK6 := hid h6
  have HK7 := hid h7
  have HH1 := hid K1
  clear h4 h5 h6 h7 K1
  have hrow := hid (heap_alloc_new w (.cells (pkt proto sh sl sz dh dl dz sp dp ty co iif oif) 35))
  go_enter Tryd.func22, Tryd.ntmps22
  go_wp2_with (first
    | (refine wpList_load_row rfl 35 (.tmp 3) rfl w.heap.size rfl 35 (pkt proto sh sl sz dh dl dz sp dp ty co iif oif) (0, 0) _ hrow.out Tryd.underlying35 rfl size35 ?_)
    | (go_at_call 29; refine (path_any proto sh sl dh dl sp dp ty co sz dz iif oif _).mono ?_; rintro e w2 ⟨rfl, hb2⟩; have HB2 := hid hb2; have hsz2 : w.heap.size + 1 ≤ w2.heap.size := (by simpa using hb2.size); have hsz3 : w.heap.size < w2.heap.size := hsz2; have hp := (hb2.block w.heap.size (by simp)).trans hrow.out; have q11 := cell_of_row w2 w.heap.size 11 _ 35 (0, 0) hp; have q12 := cell_of_row w2 w.heap.size 12 _ 35 (0, 0) hp; have q1 := cell_of_row w2 w.heap.size 1 _ 35 (0, 0) hp; have q2 := cell_of_row w2 w.heap.size 2 _ 35 (0, 0) hp; have q3 := cell_of_row w2 w.heap.size 3 _ 35 (0, 0) hp; have q4 := cell_of_row w2 w.heap.size 4 _ 35 (0, 0) hp; have q5 := cell_of_row w2 w.heap.size 5 _ 35 (0, 0) hp; have q6 := cell_of_row w2 w.heap.size 6 _ 35 (0, 0) hp; have HP2 := hid hp; clear hp hb2; simp only [pkt, List.getElem?_toArray, List.getElem?_cons_zero, List.getElem?_cons_succ] at q1 q2 q3 q4 q5 q6 q11 q12))
  have HM0 : MatIn ((w2.alloc (.cells #[.bool (path iif oif == 2), .string iif, .int .u64 sh, .int .u64 sl, .pointer (some sz)] 82)).alloc (.cells #[.bool (path iif oif == 0), .string oif, .int .u64 dh, .int .u64 dl, .pointer (some dz)] 82)) rb w2.heap.size (w2.heap.size + 1) w.heap.size (.slice ia il ic) (.slice oa ol oc) (.slice sa sll sc) (.slice da dll dc) (sideV (path iif oif == 2) iif sh sl sz) (sideV (path iif oif == 0) oif dh dl dz) (pkt proto sh sl sz dh dl dz sp dp ty co iif oif) := mat_new HB2.out HP2.out HK4.out HK5.out HK6.out HK7.out
  have HBX : Below w.heap.size w ((w2.alloc (.cells #[.bool (path iif oif == 2), .string iif, .int .u64 sh, .int .u64 sl, .pointer (some sz)] 82)).alloc (.cells #[.bool (path iif oif == 0), .string oif, .int .u64 dh, .int .u64 dl, .pointer (some dz)] 82)) := (((Below.refl _ _).alloc (Nat.le_refl _) _).trans (HB2.out.mono (by simp))).alloc (by omega) _ |>.alloc (by simp; omega) _
  clear q1 q2 q3 q4 q5 q6 q11 q12 HB2 HP2 HK4 HK5 HK6 HK7 hrow
  generalize ((w2.alloc (.cells #[.bool (path iif oif == 2), .string iif, .int .u64 sh, .int .u64 sl, .pointer (some sz)] 82)).alloc (.cells #[.bool (path iif oif == 0), .string oif, .int .u64 dh, .int .u64 dl, .pointer (some dz)] 82)) = wx at HM0 HBX ⊢
  have HM := hid (HM0.below (Below.refl _ _).drew)
  have hbw : Below w.heap.size w wx.drew := HBX.drew
  have hsz : w.heap.size ≤ wx.drew.heap.size := hbw.size
  clear HM0 HBX
  refine wp_region_held_drew (S := fun W => Below wx.drew.heap.size wx.drew W) (by kernel_rfl) (Below.refl _ _) (fun hHeld => ?_)
  refine wpAnyH_take (i := 0) (v := ?_) rfl (by kernel_rfl) (by kernel_rfl) (by kernel_rfl) (fun _ _ _ h => h) (Or.inl ⟨by kernel_rfl, ?_⟩) (by assumption) ?_
  rotate_left
  · intro w hSw; go_simp; with_reducible rfl
  try simp (maxSteps := 2000000) only [Act.put, List.getElem_toArray, List.getElem_cons_succ, List.getElem_cons_zero, List.setIfInBounds_toArray, List.set_cons_zero, List.set_cons_succ]
  refine wpAnyH_take (i := 1) (v := ?_) rfl (by kernel_rfl) (by kernel_rfl) (by kernel_rfl) (fun _ _ _ h => h) (Or.inl ⟨by kernel_rfl, ?_⟩) (by assumption) ?_
  rotate_left
  · intro w hSw; go_simp; with_reducible rfl
  try simp (maxSteps := 2000000) only [Act.put, List.getElem_toArray, List.getElem_cons_succ, List.getElem_cons_zero, List.setIfInBounds_toArray, List.set_cons_zero, List.set_cons_succ]
  refine wpAnyH_take (i := 2) (v := ?_) rfl (by kernel_rfl) (by kernel_rfl) (by kernel_rfl) (fun _ _ _ h => h) (Or.inl ⟨by kernel_rfl, ?_⟩) (by assumption) ?_
  rotate_left
  · intro w hSw; go_simp; with_reducible rfl
  try simp (maxSteps := 2000000) only [Act.put, List.getElem_toArray, List.getElem_cons_succ, List.getElem_cons_zero, List.setIfInBounds_toArray, List.set_cons_zero, List.set_cons_succ]
  refine wpAnyH_take (i := 3) (v := ?_) rfl (by kernel_rfl) (by kernel_rfl) (by kernel_rfl) (fun _ _ _ h => h) (Or.inl ⟨by kernel_rfl, ?_⟩) (by assumption) ?_
  rotate_left
  · intro w hSw; have hcc := (HM.out.below hSw).i4; go_simp; with_reducible rfl
  try simp (maxSteps := 2000000) only [Act.put, List.getElem_toArray, List.getElem_cons_succ, List.getElem_cons_zero, List.setIfInBounds_toArray, List.set_cons_zero, List.set_cons_succ]
  refine wpAnyH_take (i := 4) (v := _) rfl (by kernel_rfl) (by kernel_rfl) (by kernel_rfl) (fun _ _ _ h => h) (yieldsIf_load_mid (by kernel_rfl) _ _ rfl _ _ rfl (sideV (path iif oif == 2) iif sh sl sz).toList _ (fun w h => range_row (o := 0) (n := 5) (HM.out.below h).f rfl) Tryd.underlying82 rfl size82) (by assumption) ?_
  try simp (maxSteps := 2000000) only [Act.put, List.getElem_toArray, List.getElem_cons_succ, List.getElem_cons_zero, List.setIfInBounds_toArray, List.set_cons_zero, List.set_cons_succ]
  refine wpAnyH_ready (rs := [5]) (by kernel_rfl) (by simp) ?_
  refine AllReadyH.cons rfl ?_ AllReadyH.nil
  intro K hK
  rw [if_pos (by kernel_rfl)]
  go_simp
  refine (HH1.out _ (hbw.trans (hHeld.mono hsz))).mono ?_
  rintro e w5 ⟨rfl, hb5⟩
  go_wp2_with fail
  refine hK.out _ _ (hHeld.trans (hb5.mono hHeld.size)) (fun hHeld => ?_)
  clear hK K
  try simp (maxSteps := 2000000) only [Act.put, List.getElem_toArray, List.getElem_cons_succ, List.getElem_cons_zero, List.setIfInBounds_toArray, List.set_cons_zero, List.set_cons_succ]
  refine wpAnyH_take (i := 6) (v := ?_) rfl (by kernel_rfl) (by kernel_rfl) (by kernel_rfl) (fun _ _ _ h => h) (Or.inl ⟨by kernel_rfl, ?_⟩) (by assumption) ?_
  rotate_left
  · intro w hSw; go_simp; with_reducible rfl
  try simp (maxSteps := 2000000) only [Act.put, List.getElem_toArray, List.getElem_cons_succ, List.getElem_cons_zero, List.setIfInBounds_toArray, List.set_cons_zero, List.set_cons_succ]
  refine wpAnyH_take (i := 7) (v := undef) rfl (by kernel_rfl) (by kernel_rfl) (by kernel_rfl) (fun _ _ _ h => h) (Or.inr ⟨by kernel_rfl, rfl⟩) (by assumption) ?_
  try simp (maxSteps := 2000000) only [Act.put, List.getElem_toArray, List.getElem_cons_succ, List.getElem_cons_zero, List.setIfInBounds_toArray, List.set_cons_zero, List.set_cons_succ]
  refine wpAnyH_take (i := 8) (v := undef) rfl (by kernel_rfl) (by kernel_rfl) (by kernel_rfl) (fun _ _ _ h => h) (Or.inr ⟨by kernel_rfl, rfl⟩) (by assumption) ?_
  try simp (maxSteps := 2000000) only [Act.put, List.getElem_toArray, List.getElem_cons_succ, List.getElem_cons_zero, List.setIfInBounds_toArray, List.set_cons_zero, List.set_cons_succ]
  refine wpAnyH_take (i := 9) (v := undef) rfl (by kernel_rfl) (by kernel_rfl) (by kernel_rfl) (fun _ _ _ h => h) (Or.inr ⟨by kernel_rfl, rfl⟩) (by assumption) ?_
  try simp (maxSteps := 2000000) only [Act.put, List.getElem_toArray, List.getElem_cons_succ, List.getElem_cons_zero, List.setIfInBounds_toArray, List.set_cons_zero, List.set_cons_succ]
  refine wpAnyH_take (i := 10) (v := undef) rfl (by kernel_rfl) (by kernel_rfl) (by kernel_rfl) (fun _ _ _ h => h) (Or.inr ⟨by kernel_rfl, rfl⟩) (by assumption) ?_
  try simp (maxSteps := 2000000) only [Act.put, List.getElem_toArray, List.getElem_cons_succ, List.getElem_cons_zero, List.setIfInBounds_toArray, List.set_cons_zero, List.set_cons_succ]
  refine wpAnyH_take (i := 11) (v := undef) rfl (by kernel_rfl) (by kernel_rfl) (by kernel_rfl) (fun _ _ _ h => h) (Or.inr ⟨by kernel_rfl, rfl⟩) (by assumption) ?_
  try simp (maxSteps := 2000000) only [Act.put, List.getElem_toArray, List.getElem_cons_succ, List.getElem_cons_zero, List.setIfInBounds_toArray, List.set_cons_zero, List.set_cons_succ]
  refine wpAnyH_take (i := 12) (v := undef) rfl (by kernel_rfl) (by kernel_rfl) (by kernel_rfl) (fun _ _ _ h => h) (Or.inr ⟨by kernel_rfl, rfl⟩) (by assumption) ?_
  try simp (maxSteps := 2000000) only [Act.put, List.getElem_toArray, List.getElem_cons_succ, List.getElem_cons_zero, List.setIfInBounds_toArray, List.set_cons_zero, List.set_cons_succ]
  refine wpAnyH_take (i := 13) (v := ?_) rfl (by kernel_rfl) (by kernel_rfl) (by kernel_rfl) (fun _ _ _ h => h) (Or.inl ⟨by kernel_rfl, ?_⟩) (by assumption) ?_
  rotate_left
  · intro w hSw; go_simp; with_reducible rfl
  try simp (maxSteps := 2000000) only [Act.put, List.getElem_toArray, List.getElem_cons_succ, List.getElem_cons_zero, List.setIfInBounds_toArray, List.set_cons_zero, List.set_cons_succ]
  refine wpAnyH_take (i := 14) (v := ?_) rfl (by kernel_rfl) (by kernel_rfl) (by kernel_rfl) (fun _ _ _ h => h) (Or.inl ⟨by kernel_rfl, ?_⟩) (by assumption) ?_
  rotate_left
  · intro w hSw; go_simp; with_reducible rfl
  try simp (maxSteps := 2000000) only [Act.put, List.getElem_toArray, List.getElem_cons_succ, List.getElem_cons_zero, List.setIfInBounds_toArray, List.set_cons_zero, List.set_cons_succ]
  refine wpAnyH_take (i := 15) (v := undef) rfl (by kernel_rfl) (by kernel_rfl) (by kernel_rfl) (fun _ _ _ h => h) (Or.inr ⟨by kernel_rfl, rfl⟩) (by assumption) ?_
  try simp (maxSteps := 2000000) only [Act.put, List.getElem_toArray, List.getElem_cons_succ, List.getElem_cons_zero, List.setIfInBounds_toArray, List.set_cons_zero, List.set_cons_succ]
  refine wpAnyH_take (i := 16) (v := undef) rfl (by kernel_rfl) (by kernel_rfl) (by kernel_rfl) (fun _ _ _ h => h) (Or.inr ⟨by kernel_rfl, rfl⟩) (by assumption) ?_
  try simp (maxSteps := 2000000) only [Act.put, List.getElem_toArray, List.getElem_cons_succ, List.getElem_cons_zero, List.setIfInBounds_toArray, List.set_cons_zero, List.set_cons_succ]
  refine wpAnyH_take (i := 17) (v := undef) rfl (by kernel_rfl) (by kernel_rfl) (by kernel_rfl) (fun _ _ _ h => h) (Or.inr ⟨by kernel_rfl, rfl⟩) (by assumption) ?_
  try simp (maxSteps := 2000000) only [Act.put, List.getElem_toArray, List.getElem_cons_succ, List.getElem_cons_zero, List.setIfInBounds_toArray, List.set_cons_zero, List.set_cons_succ]
  refine wpAnyH_take (i := 18) (v := undef) rfl (by kernel_rfl) (by kernel_rfl) (by kernel_rfl) (fun _ _ _ h => h) (Or.inr ⟨by kernel_rfl, rfl⟩) (by assumption) ?_
  try simp (maxSteps := 2000000) only [Act.put, List.getElem_toArray, List.getElem_cons_succ, List.getElem_cons_zero, List.setIfInBounds_toArray, List.set_cons_zero, List.set_cons_succ]
  refine wpAnyH_take (i := 19) (v := undef) rfl (by kernel_rfl) (by kernel_rfl) (by kernel_rfl) (fun _ _ _ h => h) (Or.inr ⟨by kernel_rfl, rfl⟩) (by assumption) ?_
  try simp (maxSteps := 2000000) only [Act.put, List.getElem_toArray, List.getElem_cons_succ, List.getElem_cons_zero, List.setIfInBounds_toArray, List.set_cons_zero, List.set_cons_succ]
  refine wpAnyH_take (i := 20) (v := undef) rfl (by kernel_rfl) (by kernel_rfl) (by kernel_rfl) (fun _ _ _ h => h) (Or.inr ⟨by kernel_rfl, rfl⟩) (by assumption) ?_
  try simp (maxSteps := 2000000) only [Act.put, List.getElem_toArray, List.getElem_cons_succ, List.getElem_cons_zero, List.setIfInBounds_toArray, List.set_cons_zero, List.set_cons_succ]
  refine wpAnyH_take (i := 21) (v := undef) rfl (by kernel_rfl) (by kernel_rfl) (by kernel_rfl) (fun _ _ _ h => h) (Or.inr ⟨by kernel_rfl, rfl⟩) (by assumption) ?_
  try simp (maxSteps := 2000000) only [Act.put, List.getElem_toArray, List.getElem_cons_succ, List.getElem_cons_zero, List.setIfInBounds_toArray, List.set_cons_zero, List.set_cons_succ]
  refine wpAnyH_take (i := 22) (v := ?_) rfl (by kernel_rfl) (by kernel_rfl) (by kernel_rfl) (fun _ _ _ h => h) (Or.inl ⟨by kernel_rfl, ?_⟩) (by assumption) ?_
  rotate_left
  · intro w hSw; go_simp; with_reducible rfl
  try simp (maxSteps := 2000000) only [Act.put, List.getElem_toArray, List.getElem_cons_succ, List.getElem_cons_zero, List.setIfInBounds_toArray, List.set_cons_zero, List.set_cons_succ]
  refine wpAnyH_take (i := 23) (v := ?_) rfl (by kernel_rfl) (by kernel_rfl) (by kernel_rfl) (fun _ _ _ h => h) (Or.inl ⟨by kernel_rfl, ?_⟩) (by assumption) ?_
  rotate_left
  · intro w hSw; go_simp; with_reducible rfl
  try simp (maxSteps := 2000000) only [Act.put, List.getElem_toArray, List.getElem_cons_succ, List.getElem_cons_zero, List.setIfInBounds_toArray, List.set_cons_zero, List.set_cons_succ]
  refine wpAnyH_take (i := 24) (v := undef) rfl (by kernel_rfl) (by kernel_rfl) (by kernel_rfl) (fun _ _ _ h => h) (Or.inr ⟨by kernel_rfl, rfl⟩) (by assumption) ?_
  try simp (maxSteps := 2000000) only [Act.put, List.getElem_toArray, List.getElem_cons_succ, List.getElem_cons_zero, List.setIfInBounds_toArray, List.set_cons_zero, List.set_cons_succ]
  refine wpAnyH_take (i := 25) (v := undef) rfl (by kernel_rfl) (by kernel_rfl) (by kernel_rfl) (fun _ _ _ h => h) (Or.inr ⟨by kernel_rfl, rfl⟩) (by assumption) ?_
  try simp (maxSteps := 2000000) only [Act.put, List.getElem_toArray, List.getElem_cons_succ, List.getElem_cons_zero, List.setIfInBounds_toArray, List.set_cons_zero, List.set_cons_succ]
  refine wpAnyH_take (i := 26) (v := undef) rfl (by kernel_rfl) (by kernel_rfl) (by kernel_rfl) (fun _ _ _ h => h) (Or.inr ⟨by kernel_rfl, rfl⟩) (by assumption) ?_
  try simp (maxSteps := 2000000) only [Act.put, List.getElem_toArray, List.getElem_cons_succ, List.getElem_cons_zero, List.setIfInBounds_toArray, List.set_cons_zero, List.set_cons_succ]
  refine wpAnyH_take (i := 27) (v := undef) rfl (by kernel_rfl) (by kernel_rfl) (by kernel_rfl) (fun _ _ _ h => h) (Or.inr ⟨by kernel_rfl, rfl⟩) (by assumption) ?_
  try simp (maxSteps := 2000000) only [Act.put, List.getElem_toArray, List.getElem_cons_succ, List.getElem_cons_zero, List.setIfInBounds_toArray, List.set_cons_zero, List.set_cons_succ]
  refine wpAnyH_take (i := 28) (v := undef) rfl (by kernel_rfl) (by kernel_rfl) (by kernel_rfl) (fun _ _ _ h => h) (Or.inr ⟨by kernel_rfl, rfl⟩) (by assumption) ?_
  try simp (maxSteps := 2000000) only [Act.put, List.getElem_toArray, List.getElem_cons_succ, List.getElem_cons_zero, List.setIfInBounds_toArray, List.set_cons_zero, List.set_cons_succ]
  refine wpAnyH_take (i := 29) (v := undef) rfl (by kernel_rfl) (by kernel_rfl) (by kernel_rfl) (fun _ _ _ h => h) (Or.inr ⟨by kernel_rfl, rfl⟩) (by assumption) ?_
  try simp (maxSteps := 2000000) only [Act.put, List.getElem_toArray, List.getElem_cons_succ, List.getElem_cons_zero, List.setIfInBounds_toArray, List.set_cons_zero, List.set_cons_succ]
  refine wpAnyH_take (i := 30) (v := undef) rfl (by kernel_rfl) (by kernel_rfl) (by kernel_rfl) (fun _ _ _ h => h) (Or.inr ⟨by kernel_rfl, rfl⟩) (by assumption) ?_
  try simp (maxSteps := 2000000) only [Act.put, List.getElem_toArray, List.getElem_cons_succ, List.getElem_cons_zero, List.setIfInBounds_toArray, List.set_cons_zero, List.set_cons_succ]
  refine wpAnyH_take (i := 31) (v := ?_) rfl (by kernel_rfl) (by kernel_rfl) (by kernel_rfl) (fun _ _ _ h => h) (Or.inl ⟨by kernel_rfl, ?_⟩) (by assumption) ?_
  rotate_left
  · intro w hSw; go_simp; with_reducible rfl
  try simp (maxSteps := 2000000) only [Act.put, List.getElem_toArray, List.getElem_cons_succ, List.getElem_cons_zero, List.setIfInBounds_toArray, List.set_cons_zero, List.set_cons_succ]
  refine wpAnyH_take (i := 32) (v := ?_) rfl (by kernel_rfl) (by kernel_rfl) (by kernel_rfl) (fun _ _ _ h => h) (Or.inl ⟨by kernel_rfl, ?_⟩) (by assumption) ?_
  rotate_left
  · intro w hSw; go_simp; with_reducible rfl
  try simp (maxSteps := 2000000) only [Act.put, List.getElem_toArray, List.getElem_cons_succ, List.getElem_cons_zero, List.setIfInBounds_toArray, List.set_cons_zero, List.set_cons_succ]
  refine wpAnyH_take (i := 33) (v := undef) rfl (by kernel_rfl) (by kernel_rfl) (by kernel_rfl) (fun _ _ _ h => h) (Or.inr ⟨by kernel_rfl, rfl⟩) (by assumption) ?_
  try simp (maxSteps := 2000000) only [Act.put, List.getElem_toArray, List.getElem_cons_succ, List.getElem_cons_zero, List.setIfInBounds_toArray, List.set_cons_zero, List.set_cons_succ]
  refine wpAnyH_take (i := 34) (v := undef) rfl (by kernel_rfl) (by kernel_rfl) (by kernel_rfl) (fun _ _ _ h => h) (Or.inr ⟨by kernel_rfl, rfl⟩) (by assumption) ?_
  try simp (maxSteps := 2000000) only [Act.put, List.getElem_toArray, List.getElem_cons_succ, List.getElem_cons_zero, List.setIfInBounds_toArray, List.set_cons_zero, List.set_cons_succ]
  refine wpAnyH_take (i := 35) (v := undef) rfl (by kernel_rfl) (by kernel_rfl) (by kernel_rfl) (fun _ _ _ h => h) (Or.inr ⟨by kernel_rfl, rfl⟩) (by assumption) ?_
  try simp (maxSteps := 2000000) only [Act.put, List.getElem_toArray, List.getElem_cons_succ, List.getElem_cons_zero, List.setIfInBounds_toArray, List.set_cons_zero, List.set_cons_succ]
  refine wpAnyH_take (i := 36) (v := ?_) rfl (by kernel_rfl) (by kernel_rfl) (by kernel_rfl) (fun _ _ _ h => h) (Or.inl ⟨by kernel_rfl, ?_⟩) (by assumption) ?_
  rotate_left
  · intro w hSw; go_simp; with_reducible rfl
  try simp (maxSteps := 2000000) only [Act.put, List.getElem_toArray, List.getElem_cons_succ, List.getElem_cons_zero, List.setIfInBounds_toArray, List.set_cons_zero, List.set_cons_succ]
  refine wpAnyH_take (i := 37) (v := ?_) rfl (by kernel_rfl) (by kernel_rfl) (by kernel_rfl) (fun _ _ _ h => h) (Or.inl ⟨by kernel_rfl, ?_⟩) (by assumption) ?_
  rotate_left
  · intro w hSw; go_simp; with_reducible rfl
  try simp (maxSteps := 2000000) only [Act.put, List.getElem_toArray, List.getElem_cons_succ, List.getElem_cons_zero, List.setIfInBounds_toArray, List.set_cons_zero, List.set_cons_succ]
  refine wpAnyH_done (by kernel_rfl) ?_ _
  go_wp2
  go_ret
  exact ⟨rfl, hbw.trans (hHeld.mono hsz)⟩

set_option maxRecDepth 100000 in
set_option maxHeartbeats 8000000 in
theorem matches_1 (rb : Nat) (inV outV srcV destV : Value) (hin : ∃ a n c, inV = .slice a n c) (hou : ∃ a n c, outV = .slice a n c) (hsr : ∃ a n c, srcV = .slice a n c) (hde : ∃ a n c, destV = .slice a n c) (proto sh sl dh dl sp dp ty co : Int) (sz dz : Addr) (iif oif : ByteArray) (w : World)
    (h4 : w.cell? ⟨rb, 4, none⟩ = some inV) (h5 : w.cell? ⟨rb, 5, none⟩ = some outV) (h6 : w.cell? ⟨rb, 6, none⟩ = some srcV) (h7 : w.cell? ⟨rb, 7, none⟩ = some destV)
    (K1 : ∀ W, Below w.heap.size w W → Calls Tryd.prog 30 #[inV, .agg (sideV (path iif oif == 2) iif sh sl sz)] W fun e W' => e = .returned (.bool true) ∧ Below W.heap.size W W') (K2 : ∀ W, Below w.heap.size w W → Calls Tryd.prog 30 #[outV, .agg (sideV (path iif oif == 0) oif dh dl dz)] W fun e W' => e = .returned (.bool false) ∧ Below W.heap.size W W') :
    Calls Tryd.prog 22 #[.pointer (some ⟨rb, 0, none⟩), .agg (pkt proto sh sl sz dh dl dz sp dp ty co iif oif)] w fun e w' => e = .returned (.bool false) ∧ Below w.heap.size w w' := by
  obtain ⟨ia, il, ic, rfl⟩ := hin
  obtain ⟨oa, ol, oc, rfl⟩ := hou
  obtain ⟨sa, sll, sc, rfl⟩ := hsr
  obtain ⟨da, dll, dc, rfl⟩ := hde
  have HK4 := hid h4
  have HK5 := hid h5
  have HK6 := hid h6
  have HK7 := hid h7
  have HH1 := hid K1
  have HH2 := hid K2
  clear h4 h5 h6 h7 K1 K2
  have hrow := hid (heap_alloc_new w (.cells (pkt proto sh sl sz dh dl dz sp dp ty co iif oif) 35))
  go_enter Tryd.func22, Tryd.ntmps22
  go_wp2_with (first
    | (refine wpList_load_row rfl 35 (.tmp 3) rfl w.heap.size rfl 35 (pkt proto sh sl sz dh dl dz sp dp ty co iif oif) (0, 0) _ hrow.out Tryd.underlying35 rfl size35 ?_)
    | (go_at_call 29; refine (path_any proto sh sl dh dl sp dp ty co sz dz iif oif _).mono ?_; rintro e w2 ⟨rfl, hb2⟩; have HB2 := hid hb2; have hsz2 : w.heap.size + 1 ≤ w2.heap.size := (by simpa using hb2.size); have hsz3 : w.heap.size < w2.heap.size := hsz2; have hp := (hb2.block w.heap.size (by simp)).trans hrow.out; have q11 := cell_of_row w2 w.heap.size 11 _ 35 (0, 0) hp; have q12 := cell_of_row w2 w.heap.size 12 _ 35 (0, 0) hp; have q1 := cell_of_row w2 w.heap.size 1 _ 35 (0, 0) hp; have q2 := cell_of_row w2 w.heap.size 2 _ 35 (0, 0) hp; have q3 := cell_of_row w2 w.heap.size 3 _ 35 (0, 0) hp; have q4 := cell_of_row w2 w.heap.size 4 _ 35 (0, 0) hp; have q5 := cell_of_row w2 w.heap.size 5 _ 35 (0, 0) hp; have q6 := cell_of_row w2 w.heap.size 6 _ 35 (0, 0) hp; have HP2 := hid hp; clear hp hb2; simp only [pkt, List.getElem?_toArray, List.getElem?_cons_zero, List.getElem?_cons_succ] at q1 q2 q3 q4 q5 q6 q11 q12))
  have HM0 : MatIn ((w2.alloc (.cells #[.bool (path iif oif == 2), .string iif, .int .u64 sh, .int .u64 sl, .pointer (some sz)] 82)).alloc (.cells #[.bool (path iif oif == 0), .string oif, .int .u64 dh, .int .u64 dl, .pointer (some dz)] 82)) rb w2.heap.size (w2.heap.size + 1) w.heap.size (.slice ia il ic) (.slice oa ol oc) (.slice sa sll sc) (.slice da dll dc) (sideV (path iif oif == 2) iif sh sl sz) (sideV (path iif oif == 0) oif dh dl dz) (pkt proto sh sl sz dh dl dz sp dp ty co iif oif) := mat_new HB2.out HP2.out HK4.out HK5.out HK6.out HK7.out
  have HBX : Below w.heap.size w ((w2.alloc (.cells #[.bool (path iif oif == 2), .string iif, .int .u64 sh, .int .u64 sl, .pointer (some sz)] 82)).alloc (.cells #[.bool (path iif oif == 0), .string oif, .int .u64 dh, .int .u64 dl, .pointer (some dz)] 82)) := (((Below.refl _ _).alloc (Nat.le_refl _) _).trans (HB2.out.mono (by simp))).alloc (by omega) _ |>.alloc (by simp; omega) _
  clear q1 q2 q3 q4 q5 q6 q11 q12 HB2 HP2 HK4 HK5 HK6 HK7 hrow
  generalize ((w2.alloc (.cells #[.bool (path iif oif == 2), .string iif, .int .u64 sh, .int .u64 sl, .pointer (some sz)] 82)).alloc (.cells #[.bool (path iif oif == 0), .string oif, .int .u64 dh, .int .u64 dl, .pointer (some dz)] 82)) = wx at HM0 HBX ⊢
  have HM := hid (HM0.below (Below.refl _ _).drew)
  have hbw : Below w.heap.size w wx.drew := HBX.drew
  have hsz : w.heap.size ≤ wx.drew.heap.size := hbw.size
  clear HM0 HBX
  refine wp_region_held_drew (S := fun W => Below wx.drew.heap.size wx.drew W) (by kernel_rfl) (Below.refl _ _) (fun hHeld => ?_)
  refine wpAnyH_take (i := 0) (v := ?_) rfl (by kernel_rfl) (by kernel_rfl) (by kernel_rfl) (fun _ _ _ h => h) (Or.inl ⟨by kernel_rfl, ?_⟩) (by assumption) ?_
  rotate_left
  · intro w hSw; go_simp; with_reducible rfl
  try simp (maxSteps := 2000000) only [Act.put, List.getElem_toArray, List.getElem_cons_succ, List.getElem_cons_zero, List.setIfInBounds_toArray, List.set_cons_zero, List.set_cons_succ]
  refine wpAnyH_take (i := 1) (v := ?_) rfl (by kernel_rfl) (by kernel_rfl) (by kernel_rfl) (fun _ _ _ h => h) (Or.inl ⟨by kernel_rfl, ?_⟩) (by assumption) ?_
  rotate_left
  · intro w hSw; go_simp; with_reducible rfl
  try simp (maxSteps := 2000000) only [Act.put, List.getElem_toArray, List.getElem_cons_succ, List.getElem_cons_zero, List.setIfInBounds_toArray, List.set_cons_zero, List.set_cons_succ]
  refine wpAnyH_take (i := 2) (v := ?_) rfl (by kernel_rfl) (by kernel_rfl) (by kernel_rfl) (fun _ _ _ h => h) (Or.inl ⟨by kernel_rfl, ?_⟩) (by assumption) ?_
  rotate_left
  · intro w hSw; go_simp; with_reducible rfl
  try simp (maxSteps := 2000000) only [Act.put, List.getElem_toArray, List.getElem_cons_succ, List.getElem_cons_zero, List.setIfInBounds_toArray, List.set_cons_zero, List.set_cons_succ]
  refine wpAnyH_take (i := 3) (v := ?_) rfl (by kernel_rfl) (by kernel_rfl) (by kernel_rfl) (fun _ _ _ h => h) (Or.inl ⟨by kernel_rfl, ?_⟩) (by assumption) ?_
  rotate_left
  · intro w hSw; have hcc := (HM.out.below hSw).i4; go_simp; with_reducible rfl
  try simp (maxSteps := 2000000) only [Act.put, List.getElem_toArray, List.getElem_cons_succ, List.getElem_cons_zero, List.setIfInBounds_toArray, List.set_cons_zero, List.set_cons_succ]
  refine wpAnyH_take (i := 4) (v := _) rfl (by kernel_rfl) (by kernel_rfl) (by kernel_rfl) (fun _ _ _ h => h) (yieldsIf_load_mid (by kernel_rfl) _ _ rfl _ _ rfl (sideV (path iif oif == 2) iif sh sl sz).toList _ (fun w h => range_row (o := 0) (n := 5) (HM.out.below h).f rfl) Tryd.underlying82 rfl size82) (by assumption) ?_
  try simp (maxSteps := 2000000) only [Act.put, List.getElem_toArray, List.getElem_cons_succ, List.getElem_cons_zero, List.setIfInBounds_toArray, List.set_cons_zero, List.set_cons_succ]
  refine wpAnyH_ready (rs := [5]) (by kernel_rfl) (by simp) ?_
  refine AllReadyH.cons rfl ?_ AllReadyH.nil
  intro K hK
  rw [if_pos (by kernel_rfl)]
  go_simp
  refine (HH1.out _ (hbw.trans (hHeld.mono hsz))).mono ?_
  rintro e w5 ⟨rfl, hb5⟩
  go_wp2_with fail
  refine hK.out _ _ (hHeld.trans (hb5.mono hHeld.size)) (fun hHeld => ?_)
  clear hK K
  try simp (maxSteps := 2000000) only [Act.put, List.getElem_toArray, List.getElem_cons_succ, List.getElem_cons_zero, List.setIfInBounds_toArray, List.set_cons_zero, List.set_cons_succ]
  refine wpAnyH_take (i := 6) (v := ?_) rfl (by kernel_rfl) (by kernel_rfl) (by kernel_rfl) (fun _ _ _ h => h) (Or.inl ⟨by kernel_rfl, ?_⟩) (by assumption) ?_
  rotate_left
  · intro w hSw; go_simp; with_reducible rfl
  try simp (maxSteps := 2000000) only [Act.put, List.getElem_toArray, List.getElem_cons_succ, List.getElem_cons_zero, List.setIfInBounds_toArray, List.set_cons_zero, List.set_cons_succ]
  refine wpAnyH_take (i := 7) (v := ?_) rfl (by kernel_rfl) (by kernel_rfl) (by kernel_rfl) (fun _ _ _ h => h) (Or.inl ⟨by kernel_rfl, ?_⟩) (by assumption) ?_
  rotate_left
  · intro w hSw; go_simp; with_reducible rfl
  try simp (maxSteps := 2000000) only [Act.put, List.getElem_toArray, List.getElem_cons_succ, List.getElem_cons_zero, List.setIfInBounds_toArray, List.set_cons_zero, List.set_cons_succ]
  refine wpAnyH_take (i := 8) (v := ?_) rfl (by kernel_rfl) (by kernel_rfl) (by kernel_rfl) (fun _ _ _ h => h) (Or.inl ⟨by kernel_rfl, ?_⟩) (by assumption) ?_
  rotate_left
  · intro w hSw; go_simp; with_reducible rfl
  try simp (maxSteps := 2000000) only [Act.put, List.getElem_toArray, List.getElem_cons_succ, List.getElem_cons_zero, List.setIfInBounds_toArray, List.set_cons_zero, List.set_cons_succ]
  refine wpAnyH_take (i := 9) (v := ?_) rfl (by kernel_rfl) (by kernel_rfl) (by kernel_rfl) (fun _ _ _ h => h) (Or.inl ⟨by kernel_rfl, ?_⟩) (by assumption) ?_
  rotate_left
  · intro w hSw; go_simp; with_reducible rfl
  try simp (maxSteps := 2000000) only [Act.put, List.getElem_toArray, List.getElem_cons_succ, List.getElem_cons_zero, List.setIfInBounds_toArray, List.set_cons_zero, List.set_cons_succ]
  refine wpAnyH_take (i := 10) (v := ?_) rfl (by kernel_rfl) (by kernel_rfl) (by kernel_rfl) (fun _ _ _ h => h) (Or.inl ⟨by kernel_rfl, ?_⟩) (by assumption) ?_
  rotate_left
  · intro w hSw; have hcc := (HM.out.below hSw).i5; go_simp; with_reducible rfl
  try simp (maxSteps := 2000000) only [Act.put, List.getElem_toArray, List.getElem_cons_succ, List.getElem_cons_zero, List.setIfInBounds_toArray, List.set_cons_zero, List.set_cons_succ]
  refine wpAnyH_take (i := 11) (v := _) rfl (by kernel_rfl) (by kernel_rfl) (by kernel_rfl) (fun _ _ _ h => h) (yieldsIf_load_mid (by kernel_rfl) _ _ rfl _ _ rfl (sideV (path iif oif == 0) oif dh dl dz).toList _ (fun w h => range_row (o := 0) (n := 5) (HM.out.below h).t rfl) Tryd.underlying82 rfl size82) (by assumption) ?_
  try simp (maxSteps := 2000000) only [Act.put, List.getElem_toArray, List.getElem_cons_succ, List.getElem_cons_zero, List.setIfInBounds_toArray, List.set_cons_zero, List.set_cons_succ]
  refine wpAnyH_ready (rs := [12]) (by kernel_rfl) (by simp) ?_
  refine AllReadyH.cons rfl ?_ AllReadyH.nil
  intro K hK
  rw [if_pos (by kernel_rfl)]
  go_simp
  refine (HH2.out _ (hbw.trans (hHeld.mono hsz))).mono ?_
  rintro e w6 ⟨rfl, hb6⟩
  go_wp2_with fail
  refine hK.out _ _ (hHeld.trans (hb6.mono hHeld.size)) (fun hHeld => ?_)
  clear hK K
  try simp (maxSteps := 2000000) only [Act.put, List.getElem_toArray, List.getElem_cons_succ, List.getElem_cons_zero, List.setIfInBounds_toArray, List.set_cons_zero, List.set_cons_succ]
  refine wpAnyH_take (i := 13) (v := ?_) rfl (by kernel_rfl) (by kernel_rfl) (by kernel_rfl) (fun _ _ _ h => h) (Or.inl ⟨by kernel_rfl, ?_⟩) (by assumption) ?_
  rotate_left
  · intro w hSw; go_simp; with_reducible rfl
  try simp (maxSteps := 2000000) only [Act.put, List.getElem_toArray, List.getElem_cons_succ, List.getElem_cons_zero, List.setIfInBounds_toArray, List.set_cons_zero, List.set_cons_succ]
  refine wpAnyH_take (i := 14) (v := ?_) rfl (by kernel_rfl) (by kernel_rfl) (by kernel_rfl) (fun _ _ _ h => h) (Or.inl ⟨by kernel_rfl, ?_⟩) (by assumption) ?_
  rotate_left
  · intro w hSw; go_simp; with_reducible rfl
  try simp (maxSteps := 2000000) only [Act.put, List.getElem_toArray, List.getElem_cons_succ, List.getElem_cons_zero, List.setIfInBounds_toArray, List.set_cons_zero, List.set_cons_succ]
  refine wpAnyH_take (i := 15) (v := undef) rfl (by kernel_rfl) (by kernel_rfl) (by kernel_rfl) (fun _ _ _ h => h) (Or.inr ⟨by kernel_rfl, rfl⟩) (by assumption) ?_
  try simp (maxSteps := 2000000) only [Act.put, List.getElem_toArray, List.getElem_cons_succ, List.getElem_cons_zero, List.setIfInBounds_toArray, List.set_cons_zero, List.set_cons_succ]
  refine wpAnyH_take (i := 16) (v := undef) rfl (by kernel_rfl) (by kernel_rfl) (by kernel_rfl) (fun _ _ _ h => h) (Or.inr ⟨by kernel_rfl, rfl⟩) (by assumption) ?_
  try simp (maxSteps := 2000000) only [Act.put, List.getElem_toArray, List.getElem_cons_succ, List.getElem_cons_zero, List.setIfInBounds_toArray, List.set_cons_zero, List.set_cons_succ]
  refine wpAnyH_take (i := 17) (v := undef) rfl (by kernel_rfl) (by kernel_rfl) (by kernel_rfl) (fun _ _ _ h => h) (Or.inr ⟨by kernel_rfl, rfl⟩) (by assumption) ?_
  try simp (maxSteps := 2000000) only [Act.put, List.getElem_toArray, List.getElem_cons_succ, List.getElem_cons_zero, List.setIfInBounds_toArray, List.set_cons_zero, List.set_cons_succ]
  refine wpAnyH_take (i := 18) (v := undef) rfl (by kernel_rfl) (by kernel_rfl) (by kernel_rfl) (fun _ _ _ h => h) (Or.inr ⟨by kernel_rfl, rfl⟩) (by assumption) ?_
  try simp (maxSteps := 2000000) only [Act.put, List.getElem_toArray, List.getElem_cons_succ, List.getElem_cons_zero, List.setIfInBounds_toArray, List.set_cons_zero, List.set_cons_succ]
  refine wpAnyH_take (i := 19) (v := undef) rfl (by kernel_rfl) (by kernel_rfl) (by kernel_rfl) (fun _ _ _ h => h) (Or.inr ⟨by kernel_rfl, rfl⟩) (by assumption) ?_
  try simp (maxSteps := 2000000) only [Act.put, List.getElem_toArray, List.getElem_cons_succ, List.getElem_cons_zero, List.setIfInBounds_toArray, List.set_cons_zero, List.set_cons_succ]
  refine wpAnyH_take (i := 20) (v := undef) rfl (by kernel_rfl) (by kernel_rfl) (by kernel_rfl) (fun _ _ _ h => h) (Or.inr ⟨by kernel_rfl, rfl⟩) (by assumption) ?_
  try simp (maxSteps := 2000000) only [Act.put, List.getElem_toArray, List.getElem_cons_succ, List.getElem_cons_zero, List.setIfInBounds_toArray, List.set_cons_zero, List.set_cons_succ]
  refine wpAnyH_take (i := 21) (v := undef) rfl (by kernel_rfl) (by kernel_rfl) (by kernel_rfl) (fun _ _ _ h => h) (Or.inr ⟨by kernel_rfl, rfl⟩) (by assumption) ?_
  try simp (maxSteps := 2000000) only [Act.put, List.getElem_toArray, List.getElem_cons_succ, List.getElem_cons_zero, List.setIfInBounds_toArray, List.set_cons_zero, List.set_cons_succ]
  refine wpAnyH_take (i := 22) (v := ?_) rfl (by kernel_rfl) (by kernel_rfl) (by kernel_rfl) (fun _ _ _ h => h) (Or.inl ⟨by kernel_rfl, ?_⟩) (by assumption) ?_
  rotate_left
  · intro w hSw; go_simp; with_reducible rfl
  try simp (maxSteps := 2000000) only [Act.put, List.getElem_toArray, List.getElem_cons_succ, List.getElem_cons_zero, List.setIfInBounds_toArray, List.set_cons_zero, List.set_cons_succ]
  refine wpAnyH_take (i := 23) (v := ?_) rfl (by kernel_rfl) (by kernel_rfl) (by kernel_rfl) (fun _ _ _ h => h) (Or.inl ⟨by kernel_rfl, ?_⟩) (by assumption) ?_
  rotate_left
  · intro w hSw; go_simp; with_reducible rfl
  try simp (maxSteps := 2000000) only [Act.put, List.getElem_toArray, List.getElem_cons_succ, List.getElem_cons_zero, List.setIfInBounds_toArray, List.set_cons_zero, List.set_cons_succ]
  refine wpAnyH_take (i := 24) (v := undef) rfl (by kernel_rfl) (by kernel_rfl) (by kernel_rfl) (fun _ _ _ h => h) (Or.inr ⟨by kernel_rfl, rfl⟩) (by assumption) ?_
  try simp (maxSteps := 2000000) only [Act.put, List.getElem_toArray, List.getElem_cons_succ, List.getElem_cons_zero, List.setIfInBounds_toArray, List.set_cons_zero, List.set_cons_succ]
  refine wpAnyH_take (i := 25) (v := undef) rfl (by kernel_rfl) (by kernel_rfl) (by kernel_rfl) (fun _ _ _ h => h) (Or.inr ⟨by kernel_rfl, rfl⟩) (by assumption) ?_
  try simp (maxSteps := 2000000) only [Act.put, List.getElem_toArray, List.getElem_cons_succ, List.getElem_cons_zero, List.setIfInBounds_toArray, List.set_cons_zero, List.set_cons_succ]
  refine wpAnyH_take (i := 26) (v := undef) rfl (by kernel_rfl) (by kernel_rfl) (by kernel_rfl) (fun _ _ _ h => h) (Or.inr ⟨by kernel_rfl, rfl⟩) (by assumption) ?_
  try simp (maxSteps := 2000000) only [Act.put, List.getElem_toArray, List.getElem_cons_succ, List.getElem_cons_zero, List.setIfInBounds_toArray, List.set_cons_zero, List.set_cons_succ]
  refine wpAnyH_take (i := 27) (v := undef) rfl (by kernel_rfl) (by kernel_rfl) (by kernel_rfl) (fun _ _ _ h => h) (Or.inr ⟨by kernel_rfl, rfl⟩) (by assumption) ?_
  try simp (maxSteps := 2000000) only [Act.put, List.getElem_toArray, List.getElem_cons_succ, List.getElem_cons_zero, List.setIfInBounds_toArray, List.set_cons_zero, List.set_cons_succ]
  refine wpAnyH_take (i := 28) (v := undef) rfl (by kernel_rfl) (by kernel_rfl) (by kernel_rfl) (fun _ _ _ h => h) (Or.inr ⟨by kernel_rfl, rfl⟩) (by assumption) ?_
  try simp (maxSteps := 2000000) only [Act.put, List.getElem_toArray, List.getElem_cons_succ, List.getElem_cons_zero, List.setIfInBounds_toArray, List.set_cons_zero, List.set_cons_succ]
  refine wpAnyH_take (i := 29) (v := undef) rfl (by kernel_rfl) (by kernel_rfl) (by kernel_rfl) (fun _ _ _ h => h) (Or.inr ⟨by kernel_rfl, rfl⟩) (by assumption) ?_
  try simp (maxSteps := 2000000) only [Act.put, List.getElem_toArray, List.getElem_cons_succ, List.getElem_cons_zero, List.setIfInBounds_toArray, List.set_cons_zero, List.set_cons_succ]
  refine wpAnyH_take (i := 30) (v := undef) rfl (by kernel_rfl) (by kernel_rfl) (by kernel_rfl) (fun _ _ _ h => h) (Or.inr ⟨by kernel_rfl, rfl⟩) (by assumption) ?_
  try simp (maxSteps := 2000000) only [Act.put, List.getElem_toArray, List.getElem_cons_succ, List.getElem_cons_zero, List.setIfInBounds_toArray, List.set_cons_zero, List.set_cons_succ]
  refine wpAnyH_take (i := 31) (v := ?_) rfl (by kernel_rfl) (by kernel_rfl) (by kernel_rfl) (fun _ _ _ h => h) (Or.inl ⟨by kernel_rfl, ?_⟩) (by assumption) ?_
  rotate_left
  · intro w hSw; go_simp; with_reducible rfl
  try simp (maxSteps := 2000000) only [Act.put, List.getElem_toArray, List.getElem_cons_succ, List.getElem_cons_zero, List.setIfInBounds_toArray, List.set_cons_zero, List.set_cons_succ]
  refine wpAnyH_take (i := 32) (v := ?_) rfl (by kernel_rfl) (by kernel_rfl) (by kernel_rfl) (fun _ _ _ h => h) (Or.inl ⟨by kernel_rfl, ?_⟩) (by assumption) ?_
  rotate_left
  · intro w hSw; go_simp; with_reducible rfl
  try simp (maxSteps := 2000000) only [Act.put, List.getElem_toArray, List.getElem_cons_succ, List.getElem_cons_zero, List.setIfInBounds_toArray, List.set_cons_zero, List.set_cons_succ]
  refine wpAnyH_take (i := 33) (v := undef) rfl (by kernel_rfl) (by kernel_rfl) (by kernel_rfl) (fun _ _ _ h => h) (Or.inr ⟨by kernel_rfl, rfl⟩) (by assumption) ?_
  try simp (maxSteps := 2000000) only [Act.put, List.getElem_toArray, List.getElem_cons_succ, List.getElem_cons_zero, List.setIfInBounds_toArray, List.set_cons_zero, List.set_cons_succ]
  refine wpAnyH_take (i := 34) (v := undef) rfl (by kernel_rfl) (by kernel_rfl) (by kernel_rfl) (fun _ _ _ h => h) (Or.inr ⟨by kernel_rfl, rfl⟩) (by assumption) ?_
  try simp (maxSteps := 2000000) only [Act.put, List.getElem_toArray, List.getElem_cons_succ, List.getElem_cons_zero, List.setIfInBounds_toArray, List.set_cons_zero, List.set_cons_succ]
  refine wpAnyH_take (i := 35) (v := undef) rfl (by kernel_rfl) (by kernel_rfl) (by kernel_rfl) (fun _ _ _ h => h) (Or.inr ⟨by kernel_rfl, rfl⟩) (by assumption) ?_
  try simp (maxSteps := 2000000) only [Act.put, List.getElem_toArray, List.getElem_cons_succ, List.getElem_cons_zero, List.setIfInBounds_toArray, List.set_cons_zero, List.set_cons_succ]
  refine wpAnyH_take (i := 36) (v := ?_) rfl (by kernel_rfl) (by kernel_rfl) (by kernel_rfl) (fun _ _ _ h => h) (Or.inl ⟨by kernel_rfl, ?_⟩) (by assumption) ?_
  rotate_left
  · intro w hSw; go_simp; with_reducible rfl
  try simp (maxSteps := 2000000) only [Act.put, List.getElem_toArray, List.getElem_cons_succ, List.getElem_cons_zero, List.setIfInBounds_toArray, List.set_cons_zero, List.set_cons_succ]
  refine wpAnyH_take (i := 37) (v := ?_) rfl (by kernel_rfl) (by kernel_rfl) (by kernel_rfl) (fun _ _ _ h => h) (Or.inl ⟨by kernel_rfl, ?_⟩) (by assumption) ?_
  rotate_left
  · intro w hSw; go_simp; with_reducible rfl
  try simp (maxSteps := 2000000) only [Act.put, List.getElem_toArray, List.getElem_cons_succ, List.getElem_cons_zero, List.setIfInBounds_toArray, List.set_cons_zero, List.set_cons_succ]
  refine wpAnyH_done (by kernel_rfl) ?_ _
  go_wp2
  go_ret
  exact ⟨rfl, hbw.trans (hHeld.mono hsz)⟩

set_option maxRecDepth 100000 in
set_option maxHeartbeats 8000000 in
theorem matches_2 (rb : Nat) (inV outV srcV destV : Value) (hin : ∃ a n c, inV = .slice a n c) (hou : ∃ a n c, outV = .slice a n c) (hsr : ∃ a n c, srcV = .slice a n c) (hde : ∃ a n c, destV = .slice a n c) (proto sh sl dh dl sp dp ty co : Int) (sz dz : Addr) (iif oif : ByteArray) (w : World)
    (h4 : w.cell? ⟨rb, 4, none⟩ = some inV) (h5 : w.cell? ⟨rb, 5, none⟩ = some outV) (h6 : w.cell? ⟨rb, 6, none⟩ = some srcV) (h7 : w.cell? ⟨rb, 7, none⟩ = some destV)
    (K1 : ∀ W, Below w.heap.size w W → Calls Tryd.prog 30 #[inV, .agg (sideV (path iif oif == 2) iif sh sl sz)] W fun e W' => e = .returned (.bool true) ∧ Below W.heap.size W W') (K2 : ∀ W, Below w.heap.size w W → Calls Tryd.prog 30 #[outV, .agg (sideV (path iif oif == 0) oif dh dl dz)] W fun e W' => e = .returned (.bool true) ∧ Below W.heap.size W W') (K3 : ∀ W, Below w.heap.size w W → Calls Tryd.prog 31 #[srcV, .agg #[.int .u64 sh, .int .u64 sl, .pointer (some sz)]] W fun e W' => e = .returned (.bool false) ∧ Below W.heap.size W W') :
    Calls Tryd.prog 22 #[.pointer (some ⟨rb, 0, none⟩), .agg (pkt proto sh sl sz dh dl dz sp dp ty co iif oif)] w fun e w' => e = .returned (.bool false) ∧ Below w.heap.size w w' := by
  obtain ⟨ia, il, ic, rfl⟩ := hin
  obtain ⟨oa, ol, oc, rfl⟩ := hou
  obtain ⟨sa, sll, sc, rfl⟩ := hsr
  obtain ⟨da, dll, dc, rfl⟩ := hde
  have HK4 := hid h4
  have HK5 := hid h5
  have HK6 := hid h6
  have HK7 := hid h7
  have HH1 := hid K1
  have HH2 := hid K2
  have HH3 := hid K3
  clear h4 h5 h6 h7 K1 K2 K3
  have hrow := hid (heap_alloc_new w (.cells (pkt proto sh sl sz dh dl dz sp dp ty co iif oif) 35))
  go_enter Tryd.func22, Tryd.ntmps22
  go_wp2_with (first
    | (refine wpList_load_row rfl 35 (.tmp 3) rfl w.heap.size rfl 35 (pkt proto sh sl sz dh dl dz sp dp ty co iif oif) (0, 0) _ hrow.out Tryd.underlying35 rfl size35 ?_)
    | (go_at_call 29; refine (path_any proto sh sl dh dl sp dp ty co sz dz iif oif _).mono ?_; rintro e w2 ⟨rfl, hb2⟩; have HB2 := hid hb2; have hsz2 : w.heap.size + 1 ≤ w2.heap.size := (by simpa using hb2.size); have hsz3 : w.heap.size < w2.heap.size := hsz2; have hp := (hb2.block w.heap.size (by simp)).trans hrow.out; have q11 := cell_of_row w2 w.heap.size 11 _ 35 (0, 0) hp; have q12 := cell_of_row w2 w.heap.size 12 _ 35 (0, 0) hp; have q1 := cell_of_row w2 w.heap.size 1 _ 35 (0, 0) hp; have q2 := cell_of_row w2 w.heap.size 2 _ 35 (0, 0) hp; have q3 := cell_of_row w2 w.heap.size 3 _ 35 (0, 0) hp; have q4 := cell_of_row w2 w.heap.size 4 _ 35 (0, 0) hp; have q5 := cell_of_row w2 w.heap.size 5 _ 35 (0, 0) hp; have q6 := cell_of_row w2 w.heap.size 6 _ 35 (0, 0) hp; have HP2 := hid hp; clear hp hb2; simp only [pkt, List.getElem?_toArray, List.getElem?_cons_zero, List.getElem?_cons_succ] at q1 q2 q3 q4 q5 q6 q11 q12))
  have HM0 : MatIn ((w2.alloc (.cells #[.bool (path iif oif == 2), .string iif, .int .u64 sh, .int .u64 sl, .pointer (some sz)] 82)).alloc (.cells #[.bool (path iif oif == 0), .string oif, .int .u64 dh, .int .u64 dl, .pointer (some dz)] 82)) rb w2.heap.size (w2.heap.size + 1) w.heap.size (.slice ia il ic) (.slice oa ol oc) (.slice sa sll sc) (.slice da dll dc) (sideV (path iif oif == 2) iif sh sl sz) (sideV (path iif oif == 0) oif dh dl dz) (pkt proto sh sl sz dh dl dz sp dp ty co iif oif) := mat_new HB2.out HP2.out HK4.out HK5.out HK6.out HK7.out
  have HBX : Below w.heap.size w ((w2.alloc (.cells #[.bool (path iif oif == 2), .string iif, .int .u64 sh, .int .u64 sl, .pointer (some sz)] 82)).alloc (.cells #[.bool (path iif oif == 0), .string oif, .int .u64 dh, .int .u64 dl, .pointer (some dz)] 82)) := (((Below.refl _ _).alloc (Nat.le_refl _) _).trans (HB2.out.mono (by simp))).alloc (by omega) _ |>.alloc (by simp; omega) _
  clear q1 q2 q3 q4 q5 q6 q11 q12 HB2 HP2 HK4 HK5 HK6 HK7 hrow
  generalize ((w2.alloc (.cells #[.bool (path iif oif == 2), .string iif, .int .u64 sh, .int .u64 sl, .pointer (some sz)] 82)).alloc (.cells #[.bool (path iif oif == 0), .string oif, .int .u64 dh, .int .u64 dl, .pointer (some dz)] 82)) = wx at HM0 HBX ⊢
  have HM := hid (HM0.below (Below.refl _ _).drew)
  have hbw : Below w.heap.size w wx.drew := HBX.drew
  have hsz : w.heap.size ≤ wx.drew.heap.size := hbw.size
  clear HM0 HBX
  refine wp_region_held_drew (S := fun W => Below wx.drew.heap.size wx.drew W) (by kernel_rfl) (Below.refl _ _) (fun hHeld => ?_)
  refine wpAnyH_take (i := 0) (v := ?_) rfl (by kernel_rfl) (by kernel_rfl) (by kernel_rfl) (fun _ _ _ h => h) (Or.inl ⟨by kernel_rfl, ?_⟩) (by assumption) ?_
  rotate_left
  · intro w hSw; go_simp; with_reducible rfl
  try simp (maxSteps := 2000000) only [Act.put, List.getElem_toArray, List.getElem_cons_succ, List.getElem_cons_zero, List.setIfInBounds_toArray, List.set_cons_zero, List.set_cons_succ]
  refine wpAnyH_take (i := 1) (v := ?_) rfl (by kernel_rfl) (by kernel_rfl) (by kernel_rfl) (fun _ _ _ h => h) (Or.inl ⟨by kernel_rfl, ?_⟩) (by assumption) ?_
  rotate_left
  · intro w hSw; go_simp; with_reducible rfl
  try simp (maxSteps := 2000000) only [Act.put, List.getElem_toArray, List.getElem_cons_succ, List.getElem_cons_zero, List.setIfInBounds_toArray, List.set_cons_zero, List.set_cons_succ]
  refine wpAnyH_take (i := 2) (v := ?_) rfl (by kernel_rfl) (by kernel_rfl) (by kernel_rfl) (fun _ _ _ h => h) (Or.inl ⟨by kernel_rfl, ?_⟩) (by assumption) ?_
  rotate_left
  · intro w hSw; go_simp; with_reducible rfl
  try simp (maxSteps := 2000000) only [Act.put, List.getElem_toArray, List.getElem_cons_succ, List.getElem_cons_zero, List.setIfInBounds_toArray, List.set_cons_zero, List.set_cons_succ]
  refine wpAnyH_take (i := 3) (v := ?_) rfl (by kernel_rfl) (by kernel_rfl) (by kernel_rfl) (fun _ _ _ h => h) (Or.inl ⟨by kernel_rfl, ?_⟩) (by assumption) ?_
  rotate_left
  · intro w hSw; have hcc := (HM.out.below hSw).i4; go_simp; with_reducible rfl
  try simp (maxSteps := 2000000) only [Act.put, List.getElem_toArray, List.getElem_cons_succ, List.getElem_cons_zero, List.setIfInBounds_toArray, List.set_cons_zero, List.set_cons_succ]
  refine wpAnyH_take (i := 4) (v := _) rfl (by kernel_rfl) (by kernel_rfl) (by kernel_rfl) (fun _ _ _ h => h) (yieldsIf_load_mid (by kernel_rfl) _ _ rfl _ _ rfl (sideV (path iif oif == 2) iif sh sl sz).toList _ (fun w h => range_row (o := 0) (n := 5) (HM.out.below h).f rfl) Tryd.underlying82 rfl size82) (by assumption) ?_
  try simp (maxSteps := 2000000) only [Act.put, List.getElem_toArray, List.getElem_cons_succ, List.getElem_cons_zero, List.setIfInBounds_toArray, List.set_cons_zero, List.set_cons_succ]
  refine wpAnyH_ready (rs := [5]) (by kernel_rfl) (by simp) ?_
  refine AllReadyH.cons rfl ?_ AllReadyH.nil
  intro K hK
  rw [if_pos (by kernel_rfl)]
  go_simp
  refine (HH1.out _ (hbw.trans (hHeld.mono hsz))).mono ?_
  rintro e w5 ⟨rfl, hb5⟩
  go_wp2_with fail
  refine hK.out _ _ (hHeld.trans (hb5.mono hHeld.size)) (fun hHeld => ?_)
  clear hK K
  try simp (maxSteps := 2000000) only [Act.put, List.getElem_toArray, List.getElem_cons_succ, List.getElem_cons_zero, List.setIfInBounds_toArray, List.set_cons_zero, List.set_cons_succ]
  refine wpAnyH_take (i := 6) (v := ?_) rfl (by kernel_rfl) (by kernel_rfl) (by kernel_rfl) (fun _ _ _ h => h) (Or.inl ⟨by kernel_rfl, ?_⟩) (by assumption) ?_
  rotate_left
  · intro w hSw; go_simp; with_reducible rfl
  try simp (maxSteps := 2000000) only [Act.put, List.getElem_toArray, List.getElem_cons_succ, List.getElem_cons_zero, List.setIfInBounds_toArray, List.set_cons_zero, List.set_cons_succ]
  refine wpAnyH_take (i := 7) (v := ?_) rfl (by kernel_rfl) (by kernel_rfl) (by kernel_rfl) (fun _ _ _ h => h) (Or.inl ⟨by kernel_rfl, ?_⟩) (by assumption) ?_
  rotate_left
  · intro w hSw; go_simp; with_reducible rfl
  try simp (maxSteps := 2000000) only [Act.put, List.getElem_toArray, List.getElem_cons_succ, List.getElem_cons_zero, List.setIfInBounds_toArray, List.set_cons_zero, List.set_cons_succ]
  refine wpAnyH_take (i := 8) (v := ?_) rfl (by kernel_rfl) (by kernel_rfl) (by kernel_rfl) (fun _ _ _ h => h) (Or.inl ⟨by kernel_rfl, ?_⟩) (by assumption) ?_
  rotate_left
  · intro w hSw; go_simp; with_reducible rfl
  try simp (maxSteps := 2000000) only [Act.put, List.getElem_toArray, List.getElem_cons_succ, List.getElem_cons_zero, List.setIfInBounds_toArray, List.set_cons_zero, List.set_cons_succ]
  refine wpAnyH_take (i := 9) (v := ?_) rfl (by kernel_rfl) (by kernel_rfl) (by kernel_rfl) (fun _ _ _ h => h) (Or.inl ⟨by kernel_rfl, ?_⟩) (by assumption) ?_
  rotate_left
  · intro w hSw; go_simp; with_reducible rfl
  try simp (maxSteps := 2000000) only [Act.put, List.getElem_toArray, List.getElem_cons_succ, List.getElem_cons_zero, List.setIfInBounds_toArray, List.set_cons_zero, List.set_cons_succ]
  refine wpAnyH_take (i := 10) (v := ?_) rfl (by kernel_rfl) (by kernel_rfl) (by kernel_rfl) (fun _ _ _ h => h) (Or.inl ⟨by kernel_rfl, ?_⟩) (by assumption) ?_
  rotate_left
  · intro w hSw; have hcc := (HM.out.below hSw).i5; go_simp; with_reducible rfl
  try simp (maxSteps := 2000000) only [Act.put, List.getElem_toArray, List.getElem_cons_succ, List.getElem_cons_zero, List.setIfInBounds_toArray, List.set_cons_zero, List.set_cons_succ]
  refine wpAnyH_take (i := 11) (v := _) rfl (by kernel_rfl) (by kernel_rfl) (by kernel_rfl) (fun _ _ _ h => h) (yieldsIf_load_mid (by kernel_rfl) _ _ rfl _ _ rfl (sideV (path iif oif == 0) oif dh dl dz).toList _ (fun w h => range_row (o := 0) (n := 5) (HM.out.below h).t rfl) Tryd.underlying82 rfl size82) (by assumption) ?_
  try simp (maxSteps := 2000000) only [Act.put, List.getElem_toArray, List.getElem_cons_succ, List.getElem_cons_zero, List.setIfInBounds_toArray, List.set_cons_zero, List.set_cons_succ]
  refine wpAnyH_ready (rs := [12]) (by kernel_rfl) (by simp) ?_
  refine AllReadyH.cons rfl ?_ AllReadyH.nil
  intro K hK
  rw [if_pos (by kernel_rfl)]
  go_simp
  refine (HH2.out _ (hbw.trans (hHeld.mono hsz))).mono ?_
  rintro e w6 ⟨rfl, hb6⟩
  go_wp2_with fail
  refine hK.out _ _ (hHeld.trans (hb6.mono hHeld.size)) (fun hHeld => ?_)
  clear hK K
  try simp (maxSteps := 2000000) only [Act.put, List.getElem_toArray, List.getElem_cons_succ, List.getElem_cons_zero, List.setIfInBounds_toArray, List.set_cons_zero, List.set_cons_succ]
  refine wpAnyH_take (i := 13) (v := ?_) rfl (by kernel_rfl) (by kernel_rfl) (by kernel_rfl) (fun _ _ _ h => h) (Or.inl ⟨by kernel_rfl, ?_⟩) (by assumption) ?_
  rotate_left
  · intro w hSw; go_simp; with_reducible rfl
  try simp (maxSteps := 2000000) only [Act.put, List.getElem_toArray, List.getElem_cons_succ, List.getElem_cons_zero, List.setIfInBounds_toArray, List.set_cons_zero, List.set_cons_succ]
  refine wpAnyH_take (i := 14) (v := ?_) rfl (by kernel_rfl) (by kernel_rfl) (by kernel_rfl) (fun _ _ _ h => h) (Or.inl ⟨by kernel_rfl, ?_⟩) (by assumption) ?_
  rotate_left
  · intro w hSw; go_simp; with_reducible rfl
  try simp (maxSteps := 2000000) only [Act.put, List.getElem_toArray, List.getElem_cons_succ, List.getElem_cons_zero, List.setIfInBounds_toArray, List.set_cons_zero, List.set_cons_succ]
  refine wpAnyH_take (i := 15) (v := ?_) rfl (by kernel_rfl) (by kernel_rfl) (by kernel_rfl) (fun _ _ _ h => h) (Or.inl ⟨by kernel_rfl, ?_⟩) (by assumption) ?_
  rotate_left
  · intro w hSw; go_simp; with_reducible rfl
  try simp (maxSteps := 2000000) only [Act.put, List.getElem_toArray, List.getElem_cons_succ, List.getElem_cons_zero, List.setIfInBounds_toArray, List.set_cons_zero, List.set_cons_succ]
  refine wpAnyH_take (i := 16) (v := ?_) rfl (by kernel_rfl) (by kernel_rfl) (by kernel_rfl) (fun _ _ _ h => h) (Or.inl ⟨by kernel_rfl, ?_⟩) (by assumption) ?_
  rotate_left
  · intro w hSw; go_simp; with_reducible rfl
  try simp (maxSteps := 2000000) only [Act.put, List.getElem_toArray, List.getElem_cons_succ, List.getElem_cons_zero, List.setIfInBounds_toArray, List.set_cons_zero, List.set_cons_succ]
  refine wpAnyH_take (i := 17) (v := ?_) rfl (by kernel_rfl) (by kernel_rfl) (by kernel_rfl) (fun _ _ _ h => h) (Or.inl ⟨by kernel_rfl, ?_⟩) (by assumption) ?_
  rotate_left
  · intro w hSw; go_simp; with_reducible rfl
  try simp (maxSteps := 2000000) only [Act.put, List.getElem_toArray, List.getElem_cons_succ, List.getElem_cons_zero, List.setIfInBounds_toArray, List.set_cons_zero, List.set_cons_succ]
  refine wpAnyH_take (i := 18) (v := ?_) rfl (by kernel_rfl) (by kernel_rfl) (by kernel_rfl) (fun _ _ _ h => h) (Or.inl ⟨by kernel_rfl, ?_⟩) (by assumption) ?_
  rotate_left
  · intro w hSw; have hcc := (HM.out.below hSw).i6; go_simp; with_reducible rfl
  try simp (maxSteps := 2000000) only [Act.put, List.getElem_toArray, List.getElem_cons_succ, List.getElem_cons_zero, List.setIfInBounds_toArray, List.set_cons_zero, List.set_cons_succ]
  refine wpAnyH_take (i := 19) (v := ?_) rfl (by kernel_rfl) (by kernel_rfl) (by kernel_rfl) (fun _ _ _ h => h) (Or.inl ⟨by kernel_rfl, ?_⟩) (by assumption) ?_
  rotate_left
  · intro w hSw; go_simp; with_reducible rfl
  try simp (maxSteps := 2000000) only [Act.put, List.getElem_toArray, List.getElem_cons_succ, List.getElem_cons_zero, List.setIfInBounds_toArray, List.set_cons_zero, List.set_cons_succ]
  refine wpAnyH_take (i := 20) (v := _) rfl (by kernel_rfl) (by kernel_rfl) (by kernel_rfl) (fun _ _ _ h => h) (yieldsIf_load_mid (by kernel_rfl) _ _ rfl _ _ rfl [.int .u64 sh, .int .u64 sl, .pointer (some sz)] _ (fun w h => range_row (o := 1) (n := 3) (HM.out.below h).p rfl) Tryd.underlying32 rfl size32) (by assumption) ?_
  try simp (maxSteps := 2000000) only [Act.put, List.getElem_toArray, List.getElem_cons_succ, List.getElem_cons_zero, List.setIfInBounds_toArray, List.set_cons_zero, List.set_cons_succ]
  refine wpAnyH_ready (rs := [21]) (by kernel_rfl) (by simp) ?_
  refine AllReadyH.cons rfl ?_ AllReadyH.nil
  intro K hK
  rw [if_pos (by kernel_rfl)]
  go_simp
  refine (HH3.out _ (hbw.trans (hHeld.mono hsz))).mono ?_
  rintro e w7 ⟨rfl, hb7⟩
  go_wp2_with fail
  refine hK.out _ _ (hHeld.trans (hb7.mono hHeld.size)) (fun hHeld => ?_)
  clear hK K
  try simp (maxSteps := 2000000) only [Act.put, List.getElem_toArray, List.getElem_cons_succ, List.getElem_cons_zero, List.setIfInBounds_toArray, List.set_cons_zero, List.set_cons_succ]
  refine wpAnyH_take (i := 22) (v := ?_) rfl (by kernel_rfl) (by kernel_rfl) (by kernel_rfl) (fun _ _ _ h => h) (Or.inl ⟨by kernel_rfl, ?_⟩) (by assumption) ?_
  rotate_left
  · intro w hSw; go_simp; with_reducible rfl
  try simp (maxSteps := 2000000) only [Act.put, List.getElem_toArray, List.getElem_cons_succ, List.getElem_cons_zero, List.setIfInBounds_toArray, List.set_cons_zero, List.set_cons_succ]
  refine wpAnyH_take (i := 23) (v := ?_) rfl (by kernel_rfl) (by kernel_rfl) (by kernel_rfl) (fun _ _ _ h => h) (Or.inl ⟨by kernel_rfl, ?_⟩) (by assumption) ?_
  rotate_left
  · intro w hSw; go_simp; with_reducible rfl
  try simp (maxSteps := 2000000) only [Act.put, List.getElem_toArray, List.getElem_cons_succ, List.getElem_cons_zero, List.setIfInBounds_toArray, List.set_cons_zero, List.set_cons_succ]
  refine wpAnyH_take (i := 24) (v := undef) rfl (by kernel_rfl) (by kernel_rfl) (by kernel_rfl) (fun _ _ _ h => h) (Or.inr ⟨by kernel_rfl, rfl⟩) (by assumption) ?_
  try simp (maxSteps := 2000000) only [Act.put, List.getElem_toArray, List.getElem_cons_succ, List.getElem_cons_zero, List.setIfInBounds_toArray, List.set_cons_zero, List.set_cons_succ]
  refine wpAnyH_take (i := 25) (v := undef) rfl (by kernel_rfl) (by kernel_rfl) (by kernel_rfl) (fun _ _ _ h => h) (Or.inr ⟨by kernel_rfl, rfl⟩) (by assumption) ?_
  try simp (maxSteps := 2000000) only [Act.put, List.getElem_toArray, List.getElem_cons_succ, List.getElem_cons_zero, List.setIfInBounds_toArray, List.set_cons_zero, List.set_cons_succ]
  refine wpAnyH_take (i := 26) (v := undef) rfl (by kernel_rfl) (by kernel_rfl) (by kernel_rfl) (fun _ _ _ h => h) (Or.inr ⟨by kernel_rfl, rfl⟩) (by assumption) ?_
  try simp (maxSteps := 2000000) only [Act.put, List.getElem_toArray, List.getElem_cons_succ, List.getElem_cons_zero, List.setIfInBounds_toArray, List.set_cons_zero, List.set_cons_succ]
  refine wpAnyH_take (i := 27) (v := undef) rfl (by kernel_rfl) (by kernel_rfl) (by kernel_rfl) (fun _ _ _ h => h) (Or.inr ⟨by kernel_rfl, rfl⟩) (by assumption) ?_
  try simp (maxSteps := 2000000) only [Act.put, List.getElem_toArray, List.getElem_cons_succ, List.getElem_cons_zero, List.setIfInBounds_toArray, List.set_cons_zero, List.set_cons_succ]
  refine wpAnyH_take (i := 28) (v := undef) rfl (by kernel_rfl) (by kernel_rfl) (by kernel_rfl) (fun _ _ _ h => h) (Or.inr ⟨by kernel_rfl, rfl⟩) (by assumption) ?_
  try simp (maxSteps := 2000000) only [Act.put, List.getElem_toArray, List.getElem_cons_succ, List.getElem_cons_zero, List.setIfInBounds_toArray, List.set_cons_zero, List.set_cons_succ]
  refine wpAnyH_take (i := 29) (v := undef) rfl (by kernel_rfl) (by kernel_rfl) (by kernel_rfl) (fun _ _ _ h => h) (Or.inr ⟨by kernel_rfl, rfl⟩) (by assumption) ?_
  try simp (maxSteps := 2000000) only [Act.put, List.getElem_toArray, List.getElem_cons_succ, List.getElem_cons_zero, List.setIfInBounds_toArray, List.set_cons_zero, List.set_cons_succ]
  refine wpAnyH_take (i := 30) (v := undef) rfl (by kernel_rfl) (by kernel_rfl) (by kernel_rfl) (fun _ _ _ h => h) (Or.inr ⟨by kernel_rfl, rfl⟩) (by assumption) ?_
  try simp (maxSteps := 2000000) only [Act.put, List.getElem_toArray, List.getElem_cons_succ, List.getElem_cons_zero, List.setIfInBounds_toArray, List.set_cons_zero, List.set_cons_succ]
  refine wpAnyH_take (i := 31) (v := ?_) rfl (by kernel_rfl) (by kernel_rfl) (by kernel_rfl) (fun _ _ _ h => h) (Or.inl ⟨by kernel_rfl, ?_⟩) (by assumption) ?_
  rotate_left
  · intro w hSw; go_simp; with_reducible rfl
  try simp (maxSteps := 2000000) only [Act.put, List.getElem_toArray, List.getElem_cons_succ, List.getElem_cons_zero, List.setIfInBounds_toArray, List.set_cons_zero, List.set_cons_succ]
  refine wpAnyH_take (i := 32) (v := ?_) rfl (by kernel_rfl) (by kernel_rfl) (by kernel_rfl) (fun _ _ _ h => h) (Or.inl ⟨by kernel_rfl, ?_⟩) (by assumption) ?_
  rotate_left
  · intro w hSw; go_simp; with_reducible rfl
  try simp (maxSteps := 2000000) only [Act.put, List.getElem_toArray, List.getElem_cons_succ, List.getElem_cons_zero, List.setIfInBounds_toArray, List.set_cons_zero, List.set_cons_succ]
  refine wpAnyH_take (i := 33) (v := undef) rfl (by kernel_rfl) (by kernel_rfl) (by kernel_rfl) (fun _ _ _ h => h) (Or.inr ⟨by kernel_rfl, rfl⟩) (by assumption) ?_
  try simp (maxSteps := 2000000) only [Act.put, List.getElem_toArray, List.getElem_cons_succ, List.getElem_cons_zero, List.setIfInBounds_toArray, List.set_cons_zero, List.set_cons_succ]
  refine wpAnyH_take (i := 34) (v := undef) rfl (by kernel_rfl) (by kernel_rfl) (by kernel_rfl) (fun _ _ _ h => h) (Or.inr ⟨by kernel_rfl, rfl⟩) (by assumption) ?_
  try simp (maxSteps := 2000000) only [Act.put, List.getElem_toArray, List.getElem_cons_succ, List.getElem_cons_zero, List.setIfInBounds_toArray, List.set_cons_zero, List.set_cons_succ]
  refine wpAnyH_take (i := 35) (v := undef) rfl (by kernel_rfl) (by kernel_rfl) (by kernel_rfl) (fun _ _ _ h => h) (Or.inr ⟨by kernel_rfl, rfl⟩) (by assumption) ?_
  try simp (maxSteps := 2000000) only [Act.put, List.getElem_toArray, List.getElem_cons_succ, List.getElem_cons_zero, List.setIfInBounds_toArray, List.set_cons_zero, List.set_cons_succ]
  refine wpAnyH_take (i := 36) (v := ?_) rfl (by kernel_rfl) (by kernel_rfl) (by kernel_rfl) (fun _ _ _ h => h) (Or.inl ⟨by kernel_rfl, ?_⟩) (by assumption) ?_
  rotate_left
  · intro w hSw; go_simp; with_reducible rfl
  try simp (maxSteps := 2000000) only [Act.put, List.getElem_toArray, List.getElem_cons_succ, List.getElem_cons_zero, List.setIfInBounds_toArray, List.set_cons_zero, List.set_cons_succ]
  refine wpAnyH_take (i := 37) (v := ?_) rfl (by kernel_rfl) (by kernel_rfl) (by kernel_rfl) (fun _ _ _ h => h) (Or.inl ⟨by kernel_rfl, ?_⟩) (by assumption) ?_
  rotate_left
  · intro w hSw; go_simp; with_reducible rfl
  try simp (maxSteps := 2000000) only [Act.put, List.getElem_toArray, List.getElem_cons_succ, List.getElem_cons_zero, List.setIfInBounds_toArray, List.set_cons_zero, List.set_cons_succ]
  refine wpAnyH_done (by kernel_rfl) ?_ _
  go_wp2
  go_ret
  exact ⟨rfl, hbw.trans (hHeld.mono hsz)⟩

set_option maxRecDepth 100000 in
set_option maxHeartbeats 8000000 in
theorem matches_3 (rb : Nat) (inV outV srcV destV : Value) (hin : ∃ a n c, inV = .slice a n c) (hou : ∃ a n c, outV = .slice a n c) (hsr : ∃ a n c, srcV = .slice a n c) (hde : ∃ a n c, destV = .slice a n c) (proto sh sl dh dl sp dp ty co : Int) (sz dz : Addr) (iif oif : ByteArray) (w : World)
    (h4 : w.cell? ⟨rb, 4, none⟩ = some inV) (h5 : w.cell? ⟨rb, 5, none⟩ = some outV) (h6 : w.cell? ⟨rb, 6, none⟩ = some srcV) (h7 : w.cell? ⟨rb, 7, none⟩ = some destV)
    (K1 : ∀ W, Below w.heap.size w W → Calls Tryd.prog 30 #[inV, .agg (sideV (path iif oif == 2) iif sh sl sz)] W fun e W' => e = .returned (.bool true) ∧ Below W.heap.size W W') (K2 : ∀ W, Below w.heap.size w W → Calls Tryd.prog 30 #[outV, .agg (sideV (path iif oif == 0) oif dh dl dz)] W fun e W' => e = .returned (.bool true) ∧ Below W.heap.size W W') (K3 : ∀ W, Below w.heap.size w W → Calls Tryd.prog 31 #[srcV, .agg #[.int .u64 sh, .int .u64 sl, .pointer (some sz)]] W fun e W' => e = .returned (.bool true) ∧ Below W.heap.size W W') (K4 : ∀ W, Below w.heap.size w W → Calls Tryd.prog 31 #[destV, .agg #[.int .u64 dh, .int .u64 dl, .pointer (some dz)]] W fun e W' => e = .returned (.bool false) ∧ Below W.heap.size W W') :
    Calls Tryd.prog 22 #[.pointer (some ⟨rb, 0, none⟩), .agg (pkt proto sh sl sz dh dl dz sp dp ty co iif oif)] w fun e w' => e = .returned (.bool false) ∧ Below w.heap.size w w' := by
  obtain ⟨ia, il, ic, rfl⟩ := hin
  obtain ⟨oa, ol, oc, rfl⟩ := hou
  obtain ⟨sa, sll, sc, rfl⟩ := hsr
  obtain ⟨da, dll, dc, rfl⟩ := hde
  have HK4 := hid h4
  have HK5 := hid h5
  have HK6 := hid h6
  have HK7 := hid h7
  have HH1 := hid K1
  have HH2 := hid K2
  have HH3 := hid K3
  have HH4 := hid K4
  clear h4 h5 h6 h7 K1 K2 K3 K4
  have hrow := hid (heap_alloc_new w (.cells (pkt proto sh sl sz dh dl dz sp dp ty co iif oif) 35))
  go_enter Tryd.func22, Tryd.ntmps22
  go_wp2_with (first
    | (refine wpList_load_row rfl 35 (.tmp 3) rfl w.heap.size rfl 35 (pkt proto sh sl sz dh dl dz sp dp ty co iif oif) (0, 0) _ hrow.out Tryd.underlying35 rfl size35 ?_)
    | (go_at_call 29; refine (path_any proto sh sl dh dl sp dp ty co sz dz iif oif _).mono ?_; rintro e w2 ⟨rfl, hb2⟩; have HB2 := hid hb2; have hsz2 : w.heap.size + 1 ≤ w2.heap.size := (by simpa using hb2.size); have hsz3 : w.heap.size < w2.heap.size := hsz2; have hp := (hb2.block w.heap.size (by simp)).trans hrow.out; have q11 := cell_of_row w2 w.heap.size 11 _ 35 (0, 0) hp; have q12 := cell_of_row w2 w.heap.size 12 _ 35 (0, 0) hp; have q1 := cell_of_row w2 w.heap.size 1 _ 35 (0, 0) hp; have q2 := cell_of_row w2 w.heap.size 2 _ 35 (0, 0) hp; have q3 := cell_of_row w2 w.heap.size 3 _ 35 (0, 0) hp; have q4 := cell_of_row w2 w.heap.size 4 _ 35 (0, 0) hp; have q5 := cell_of_row w2 w.heap.size 5 _ 35 (0, 0) hp; have q6 := cell_of_row w2 w.heap.size 6 _ 35 (0, 0) hp; have HP2 := hid hp; clear hp hb2; simp only [pkt, List.getElem?_toArray, List.getElem?_cons_zero, List.getElem?_cons_succ] at q1 q2 q3 q4 q5 q6 q11 q12))
  have HM0 : MatIn ((w2.alloc (.cells #[.bool (path iif oif == 2), .string iif, .int .u64 sh, .int .u64 sl, .pointer (some sz)] 82)).alloc (.cells #[.bool (path iif oif == 0), .string oif, .int .u64 dh, .int .u64 dl, .pointer (some dz)] 82)) rb w2.heap.size (w2.heap.size + 1) w.heap.size (.slice ia il ic) (.slice oa ol oc) (.slice sa sll sc) (.slice da dll dc) (sideV (path iif oif == 2) iif sh sl sz) (sideV (path iif oif == 0) oif dh dl dz) (pkt proto sh sl sz dh dl dz sp dp ty co iif oif) := mat_new HB2.out HP2.out HK4.out HK5.out HK6.out HK7.out
  have HBX : Below w.heap.size w ((w2.alloc (.cells #[.bool (path iif oif == 2), .string iif, .int .u64 sh, .int .u64 sl, .pointer (some sz)] 82)).alloc (.cells #[.bool (path iif oif == 0), .string oif, .int .u64 dh, .int .u64 dl, .pointer (some dz)] 82)) := (((Below.refl _ _).alloc (Nat.le_refl _) _).trans (HB2.out.mono (by simp))).alloc (by omega) _ |>.alloc (by simp; omega) _
  clear q1 q2 q3 q4 q5 q6 q11 q12 HB2 HP2 HK4 HK5 HK6 HK7 hrow
  generalize ((w2.alloc (.cells #[.bool (path iif oif == 2), .string iif, .int .u64 sh, .int .u64 sl, .pointer (some sz)] 82)).alloc (.cells #[.bool (path iif oif == 0), .string oif, .int .u64 dh, .int .u64 dl, .pointer (some dz)] 82)) = wx at HM0 HBX ⊢
  have HM := hid (HM0.below (Below.refl _ _).drew)
  have hbw : Below w.heap.size w wx.drew := HBX.drew
  have hsz : w.heap.size ≤ wx.drew.heap.size := hbw.size
  clear HM0 HBX
  refine wp_region_held_drew (S := fun W => Below wx.drew.heap.size wx.drew W) (by kernel_rfl) (Below.refl _ _) (fun hHeld => ?_)
  refine wpAnyH_take (i := 0) (v := ?_) rfl (by kernel_rfl) (by kernel_rfl) (by kernel_rfl) (fun _ _ _ h => h) (Or.inl ⟨by kernel_rfl, ?_⟩) (by assumption) ?_
  rotate_left
  · intro w hSw; go_simp; with_reducible rfl
  try simp (maxSteps := 2000000) only [Act.put, List.getElem_toArray, List.getElem_cons_succ, List.getElem_cons_zero, List.setIfInBounds_toArray, List.set_cons_zero, List.set_cons_succ]
  refine wpAnyH_take (i := 1) (v := ?_) rfl (by kernel_rfl) (by kernel_rfl) (by kernel_rfl) (fun _ _ _ h => h) (Or.inl ⟨by kernel_rfl, ?_⟩) (by assumption) ?_
  rotate_left
  · intro w hSw; go_simp; with_reducible rfl
  try simp (maxSteps := 2000000) only [Act.put, List.getElem_toArray, List.getElem_cons_succ, List.getElem_cons_zero, List.setIfInBounds_toArray, List.set_cons_zero, List.set_cons_succ]
  refine wpAnyH_take (i := 2) (v := ?_) rfl (by kernel_rfl) (by kernel_rfl) (by kernel_rfl) (fun _ _ _ h => h) (Or.inl ⟨by kernel_rfl, ?_⟩) (by assumption) ?_
  rotate_left
  · intro w hSw; go_simp; with_reducible rfl
  try simp (maxSteps := 2000000) only [Act.put, List.getElem_toArray, List.getElem_cons_succ, List.getElem_cons_zero, List.setIfInBounds_toArray, List.set_cons_zero, List.set_cons_succ]
  refine wpAnyH_take (i := 3) (v := ?_) rfl (by kernel_rfl) (by kernel_rfl) (by kernel_rfl) (fun _ _ _ h => h) (Or.inl ⟨by kernel_rfl, ?_⟩) (by assumption) ?_
  rotate_left
  · intro w hSw; have hcc := (HM.out.below hSw).i4; go_simp; with_reducible rfl
  try simp (maxSteps := 2000000) only [Act.put, List.getElem_toArray, List.getElem_cons_succ, List.getElem_cons_zero, List.setIfInBounds_toArray, List.set_cons_zero, List.set_cons_succ]
  refine wpAnyH_take (i := 4) (v := _) rfl (by kernel_rfl) (by kernel_rfl) (by kernel_rfl) (fun _ _ _ h => h) (yieldsIf_load_mid (by kernel_rfl) _ _ rfl _ _ rfl (sideV (path iif oif == 2) iif sh sl sz).toList _ (fun w h => range_row (o := 0) (n := 5) (HM.out.below h).f rfl) Tryd.underlying82 rfl size82) (by assumption) ?_
  try simp (maxSteps := 2000000) only [Act.put, List.getElem_toArray, List.getElem_cons_succ, List.getElem_cons_zero, List.setIfInBounds_toArray, List.set_cons_zero, List.set_cons_succ]
  refine wpAnyH_ready (rs := [5]) (by kernel_rfl) (by simp) ?_
  refine AllReadyH.cons rfl ?_ AllReadyH.nil
  intro K hK
  rw [if_pos (by kernel_rfl)]
  go_simp
  refine (HH1.out _ (hbw.trans (hHeld.mono hsz))).mono ?_
  rintro e w5 ⟨rfl, hb5⟩
  go_wp2_with fail
  refine hK.out _ _ (hHeld.trans (hb5.mono hHeld.size)) (fun hHeld => ?_)
  clear hK K
  try simp (maxSteps := 2000000) only [Act.put, List.getElem_toArray, List.getElem_cons_succ, List.getElem_cons_zero, List.setIfInBounds_toArray, List.set_cons_zero, List.set_cons_succ]
  refine wpAnyH_take (i := 6) (v := ?_) rfl (by kernel_rfl) (by kernel_rfl) (by kernel_rfl) (fun _ _ _ h => h) (Or.inl ⟨by kernel_rfl, ?_⟩) (by assumption) ?_
  rotate_left
  · intro w hSw; go_simp; with_reducible rfl
  try simp (maxSteps := 2000000) only [Act.put, List.getElem_toArray, List.getElem_cons_succ, List.getElem_cons_zero, List.setIfInBounds_toArray, List.set_cons_zero, List.set_cons_succ]
  refine wpAnyH_take (i := 7) (v := ?_) rfl (by kernel_rfl) (by kernel_rfl) (by kernel_rfl) (fun _ _ _ h => h) (Or.inl ⟨by kernel_rfl, ?_⟩) (by assumption) ?_
  rotate_left
  · intro w hSw; go_simp; with_reducible rfl
  try simp (maxSteps := 2000000) only [Act.put, List.getElem_toArray, List.getElem_cons_succ, List.getElem_cons_zero, List.setIfInBounds_toArray, List.set_cons_zero, List.set_cons_succ]
  refine wpAnyH_take (i := 8) (v := ?_) rfl (by kernel_rfl) (by kernel_rfl) (by kernel_rfl) (fun _ _ _ h => h) (Or.inl ⟨by kernel_rfl, ?_⟩) (by assumption) ?_
  rotate_left
  · intro w hSw; go_simp; with_reducible rfl
  try simp (maxSteps := 2000000) only [Act.put, List.getElem_toArray, List.getElem_cons_succ, List.getElem_cons_zero, List.setIfInBounds_toArray, List.set_cons_zero, List.set_cons_succ]
  refine wpAnyH_take (i := 9) (v := ?_) rfl (by kernel_rfl) (by kernel_rfl) (by kernel_rfl) (fun _ _ _ h => h) (Or.inl ⟨by kernel_rfl, ?_⟩) (by assumption) ?_
  rotate_left
  · intro w hSw; go_simp; with_reducible rfl
  try simp (maxSteps := 2000000) only [Act.put, List.getElem_toArray, List.getElem_cons_succ, List.getElem_cons_zero, List.setIfInBounds_toArray, List.set_cons_zero, List.set_cons_succ]
  refine wpAnyH_take (i := 10) (v := ?_) rfl (by kernel_rfl) (by kernel_rfl) (by kernel_rfl) (fun _ _ _ h => h) (Or.inl ⟨by kernel_rfl, ?_⟩) (by assumption) ?_
  rotate_left
  · intro w hSw; have hcc := (HM.out.below hSw).i5; go_simp; with_reducible rfl
  try simp (maxSteps := 2000000) only [Act.put, List.getElem_toArray, List.getElem_cons_succ, List.getElem_cons_zero, List.setIfInBounds_toArray, List.set_cons_zero, List.set_cons_succ]
  refine wpAnyH_take (i := 11) (v := _) rfl (by kernel_rfl) (by kernel_rfl) (by kernel_rfl) (fun _ _ _ h => h) (yieldsIf_load_mid (by kernel_rfl) _ _ rfl _ _ rfl (sideV (path iif oif == 0) oif dh dl dz).toList _ (fun w h => range_row (o := 0) (n := 5) (HM.out.below h).t rfl) Tryd.underlying82 rfl size82) (by assumption) ?_
  try simp (maxSteps := 2000000) only [Act.put, List.getElem_toArray, List.getElem_cons_succ, List.getElem_cons_zero, List.setIfInBounds_toArray, List.set_cons_zero, List.set_cons_succ]
  refine wpAnyH_ready (rs := [12]) (by kernel_rfl) (by simp) ?_
  refine AllReadyH.cons rfl ?_ AllReadyH.nil
  intro K hK
  rw [if_pos (by kernel_rfl)]
  go_simp
  refine (HH2.out _ (hbw.trans (hHeld.mono hsz))).mono ?_
  rintro e w6 ⟨rfl, hb6⟩
  go_wp2_with fail
  refine hK.out _ _ (hHeld.trans (hb6.mono hHeld.size)) (fun hHeld => ?_)
  clear hK K
  try simp (maxSteps := 2000000) only [Act.put, List.getElem_toArray, List.getElem_cons_succ, List.getElem_cons_zero, List.setIfInBounds_toArray, List.set_cons_zero, List.set_cons_succ]
  refine wpAnyH_take (i := 13) (v := ?_) rfl (by kernel_rfl) (by kernel_rfl) (by kernel_rfl) (fun _ _ _ h => h) (Or.inl ⟨by kernel_rfl, ?_⟩) (by assumption) ?_
  rotate_left
  · intro w hSw; go_simp; with_reducible rfl
  try simp (maxSteps := 2000000) only [Act.put, List.getElem_toArray, List.getElem_cons_succ, List.getElem_cons_zero, List.setIfInBounds_toArray, List.set_cons_zero, List.set_cons_succ]
  refine wpAnyH_take (i := 14) (v := ?_) rfl (by kernel_rfl) (by kernel_rfl) (by kernel_rfl) (fun _ _ _ h => h) (Or.inl ⟨by kernel_rfl, ?_⟩) (by assumption) ?_
  rotate_left
  · intro w hSw; go_simp; with_reducible rfl
  try simp (maxSteps := 2000000) only [Act.put, List.getElem_toArray, List.getElem_cons_succ, List.getElem_cons_zero, List.setIfInBounds_toArray, List.set_cons_zero, List.set_cons_succ]
  refine wpAnyH_take (i := 15) (v := ?_) rfl (by kernel_rfl) (by kernel_rfl) (by kernel_rfl) (fun _ _ _ h => h) (Or.inl ⟨by kernel_rfl, ?_⟩) (by assumption) ?_
  rotate_left
  · intro w hSw; go_simp; with_reducible rfl
  try simp (maxSteps := 2000000) only [Act.put, List.getElem_toArray, List.getElem_cons_succ, List.getElem_cons_zero, List.setIfInBounds_toArray, List.set_cons_zero, List.set_cons_succ]
  refine wpAnyH_take (i := 16) (v := ?_) rfl (by kernel_rfl) (by kernel_rfl) (by kernel_rfl) (fun _ _ _ h => h) (Or.inl ⟨by kernel_rfl, ?_⟩) (by assumption) ?_
  rotate_left
  · intro w hSw; go_simp; with_reducible rfl
  try simp (maxSteps := 2000000) only [Act.put, List.getElem_toArray, List.getElem_cons_succ, List.getElem_cons_zero, List.setIfInBounds_toArray, List.set_cons_zero, List.set_cons_succ]
  refine wpAnyH_take (i := 17) (v := ?_) rfl (by kernel_rfl) (by kernel_rfl) (by kernel_rfl) (fun _ _ _ h => h) (Or.inl ⟨by kernel_rfl, ?_⟩) (by assumption) ?_
  rotate_left
  · intro w hSw; go_simp; with_reducible rfl
  try simp (maxSteps := 2000000) only [Act.put, List.getElem_toArray, List.getElem_cons_succ, List.getElem_cons_zero, List.setIfInBounds_toArray, List.set_cons_zero, List.set_cons_succ]
  refine wpAnyH_take (i := 18) (v := ?_) rfl (by kernel_rfl) (by kernel_rfl) (by kernel_rfl) (fun _ _ _ h => h) (Or.inl ⟨by kernel_rfl, ?_⟩) (by assumption) ?_
  rotate_left
  · intro w hSw; have hcc := (HM.out.below hSw).i6; go_simp; with_reducible rfl
  try simp (maxSteps := 2000000) only [Act.put, List.getElem_toArray, List.getElem_cons_succ, List.getElem_cons_zero, List.setIfInBounds_toArray, List.set_cons_zero, List.set_cons_succ]
  refine wpAnyH_take (i := 19) (v := ?_) rfl (by kernel_rfl) (by kernel_rfl) (by kernel_rfl) (fun _ _ _ h => h) (Or.inl ⟨by kernel_rfl, ?_⟩) (by assumption) ?_
  rotate_left
  · intro w hSw; go_simp; with_reducible rfl
  try simp (maxSteps := 2000000) only [Act.put, List.getElem_toArray, List.getElem_cons_succ, List.getElem_cons_zero, List.setIfInBounds_toArray, List.set_cons_zero, List.set_cons_succ]
  refine wpAnyH_take (i := 20) (v := _) rfl (by kernel_rfl) (by kernel_rfl) (by kernel_rfl) (fun _ _ _ h => h) (yieldsIf_load_mid (by kernel_rfl) _ _ rfl _ _ rfl [.int .u64 sh, .int .u64 sl, .pointer (some sz)] _ (fun w h => range_row (o := 1) (n := 3) (HM.out.below h).p rfl) Tryd.underlying32 rfl size32) (by assumption) ?_
  try simp (maxSteps := 2000000) only [Act.put, List.getElem_toArray, List.getElem_cons_succ, List.getElem_cons_zero, List.setIfInBounds_toArray, List.set_cons_zero, List.set_cons_succ]
  refine wpAnyH_ready (rs := [21]) (by kernel_rfl) (by simp) ?_
  refine AllReadyH.cons rfl ?_ AllReadyH.nil
  intro K hK
  rw [if_pos (by kernel_rfl)]
  go_simp
  refine (HH3.out _ (hbw.trans (hHeld.mono hsz))).mono ?_
  rintro e w7 ⟨rfl, hb7⟩
  go_wp2_with fail
  refine hK.out _ _ (hHeld.trans (hb7.mono hHeld.size)) (fun hHeld => ?_)
  clear hK K
  try simp (maxSteps := 2000000) only [Act.put, List.getElem_toArray, List.getElem_cons_succ, List.getElem_cons_zero, List.setIfInBounds_toArray, List.set_cons_zero, List.set_cons_succ]
  refine wpAnyH_take (i := 22) (v := ?_) rfl (by kernel_rfl) (by kernel_rfl) (by kernel_rfl) (fun _ _ _ h => h) (Or.inl ⟨by kernel_rfl, ?_⟩) (by assumption) ?_
  rotate_left
  · intro w hSw; go_simp; with_reducible rfl
  try simp (maxSteps := 2000000) only [Act.put, List.getElem_toArray, List.getElem_cons_succ, List.getElem_cons_zero, List.setIfInBounds_toArray, List.set_cons_zero, List.set_cons_succ]
  refine wpAnyH_take (i := 23) (v := ?_) rfl (by kernel_rfl) (by kernel_rfl) (by kernel_rfl) (fun _ _ _ h => h) (Or.inl ⟨by kernel_rfl, ?_⟩) (by assumption) ?_
  rotate_left
  · intro w hSw; go_simp; with_reducible rfl
  try simp (maxSteps := 2000000) only [Act.put, List.getElem_toArray, List.getElem_cons_succ, List.getElem_cons_zero, List.setIfInBounds_toArray, List.set_cons_zero, List.set_cons_succ]
  refine wpAnyH_take (i := 24) (v := ?_) rfl (by kernel_rfl) (by kernel_rfl) (by kernel_rfl) (fun _ _ _ h => h) (Or.inl ⟨by kernel_rfl, ?_⟩) (by assumption) ?_
  rotate_left
  · intro w hSw; go_simp; with_reducible rfl
  try simp (maxSteps := 2000000) only [Act.put, List.getElem_toArray, List.getElem_cons_succ, List.getElem_cons_zero, List.setIfInBounds_toArray, List.set_cons_zero, List.set_cons_succ]
  refine wpAnyH_take (i := 25) (v := ?_) rfl (by kernel_rfl) (by kernel_rfl) (by kernel_rfl) (fun _ _ _ h => h) (Or.inl ⟨by kernel_rfl, ?_⟩) (by assumption) ?_
  rotate_left
  · intro w hSw; go_simp; with_reducible rfl
  try simp (maxSteps := 2000000) only [Act.put, List.getElem_toArray, List.getElem_cons_succ, List.getElem_cons_zero, List.setIfInBounds_toArray, List.set_cons_zero, List.set_cons_succ]
  refine wpAnyH_take (i := 26) (v := ?_) rfl (by kernel_rfl) (by kernel_rfl) (by kernel_rfl) (fun _ _ _ h => h) (Or.inl ⟨by kernel_rfl, ?_⟩) (by assumption) ?_
  rotate_left
  · intro w hSw; go_simp; with_reducible rfl
  try simp (maxSteps := 2000000) only [Act.put, List.getElem_toArray, List.getElem_cons_succ, List.getElem_cons_zero, List.setIfInBounds_toArray, List.set_cons_zero, List.set_cons_succ]
  refine wpAnyH_take (i := 27) (v := ?_) rfl (by kernel_rfl) (by kernel_rfl) (by kernel_rfl) (fun _ _ _ h => h) (Or.inl ⟨by kernel_rfl, ?_⟩) (by assumption) ?_
  rotate_left
  · intro w hSw; have hcc := (HM.out.below hSw).i7; go_simp; with_reducible rfl
  try simp (maxSteps := 2000000) only [Act.put, List.getElem_toArray, List.getElem_cons_succ, List.getElem_cons_zero, List.setIfInBounds_toArray, List.set_cons_zero, List.set_cons_succ]
  refine wpAnyH_take (i := 28) (v := ?_) rfl (by kernel_rfl) (by kernel_rfl) (by kernel_rfl) (fun _ _ _ h => h) (Or.inl ⟨by kernel_rfl, ?_⟩) (by assumption) ?_
  rotate_left
  · intro w hSw; go_simp; with_reducible rfl
  try simp (maxSteps := 2000000) only [Act.put, List.getElem_toArray, List.getElem_cons_succ, List.getElem_cons_zero, List.setIfInBounds_toArray, List.set_cons_zero, List.set_cons_succ]
  refine wpAnyH_take (i := 29) (v := _) rfl (by kernel_rfl) (by kernel_rfl) (by kernel_rfl) (fun _ _ _ h => h) (yieldsIf_load_mid (by kernel_rfl) _ _ rfl _ _ rfl [.int .u64 dh, .int .u64 dl, .pointer (some dz)] _ (fun w h => range_row (o := 4) (n := 3) (HM.out.below h).p rfl) Tryd.underlying32 rfl size32) (by assumption) ?_
  try simp (maxSteps := 2000000) only [Act.put, List.getElem_toArray, List.getElem_cons_succ, List.getElem_cons_zero, List.setIfInBounds_toArray, List.set_cons_zero, List.set_cons_succ]
  refine wpAnyH_ready (rs := [30]) (by kernel_rfl) (by simp) ?_
  refine AllReadyH.cons rfl ?_ AllReadyH.nil
  intro K hK
  rw [if_pos (by kernel_rfl)]
  go_simp
  refine (HH4.out _ (hbw.trans (hHeld.mono hsz))).mono ?_
  rintro e w8 ⟨rfl, hb8⟩
  go_wp2_with fail
  refine hK.out _ _ (hHeld.trans (hb8.mono hHeld.size)) (fun hHeld => ?_)
  clear hK K
  try simp (maxSteps := 2000000) only [Act.put, List.getElem_toArray, List.getElem_cons_succ, List.getElem_cons_zero, List.setIfInBounds_toArray, List.set_cons_zero, List.set_cons_succ]
  refine wpAnyH_take (i := 31) (v := ?_) rfl (by kernel_rfl) (by kernel_rfl) (by kernel_rfl) (fun _ _ _ h => h) (Or.inl ⟨by kernel_rfl, ?_⟩) (by assumption) ?_
  rotate_left
  · intro w hSw; go_simp; with_reducible rfl
  try simp (maxSteps := 2000000) only [Act.put, List.getElem_toArray, List.getElem_cons_succ, List.getElem_cons_zero, List.setIfInBounds_toArray, List.set_cons_zero, List.set_cons_succ]
  refine wpAnyH_take (i := 32) (v := ?_) rfl (by kernel_rfl) (by kernel_rfl) (by kernel_rfl) (fun _ _ _ h => h) (Or.inl ⟨by kernel_rfl, ?_⟩) (by assumption) ?_
  rotate_left
  · intro w hSw; go_simp; with_reducible rfl
  try simp (maxSteps := 2000000) only [Act.put, List.getElem_toArray, List.getElem_cons_succ, List.getElem_cons_zero, List.setIfInBounds_toArray, List.set_cons_zero, List.set_cons_succ]
  refine wpAnyH_take (i := 33) (v := undef) rfl (by kernel_rfl) (by kernel_rfl) (by kernel_rfl) (fun _ _ _ h => h) (Or.inr ⟨by kernel_rfl, rfl⟩) (by assumption) ?_
  try simp (maxSteps := 2000000) only [Act.put, List.getElem_toArray, List.getElem_cons_succ, List.getElem_cons_zero, List.setIfInBounds_toArray, List.set_cons_zero, List.set_cons_succ]
  refine wpAnyH_take (i := 34) (v := undef) rfl (by kernel_rfl) (by kernel_rfl) (by kernel_rfl) (fun _ _ _ h => h) (Or.inr ⟨by kernel_rfl, rfl⟩) (by assumption) ?_
  try simp (maxSteps := 2000000) only [Act.put, List.getElem_toArray, List.getElem_cons_succ, List.getElem_cons_zero, List.setIfInBounds_toArray, List.set_cons_zero, List.set_cons_succ]
  refine wpAnyH_take (i := 35) (v := undef) rfl (by kernel_rfl) (by kernel_rfl) (by kernel_rfl) (fun _ _ _ h => h) (Or.inr ⟨by kernel_rfl, rfl⟩) (by assumption) ?_
  try simp (maxSteps := 2000000) only [Act.put, List.getElem_toArray, List.getElem_cons_succ, List.getElem_cons_zero, List.setIfInBounds_toArray, List.set_cons_zero, List.set_cons_succ]
  refine wpAnyH_take (i := 36) (v := ?_) rfl (by kernel_rfl) (by kernel_rfl) (by kernel_rfl) (fun _ _ _ h => h) (Or.inl ⟨by kernel_rfl, ?_⟩) (by assumption) ?_
  rotate_left
  · intro w hSw; go_simp; with_reducible rfl
  try simp (maxSteps := 2000000) only [Act.put, List.getElem_toArray, List.getElem_cons_succ, List.getElem_cons_zero, List.setIfInBounds_toArray, List.set_cons_zero, List.set_cons_succ]
  refine wpAnyH_take (i := 37) (v := ?_) rfl (by kernel_rfl) (by kernel_rfl) (by kernel_rfl) (fun _ _ _ h => h) (Or.inl ⟨by kernel_rfl, ?_⟩) (by assumption) ?_
  rotate_left
  · intro w hSw; go_simp; with_reducible rfl
  try simp (maxSteps := 2000000) only [Act.put, List.getElem_toArray, List.getElem_cons_succ, List.getElem_cons_zero, List.setIfInBounds_toArray, List.set_cons_zero, List.set_cons_succ]
  refine wpAnyH_done (by kernel_rfl) ?_ _
  go_wp2
  go_ret
  exact ⟨rfl, hbw.trans (hHeld.mono hsz)⟩

set_option maxRecDepth 100000 in
set_option maxHeartbeats 8000000 in
theorem matches_4 (rb : Nat) (inV outV srcV destV : Value) (hin : ∃ a n c, inV = .slice a n c) (hou : ∃ a n c, outV = .slice a n c) (hsr : ∃ a n c, srcV = .slice a n c) (hde : ∃ a n c, destV = .slice a n c) (proto sh sl dh dl sp dp ty co : Int) (sz dz : Addr) (iif oif : ByteArray) (w : World)
    (h4 : w.cell? ⟨rb, 4, none⟩ = some inV) (h5 : w.cell? ⟨rb, 5, none⟩ = some outV) (h6 : w.cell? ⟨rb, 6, none⟩ = some srcV) (h7 : w.cell? ⟨rb, 7, none⟩ = some destV) (b5 : Bool)
    (K1 : ∀ W, Below w.heap.size w W → Calls Tryd.prog 30 #[inV, .agg (sideV (path iif oif == 2) iif sh sl sz)] W fun e W' => e = .returned (.bool true) ∧ Below W.heap.size W W') (K2 : ∀ W, Below w.heap.size w W → Calls Tryd.prog 30 #[outV, .agg (sideV (path iif oif == 0) oif dh dl dz)] W fun e W' => e = .returned (.bool true) ∧ Below W.heap.size W W') (K3 : ∀ W, Below w.heap.size w W → Calls Tryd.prog 31 #[srcV, .agg #[.int .u64 sh, .int .u64 sl, .pointer (some sz)]] W fun e W' => e = .returned (.bool true) ∧ Below W.heap.size W W') (K4 : ∀ W, Below w.heap.size w W → Calls Tryd.prog 31 #[destV, .agg #[.int .u64 dh, .int .u64 dl, .pointer (some dz)]] W fun e W' => e = .returned (.bool true) ∧ Below W.heap.size W W') (K5 : ∀ W, Below w.heap.size w W → Calls Tryd.prog 32 #[(.pointer (some ⟨rb, 0, none⟩)), .agg (pkt proto sh sl sz dh dl dz sp dp ty co iif oif)] W fun e W' => e = .returned (.bool b5) ∧ Below W.heap.size W W') :
    Calls Tryd.prog 22 #[.pointer (some ⟨rb, 0, none⟩), .agg (pkt proto sh sl sz dh dl dz sp dp ty co iif oif)] w fun e w' => e = .returned (.bool b5) ∧ Below w.heap.size w w' := by
  obtain ⟨ia, il, ic, rfl⟩ := hin
  obtain ⟨oa, ol, oc, rfl⟩ := hou
  obtain ⟨sa, sll, sc, rfl⟩ := hsr
  obtain ⟨da, dll, dc, rfl⟩ := hde
  have HK4 := hid h4
  have HK5 := hid h5
  have HK6 := hid h6
  have HK7 := hid h7
  have HH1 := hid K1
  have HH2 := hid K2
  have HH3 := hid K3
  have HH4 := hid K4
  have HH5 := hid K5
  clear h4 h5 h6 h7 K1 K2 K3 K4 K5
  have hrow := hid (heap_alloc_new w (.cells (pkt proto sh sl sz dh dl dz sp dp ty co iif oif) 35))
  go_enter Tryd.func22, Tryd.ntmps22
  go_wp2_with (first
    | (refine wpList_load_row rfl 35 (.tmp 3) rfl w.heap.size rfl 35 (pkt proto sh sl sz dh dl dz sp dp ty co iif oif) (0, 0) _ hrow.out Tryd.underlying35 rfl size35 ?_)
    | (go_at_call 29; refine (path_any proto sh sl dh dl sp dp ty co sz dz iif oif _).mono ?_; rintro e w2 ⟨rfl, hb2⟩; have HB2 := hid hb2; have hsz2 : w.heap.size + 1 ≤ w2.heap.size := (by simpa using hb2.size); have hsz3 : w.heap.size < w2.heap.size := hsz2; have hp := (hb2.block w.heap.size (by simp)).trans hrow.out; have q11 := cell_of_row w2 w.heap.size 11 _ 35 (0, 0) hp; have q12 := cell_of_row w2 w.heap.size 12 _ 35 (0, 0) hp; have q1 := cell_of_row w2 w.heap.size 1 _ 35 (0, 0) hp; have q2 := cell_of_row w2 w.heap.size 2 _ 35 (0, 0) hp; have q3 := cell_of_row w2 w.heap.size 3 _ 35 (0, 0) hp; have q4 := cell_of_row w2 w.heap.size 4 _ 35 (0, 0) hp; have q5 := cell_of_row w2 w.heap.size 5 _ 35 (0, 0) hp; have q6 := cell_of_row w2 w.heap.size 6 _ 35 (0, 0) hp; have HP2 := hid hp; clear hp hb2; simp only [pkt, List.getElem?_toArray, List.getElem?_cons_zero, List.getElem?_cons_succ] at q1 q2 q3 q4 q5 q6 q11 q12))
  have HM0 : MatIn ((w2.alloc (.cells #[.bool (path iif oif == 2), .string iif, .int .u64 sh, .int .u64 sl, .pointer (some sz)] 82)).alloc (.cells #[.bool (path iif oif == 0), .string oif, .int .u64 dh, .int .u64 dl, .pointer (some dz)] 82)) rb w2.heap.size (w2.heap.size + 1) w.heap.size (.slice ia il ic) (.slice oa ol oc) (.slice sa sll sc) (.slice da dll dc) (sideV (path iif oif == 2) iif sh sl sz) (sideV (path iif oif == 0) oif dh dl dz) (pkt proto sh sl sz dh dl dz sp dp ty co iif oif) := mat_new HB2.out HP2.out HK4.out HK5.out HK6.out HK7.out
  have HBX : Below w.heap.size w ((w2.alloc (.cells #[.bool (path iif oif == 2), .string iif, .int .u64 sh, .int .u64 sl, .pointer (some sz)] 82)).alloc (.cells #[.bool (path iif oif == 0), .string oif, .int .u64 dh, .int .u64 dl, .pointer (some dz)] 82)) := (((Below.refl _ _).alloc (Nat.le_refl _) _).trans (HB2.out.mono (by simp))).alloc (by omega) _ |>.alloc (by simp; omega) _
  clear q1 q2 q3 q4 q5 q6 q11 q12 HB2 HP2 HK4 HK5 HK6 HK7 hrow
  generalize ((w2.alloc (.cells #[.bool (path iif oif == 2), .string iif, .int .u64 sh, .int .u64 sl, .pointer (some sz)] 82)).alloc (.cells #[.bool (path iif oif == 0), .string oif, .int .u64 dh, .int .u64 dl, .pointer (some dz)] 82)) = wx at HM0 HBX ⊢
  have HM := hid (HM0.below (Below.refl _ _).drew)
  have hbw : Below w.heap.size w wx.drew := HBX.drew
  have hsz : w.heap.size ≤ wx.drew.heap.size := hbw.size
  clear HM0 HBX
  refine wp_region_held_drew (S := fun W => Below wx.drew.heap.size wx.drew W) (by kernel_rfl) (Below.refl _ _) (fun hHeld => ?_)
  refine wpAnyH_take (i := 0) (v := ?_) rfl (by kernel_rfl) (by kernel_rfl) (by kernel_rfl) (fun _ _ _ h => h) (Or.inl ⟨by kernel_rfl, ?_⟩) (by assumption) ?_
  rotate_left
  · intro w hSw; go_simp; with_reducible rfl
  try simp (maxSteps := 2000000) only [Act.put, List.getElem_toArray, List.getElem_cons_succ, List.getElem_cons_zero, List.setIfInBounds_toArray, List.set_cons_zero, List.set_cons_succ]
  refine wpAnyH_take (i := 1) (v := ?_) rfl (by kernel_rfl) (by kernel_rfl) (by kernel_rfl) (fun _ _ _ h => h) (Or.inl ⟨by kernel_rfl, ?_⟩) (by assumption) ?_
  rotate_left
  · intro w hSw; go_simp; with_reducible rfl
  try simp (maxSteps := 2000000) only [Act.put, List.getElem_toArray, List.getElem_cons_succ, List.getElem_cons_zero, List.setIfInBounds_toArray, List.set_cons_zero, List.set_cons_succ]
  refine wpAnyH_take (i := 2) (v := ?_) rfl (by kernel_rfl) (by kernel_rfl) (by kernel_rfl) (fun _ _ _ h => h) (Or.inl ⟨by kernel_rfl, ?_⟩) (by assumption) ?_
  rotate_left
  · intro w hSw; go_simp; with_reducible rfl
  try simp (maxSteps := 2000000) only [Act.put, List.getElem_toArray, List.getElem_cons_succ, List.getElem_cons_zero, List.setIfInBounds_toArray, List.set_cons_zero, List.set_cons_succ]
  refine wpAnyH_take (i := 3) (v := ?_) rfl (by kernel_rfl) (by kernel_rfl) (by kernel_rfl) (fun _ _ _ h => h) (Or.inl ⟨by kernel_rfl, ?_⟩) (by assumption) ?_
  rotate_left
  · intro w hSw; have hcc := (HM.out.below hSw).i4; go_simp; with_reducible rfl
  try simp (maxSteps := 2000000) only [Act.put, List.getElem_toArray, List.getElem_cons_succ, List.getElem_cons_zero, List.setIfInBounds_toArray, List.set_cons_zero, List.set_cons_succ]
  refine wpAnyH_take (i := 4) (v := _) rfl (by kernel_rfl) (by kernel_rfl) (by kernel_rfl) (fun _ _ _ h => h) (yieldsIf_load_mid (by kernel_rfl) _ _ rfl _ _ rfl (sideV (path iif oif == 2) iif sh sl sz).toList _ (fun w h => range_row (o := 0) (n := 5) (HM.out.below h).f rfl) Tryd.underlying82 rfl size82) (by assumption) ?_
  try simp (maxSteps := 2000000) only [Act.put, List.getElem_toArray, List.getElem_cons_succ, List.getElem_cons_zero, List.setIfInBounds_toArray, List.set_cons_zero, List.set_cons_succ]
  refine wpAnyH_ready (rs := [5]) (by kernel_rfl) (by simp) ?_
  refine AllReadyH.cons rfl ?_ AllReadyH.nil
  intro K hK
  rw [if_pos (by kernel_rfl)]
  go_simp
  refine (HH1.out _ (hbw.trans (hHeld.mono hsz))).mono ?_
  rintro e w5 ⟨rfl, hb5⟩
  go_wp2_with fail
  refine hK.out _ _ (hHeld.trans (hb5.mono hHeld.size)) (fun hHeld => ?_)
  clear hK K
  try simp (maxSteps := 2000000) only [Act.put, List.getElem_toArray, List.getElem_cons_succ, List.getElem_cons_zero, List.setIfInBounds_toArray, List.set_cons_zero, List.set_cons_succ]
  refine wpAnyH_take (i := 6) (v := ?_) rfl (by kernel_rfl) (by kernel_rfl) (by kernel_rfl) (fun _ _ _ h => h) (Or.inl ⟨by kernel_rfl, ?_⟩) (by assumption) ?_
  rotate_left
  · intro w hSw; go_simp; with_reducible rfl
  try simp (maxSteps := 2000000) only [Act.put, List.getElem_toArray, List.getElem_cons_succ, List.getElem_cons_zero, List.setIfInBounds_toArray, List.set_cons_zero, List.set_cons_succ]
  refine wpAnyH_take (i := 7) (v := ?_) rfl (by kernel_rfl) (by kernel_rfl) (by kernel_rfl) (fun _ _ _ h => h) (Or.inl ⟨by kernel_rfl, ?_⟩) (by assumption) ?_
  rotate_left
  · intro w hSw; go_simp; with_reducible rfl
  try simp (maxSteps := 2000000) only [Act.put, List.getElem_toArray, List.getElem_cons_succ, List.getElem_cons_zero, List.setIfInBounds_toArray, List.set_cons_zero, List.set_cons_succ]
  refine wpAnyH_take (i := 8) (v := ?_) rfl (by kernel_rfl) (by kernel_rfl) (by kernel_rfl) (fun _ _ _ h => h) (Or.inl ⟨by kernel_rfl, ?_⟩) (by assumption) ?_
  rotate_left
  · intro w hSw; go_simp; with_reducible rfl
  try simp (maxSteps := 2000000) only [Act.put, List.getElem_toArray, List.getElem_cons_succ, List.getElem_cons_zero, List.setIfInBounds_toArray, List.set_cons_zero, List.set_cons_succ]
  refine wpAnyH_take (i := 9) (v := ?_) rfl (by kernel_rfl) (by kernel_rfl) (by kernel_rfl) (fun _ _ _ h => h) (Or.inl ⟨by kernel_rfl, ?_⟩) (by assumption) ?_
  rotate_left
  · intro w hSw; go_simp; with_reducible rfl
  try simp (maxSteps := 2000000) only [Act.put, List.getElem_toArray, List.getElem_cons_succ, List.getElem_cons_zero, List.setIfInBounds_toArray, List.set_cons_zero, List.set_cons_succ]
  refine wpAnyH_take (i := 10) (v := ?_) rfl (by kernel_rfl) (by kernel_rfl) (by kernel_rfl) (fun _ _ _ h => h) (Or.inl ⟨by kernel_rfl, ?_⟩) (by assumption) ?_
  rotate_left
  · intro w hSw; have hcc := (HM.out.below hSw).i5; go_simp; with_reducible rfl
  try simp (maxSteps := 2000000) only [Act.put, List.getElem_toArray, List.getElem_cons_succ, List.getElem_cons_zero, List.setIfInBounds_toArray, List.set_cons_zero, List.set_cons_succ]
  refine wpAnyH_take (i := 11) (v := _) rfl (by kernel_rfl) (by kernel_rfl) (by kernel_rfl) (fun _ _ _ h => h) (yieldsIf_load_mid (by kernel_rfl) _ _ rfl _ _ rfl (sideV (path iif oif == 0) oif dh dl dz).toList _ (fun w h => range_row (o := 0) (n := 5) (HM.out.below h).t rfl) Tryd.underlying82 rfl size82) (by assumption) ?_
  try simp (maxSteps := 2000000) only [Act.put, List.getElem_toArray, List.getElem_cons_succ, List.getElem_cons_zero, List.setIfInBounds_toArray, List.set_cons_zero, List.set_cons_succ]
  refine wpAnyH_ready (rs := [12]) (by kernel_rfl) (by simp) ?_
  refine AllReadyH.cons rfl ?_ AllReadyH.nil
  intro K hK
  rw [if_pos (by kernel_rfl)]
  go_simp
  refine (HH2.out _ (hbw.trans (hHeld.mono hsz))).mono ?_
  rintro e w6 ⟨rfl, hb6⟩
  go_wp2_with fail
  refine hK.out _ _ (hHeld.trans (hb6.mono hHeld.size)) (fun hHeld => ?_)
  clear hK K
  try simp (maxSteps := 2000000) only [Act.put, List.getElem_toArray, List.getElem_cons_succ, List.getElem_cons_zero, List.setIfInBounds_toArray, List.set_cons_zero, List.set_cons_succ]
  refine wpAnyH_take (i := 13) (v := ?_) rfl (by kernel_rfl) (by kernel_rfl) (by kernel_rfl) (fun _ _ _ h => h) (Or.inl ⟨by kernel_rfl, ?_⟩) (by assumption) ?_
  rotate_left
  · intro w hSw; go_simp; with_reducible rfl
  try simp (maxSteps := 2000000) only [Act.put, List.getElem_toArray, List.getElem_cons_succ, List.getElem_cons_zero, List.setIfInBounds_toArray, List.set_cons_zero, List.set_cons_succ]
  refine wpAnyH_take (i := 14) (v := ?_) rfl (by kernel_rfl) (by kernel_rfl) (by kernel_rfl) (fun _ _ _ h => h) (Or.inl ⟨by kernel_rfl, ?_⟩) (by assumption) ?_
  rotate_left
  · intro w hSw; go_simp; with_reducible rfl
  try simp (maxSteps := 2000000) only [Act.put, List.getElem_toArray, List.getElem_cons_succ, List.getElem_cons_zero, List.setIfInBounds_toArray, List.set_cons_zero, List.set_cons_succ]
  refine wpAnyH_take (i := 15) (v := ?_) rfl (by kernel_rfl) (by kernel_rfl) (by kernel_rfl) (fun _ _ _ h => h) (Or.inl ⟨by kernel_rfl, ?_⟩) (by assumption) ?_
  rotate_left
  · intro w hSw; go_simp; with_reducible rfl
  try simp (maxSteps := 2000000) only [Act.put, List.getElem_toArray, List.getElem_cons_succ, List.getElem_cons_zero, List.setIfInBounds_toArray, List.set_cons_zero, List.set_cons_succ]
  refine wpAnyH_take (i := 16) (v := ?_) rfl (by kernel_rfl) (by kernel_rfl) (by kernel_rfl) (fun _ _ _ h => h) (Or.inl ⟨by kernel_rfl, ?_⟩) (by assumption) ?_
  rotate_left
  · intro w hSw; go_simp; with_reducible rfl
  try simp (maxSteps := 2000000) only [Act.put, List.getElem_toArray, List.getElem_cons_succ, List.getElem_cons_zero, List.setIfInBounds_toArray, List.set_cons_zero, List.set_cons_succ]
  refine wpAnyH_take (i := 17) (v := ?_) rfl (by kernel_rfl) (by kernel_rfl) (by kernel_rfl) (fun _ _ _ h => h) (Or.inl ⟨by kernel_rfl, ?_⟩) (by assumption) ?_
  rotate_left
  · intro w hSw; go_simp; with_reducible rfl
  try simp (maxSteps := 2000000) only [Act.put, List.getElem_toArray, List.getElem_cons_succ, List.getElem_cons_zero, List.setIfInBounds_toArray, List.set_cons_zero, List.set_cons_succ]
  refine wpAnyH_take (i := 18) (v := ?_) rfl (by kernel_rfl) (by kernel_rfl) (by kernel_rfl) (fun _ _ _ h => h) (Or.inl ⟨by kernel_rfl, ?_⟩) (by assumption) ?_
  rotate_left
  · intro w hSw; have hcc := (HM.out.below hSw).i6; go_simp; with_reducible rfl
  try simp (maxSteps := 2000000) only [Act.put, List.getElem_toArray, List.getElem_cons_succ, List.getElem_cons_zero, List.setIfInBounds_toArray, List.set_cons_zero, List.set_cons_succ]
  refine wpAnyH_take (i := 19) (v := ?_) rfl (by kernel_rfl) (by kernel_rfl) (by kernel_rfl) (fun _ _ _ h => h) (Or.inl ⟨by kernel_rfl, ?_⟩) (by assumption) ?_
  rotate_left
  · intro w hSw; go_simp; with_reducible rfl
  try simp (maxSteps := 2000000) only [Act.put, List.getElem_toArray, List.getElem_cons_succ, List.getElem_cons_zero, List.setIfInBounds_toArray, List.set_cons_zero, List.set_cons_succ]
  refine wpAnyH_take (i := 20) (v := _) rfl (by kernel_rfl) (by kernel_rfl) (by kernel_rfl) (fun _ _ _ h => h) (yieldsIf_load_mid (by kernel_rfl) _ _ rfl _ _ rfl [.int .u64 sh, .int .u64 sl, .pointer (some sz)] _ (fun w h => range_row (o := 1) (n := 3) (HM.out.below h).p rfl) Tryd.underlying32 rfl size32) (by assumption) ?_
  try simp (maxSteps := 2000000) only [Act.put, List.getElem_toArray, List.getElem_cons_succ, List.getElem_cons_zero, List.setIfInBounds_toArray, List.set_cons_zero, List.set_cons_succ]
  refine wpAnyH_ready (rs := [21]) (by kernel_rfl) (by simp) ?_
  refine AllReadyH.cons rfl ?_ AllReadyH.nil
  intro K hK
  rw [if_pos (by kernel_rfl)]
  go_simp
  refine (HH3.out _ (hbw.trans (hHeld.mono hsz))).mono ?_
  rintro e w7 ⟨rfl, hb7⟩
  go_wp2_with fail
  refine hK.out _ _ (hHeld.trans (hb7.mono hHeld.size)) (fun hHeld => ?_)
  clear hK K
  try simp (maxSteps := 2000000) only [Act.put, List.getElem_toArray, List.getElem_cons_succ, List.getElem_cons_zero, List.setIfInBounds_toArray, List.set_cons_zero, List.set_cons_succ]
  refine wpAnyH_take (i := 22) (v := ?_) rfl (by kernel_rfl) (by kernel_rfl) (by kernel_rfl) (fun _ _ _ h => h) (Or.inl ⟨by kernel_rfl, ?_⟩) (by assumption) ?_
  rotate_left
  · intro w hSw; go_simp; with_reducible rfl
  try simp (maxSteps := 2000000) only [Act.put, List.getElem_toArray, List.getElem_cons_succ, List.getElem_cons_zero, List.setIfInBounds_toArray, List.set_cons_zero, List.set_cons_succ]
  refine wpAnyH_take (i := 23) (v := ?_) rfl (by kernel_rfl) (by kernel_rfl) (by kernel_rfl) (fun _ _ _ h => h) (Or.inl ⟨by kernel_rfl, ?_⟩) (by assumption) ?_
  rotate_left
  · intro w hSw; go_simp; with_reducible rfl
  try simp (maxSteps := 2000000) only [Act.put, List.getElem_toArray, List.getElem_cons_succ, List.getElem_cons_zero, List.setIfInBounds_toArray, List.set_cons_zero, List.set_cons_succ]
  refine wpAnyH_take (i := 24) (v := ?_) rfl (by kernel_rfl) (by kernel_rfl) (by kernel_rfl) (fun _ _ _ h => h) (Or.inl ⟨by kernel_rfl, ?_⟩) (by assumption) ?_
  rotate_left
  · intro w hSw; go_simp; with_reducible rfl
  try simp (maxSteps := 2000000) only [Act.put, List.getElem_toArray, List.getElem_cons_succ, List.getElem_cons_zero, List.setIfInBounds_toArray, List.set_cons_zero, List.set_cons_succ]
  refine wpAnyH_take (i := 25) (v := ?_) rfl (by kernel_rfl) (by kernel_rfl) (by kernel_rfl) (fun _ _ _ h => h) (Or.inl ⟨by kernel_rfl, ?_⟩) (by assumption) ?_
  rotate_left
  · intro w hSw; go_simp; with_reducible rfl
  try simp (maxSteps := 2000000) only [Act.put, List.getElem_toArray, List.getElem_cons_succ, List.getElem_cons_zero, List.setIfInBounds_toArray, List.set_cons_zero, List.set_cons_succ]
  refine wpAnyH_take (i := 26) (v := ?_) rfl (by kernel_rfl) (by kernel_rfl) (by kernel_rfl) (fun _ _ _ h => h) (Or.inl ⟨by kernel_rfl, ?_⟩) (by assumption) ?_
  rotate_left
  · intro w hSw; go_simp; with_reducible rfl
  try simp (maxSteps := 2000000) only [Act.put, List.getElem_toArray, List.getElem_cons_succ, List.getElem_cons_zero, List.setIfInBounds_toArray, List.set_cons_zero, List.set_cons_succ]
  refine wpAnyH_take (i := 27) (v := ?_) rfl (by kernel_rfl) (by kernel_rfl) (by kernel_rfl) (fun _ _ _ h => h) (Or.inl ⟨by kernel_rfl, ?_⟩) (by assumption) ?_
  rotate_left
  · intro w hSw; have hcc := (HM.out.below hSw).i7; go_simp; with_reducible rfl
  try simp (maxSteps := 2000000) only [Act.put, List.getElem_toArray, List.getElem_cons_succ, List.getElem_cons_zero, List.setIfInBounds_toArray, List.set_cons_zero, List.set_cons_succ]
  refine wpAnyH_take (i := 28) (v := ?_) rfl (by kernel_rfl) (by kernel_rfl) (by kernel_rfl) (fun _ _ _ h => h) (Or.inl ⟨by kernel_rfl, ?_⟩) (by assumption) ?_
  rotate_left
  · intro w hSw; go_simp; with_reducible rfl
  try simp (maxSteps := 2000000) only [Act.put, List.getElem_toArray, List.getElem_cons_succ, List.getElem_cons_zero, List.setIfInBounds_toArray, List.set_cons_zero, List.set_cons_succ]
  refine wpAnyH_take (i := 29) (v := _) rfl (by kernel_rfl) (by kernel_rfl) (by kernel_rfl) (fun _ _ _ h => h) (yieldsIf_load_mid (by kernel_rfl) _ _ rfl _ _ rfl [.int .u64 dh, .int .u64 dl, .pointer (some dz)] _ (fun w h => range_row (o := 4) (n := 3) (HM.out.below h).p rfl) Tryd.underlying32 rfl size32) (by assumption) ?_
  try simp (maxSteps := 2000000) only [Act.put, List.getElem_toArray, List.getElem_cons_succ, List.getElem_cons_zero, List.setIfInBounds_toArray, List.set_cons_zero, List.set_cons_succ]
  refine wpAnyH_ready (rs := [30]) (by kernel_rfl) (by simp) ?_
  refine AllReadyH.cons rfl ?_ AllReadyH.nil
  intro K hK
  rw [if_pos (by kernel_rfl)]
  go_simp
  refine (HH4.out _ (hbw.trans (hHeld.mono hsz))).mono ?_
  rintro e w8 ⟨rfl, hb8⟩
  go_wp2_with fail
  refine hK.out _ _ (hHeld.trans (hb8.mono hHeld.size)) (fun hHeld => ?_)
  clear hK K
  try simp (maxSteps := 2000000) only [Act.put, List.getElem_toArray, List.getElem_cons_succ, List.getElem_cons_zero, List.setIfInBounds_toArray, List.set_cons_zero, List.set_cons_succ]
  refine wpAnyH_take (i := 31) (v := ?_) rfl (by kernel_rfl) (by kernel_rfl) (by kernel_rfl) (fun _ _ _ h => h) (Or.inl ⟨by kernel_rfl, ?_⟩) (by assumption) ?_
  rotate_left
  · intro w hSw; go_simp; with_reducible rfl
  try simp (maxSteps := 2000000) only [Act.put, List.getElem_toArray, List.getElem_cons_succ, List.getElem_cons_zero, List.setIfInBounds_toArray, List.set_cons_zero, List.set_cons_succ]
  refine wpAnyH_take (i := 32) (v := ?_) rfl (by kernel_rfl) (by kernel_rfl) (by kernel_rfl) (fun _ _ _ h => h) (Or.inl ⟨by kernel_rfl, ?_⟩) (by assumption) ?_
  rotate_left
  · intro w hSw; go_simp; with_reducible rfl
  try simp (maxSteps := 2000000) only [Act.put, List.getElem_toArray, List.getElem_cons_succ, List.getElem_cons_zero, List.setIfInBounds_toArray, List.set_cons_zero, List.set_cons_succ]
  refine wpAnyH_take (i := 33) (v := ?_) rfl (by kernel_rfl) (by kernel_rfl) (by kernel_rfl) (fun _ _ _ h => h) (Or.inl ⟨by kernel_rfl, ?_⟩) (by assumption) ?_
  rotate_left
  · intro w hSw; go_simp; with_reducible rfl
  try simp (maxSteps := 2000000) only [Act.put, List.getElem_toArray, List.getElem_cons_succ, List.getElem_cons_zero, List.setIfInBounds_toArray, List.set_cons_zero, List.set_cons_succ]
  refine wpAnyH_take (i := 34) (v := _) rfl (by kernel_rfl) (by kernel_rfl) (by kernel_rfl) (fun _ _ _ h => h) (yieldsIf_load_mid (by kernel_rfl) _ _ rfl _ _ rfl (pkt proto sh sl sz dh dl dz sp dp ty co iif oif).toList _ (fun w h => range_row (o := 0) (n := 13) (HM.out.below h).p rfl) Tryd.underlying35 rfl size35) (by assumption) ?_
  try simp (maxSteps := 2000000) only [Act.put, List.getElem_toArray, List.getElem_cons_succ, List.getElem_cons_zero, List.setIfInBounds_toArray, List.set_cons_zero, List.set_cons_succ]
  refine wpAnyH_ready (rs := [35]) (by kernel_rfl) (by simp) ?_
  refine AllReadyH.cons rfl ?_ AllReadyH.nil
  intro K hK
  rw [if_pos (by kernel_rfl)]
  go_simp
  refine (HH5.out _ (hbw.trans (hHeld.mono hsz))).mono ?_
  rintro e w9 ⟨rfl, hb9⟩
  go_wp2_with fail
  refine hK.out _ _ (hHeld.trans (hb9.mono hHeld.size)) (fun hHeld => ?_)
  clear hK K
  try simp (maxSteps := 2000000) only [Act.put, List.getElem_toArray, List.getElem_cons_succ, List.getElem_cons_zero, List.setIfInBounds_toArray, List.set_cons_zero, List.set_cons_succ]
  refine wpAnyH_take (i := 36) (v := ?_) rfl (by kernel_rfl) (by kernel_rfl) (by kernel_rfl) (fun _ _ _ h => h) (Or.inl ⟨by kernel_rfl, ?_⟩) (by assumption) ?_
  rotate_left
  · intro w hSw; go_simp; with_reducible rfl
  try simp (maxSteps := 2000000) only [Act.put, List.getElem_toArray, List.getElem_cons_succ, List.getElem_cons_zero, List.setIfInBounds_toArray, List.set_cons_zero, List.set_cons_succ]
  refine wpAnyH_take (i := 37) (v := ?_) rfl (by kernel_rfl) (by kernel_rfl) (by kernel_rfl) (fun _ _ _ h => h) (Or.inl ⟨by kernel_rfl, ?_⟩) (by assumption) ?_
  rotate_left
  · intro w hSw; go_simp; with_reducible rfl
  try simp (maxSteps := 2000000) only [Act.put, List.getElem_toArray, List.getElem_cons_succ, List.getElem_cons_zero, List.setIfInBounds_toArray, List.set_cons_zero, List.set_cons_succ]
  refine wpAnyH_done (by kernel_rfl) ?_ _
  go_wp2
  go_ret
  exact ⟨rfl, hbw.trans (hHeld.mono hsz)⟩
end Go.Proofs.Qxb6615875aDoor
