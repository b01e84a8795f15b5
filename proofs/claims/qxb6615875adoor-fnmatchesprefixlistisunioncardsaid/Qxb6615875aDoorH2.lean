import Derived.Test.Qxb6615875aDoorH1
namespace Go.Proofs.Qxb6615875aDoor
open Go.RowKit
set_option linter.unusedSimpArgs false
set_option linter.unusedVariables false
attribute [local go_sem ↓] Go.wp_at_zero Go.wp_at_succ

/-- A zone's three cells: its name, its interfaces, no address list. -/
structure ZoneAt (w : World) (zb zo : Nat) (name : ByteArray) (ia : Option Addr) (il ic : Nat) (ss : Nat → ByteArray) : Prop where
  nm : w.cell? ⟨zb, zo, none⟩ = some (.string name)
  ifs : w.cell? ⟨zb, zo + 1, none⟩ = some (.slice ia il ic)
  adr : w.cell? ⟨zb, zo + 2, none⟩ = some (.slice none 0 0)
  strs : Strs w ia il ss
theorem ZoneAt.below {w w' : World} {zb zo : Nat} {name : ByteArray} {ia : Option Addr} {il ic : Nat} {ss : Nat → ByteArray} (h : ZoneAt w zb zo name ia il ic ss) (hb : Below w.heap.size w w') : ZoneAt w' zb zo name ia il ic ss :=
  ⟨(hb.cell (p := ⟨zb, zo, none⟩) (block_lt_of_cell (a := ⟨zb, zo, none⟩) h.nm)).trans h.nm, (hb.cell (p := ⟨zb, zo + 1, none⟩) (block_lt_of_cell (a := ⟨zb, zo + 1, none⟩) h.ifs)).trans h.ifs,
   (hb.cell (p := ⟨zb, zo + 2, none⟩) (block_lt_of_cell (a := ⟨zb, zo + 2, none⟩) h.adr)).trans h.adr, h.strs.below hb⟩
/-- A side in a box of its own. -/
structure SideAt (w : World) (sb : Nat) (host : Bool) (ifc : ByteArray) (hi lo : Int) (z : Addr) : Prop where
  row : w.heap[sb]? = some (.cells (sideV host ifc hi lo z) 82 (0, 0))
theorem SideAt.below {w w' : World} {sb : Nat} {host : Bool} {ifc : ByteArray} {hi lo : Int} {z : Addr} (h : SideAt w sb host ifc hi lo z) (hb : Below w.heap.size w w') : SideAt w' sb host ifc hi lo z :=
  ⟨(hb.block _ (heap_lt h.row)).trans h.row⟩
theorem SideAt.c0 {w : World} {sb : Nat} {host : Bool} {ifc : ByteArray} {hi lo : Int} {z : Addr} (h : SideAt w sb host ifc hi lo z) : w.cell? ⟨sb, 0, none⟩ = some (.bool host) := by
  rw [cell_of_row w sb 0 _ 82 (0, 0) h.row]; rfl
theorem SideAt.c1 {w : World} {sb : Nat} {host : Bool} {ifc : ByteArray} {hi lo : Int} {z : Addr} (h : SideAt w sb host ifc hi lo z) : w.cell? ⟨sb, 1, none⟩ = some (.string ifc) := by
  rw [cell_of_row w sb 1 _ 82 (0, 0) h.row]; rfl
theorem side_new (w : World) (host : Bool) (ifc : ByteArray) (hi lo : Int) (z : Addr) : SideAt (w.alloc (.cells (sideV host ifc hi lo z) 82)) w.heap.size host ifc hi lo z := ⟨heap_alloc_new _ _⟩

set_option maxHeartbeats 1000000 in
theorem covers_host (zb zo : Nat) (name : ByteArray) (host : Bool) (ia : Option Addr) (il ic : Nat) (ss : Nat → ByteArray) (ifc : ByteArray) (hi lo : Int) (z : Addr) (w : World) (hz : ZoneAt w zb zo name ia il ic ss) (h : (isH name || host) = true) :
    Calls Tryd.prog 37 #[.pointer (some ⟨zb, zo, none⟩), .agg (sideV host ifc hi lo z)] w fun e w' => e = .returned (.bool (isH name && host)) ∧ Below w.heap.size w w' := by
  have HB := hid (show Below w.heap.size w (w.alloc (.cells (sideV host ifc hi lo z) 82)) from (Below.refl _ _).alloc (Nat.le_refl _) _)
  have hc0 := (side_new w host ifc hi lo z).c0
  have HZ0 := hid hz
  clear hz
  rcases Bool.eq_false_or_eq_true (isH name) with hh | hh
  · have HH := hid hh
    rw [hh, Bool.true_and]
    clear h hh
    go_enter Tryd.func37, Tryd.ntmps37
    go_wp2_with (go_at_call 42; refine (isHost_any zb zo name _ (HZ0.out.below HB.out).nm).mono ?_; rw [HH.out]; rintro e w2 ⟨rfl, rfl⟩)
    go_ret
    exact ⟨rfl, HB.out⟩
  · have HH := hid hh
    obtain rfl : host = true := by rw [hh] at h; simpa using h
    rw [hh, Bool.false_and]
    clear h hh
    go_enter Tryd.func37, Tryd.ntmps37
    go_wp2_with (go_at_call 42; refine (isHost_any zb zo name _ (HZ0.out.below HB.out).nm).mono ?_; rw [HH.out]; rintro e w2 ⟨rfl, rfl⟩)
    go_ret
    exact ⟨rfl, HB.out⟩

set_option maxRecDepth 100000 in
set_option maxHeartbeats 4000000 in
theorem covers_true (zb zo : Nat) (name : ByteArray) (ia : Option Addr) (il ic : Nat) (ss : Nat → ByteArray) (ifc : ByteArray) (hi lo : Int) (z : Addr) (w : World) (hz : ZoneAt w zb zo name ia il ic ss) (hn : il ≤ 4096) (hh : isH name = false) (hl : listed ia il ss ifc = true) :
    Calls Tryd.prog 37 #[.pointer (some ⟨zb, zo, none⟩), .agg (sideV false ifc hi lo z)] w fun e w' => e = .returned (.bool true) ∧ Below w.heap.size w w' := by
  have HL := hid hl
  have HH := hid hh
  have HZ0 := hid hz
  have hbw : Below w.heap.size w (w.alloc (.cells (sideV false ifc hi lo z) 82)) := (Below.refl _ _).alloc (Nat.le_refl _) _
  have HS0 := hid (side_new w false ifc hi lo z)
  clear hl hh hz
  have hsz : w.heap.size ≤ (w.alloc (.cells (sideV false ifc hi lo z) 82)).heap.size := hbw.size
  have HB := hid hbw
  clear hbw
  have hc0 := HS0.out.c0
  go_enter Tryd.func37, Tryd.ntmps37
  go_wp2_with (go_at_call 42; refine (isHost_any zb zo name _ (HZ0.out.below HB.out).nm).mono ?_; rw [HH.out]; rintro e w2 ⟨rfl, rfl⟩)
  generalize w.alloc (.cells (sideV false ifc hi lo z) 82) = wx at HB HS0 hsz hc0 ⊢
  have HZ := hid ((HZ0.out.below HB.out).below (Below.refl _ _).drew)
  have HS := hid (HS0.out.below (Below.refl _ _).drew)
  have hbw := HB.out.drew
  clear HZ0 HS0 hc0
  refine wp_region_held_drew (S := fun W => Below wx.drew.heap.size wx.drew W) (by kernel_rfl) (Below.refl _ _) (fun hHeld => ?_)
  refine wpAnyH_take (i := 0) (v := ?_) rfl (by kernel_rfl) (by kernel_rfl) (by kernel_rfl) (fun _ _ _ h => h) (Or.inl ⟨by kernel_rfl, ?_⟩) (by assumption) ?_
  rotate_left
  · intro w hSw; go_simp; with_reducible rfl
  try simp (maxSteps := 2000000) only [Act.put, List.getElem_toArray, List.getElem_cons_succ, List.getElem_cons_zero, List.setIfInBounds_toArray, List.set_cons_zero, List.set_cons_succ]
  refine wpAnyH_take (i := 1) (v := ?_) rfl (by kernel_rfl) (by kernel_rfl) (by kernel_rfl) (fun _ _ _ h => h) (Or.inl ⟨by kernel_rfl, ?_⟩) (by assumption) ?_
  rotate_left
  · intro w hSw; go_simp; with_reducible rfl
  try simp (maxSteps := 2000000) only [Act.put, List.getElem_toArray, List.getElem_cons_succ, List.getElem_cons_zero, List.setIfInBounds_toArray, List.set_cons_zero, List.set_cons_succ]
  refine wpAnyH_take (i := 2) (v := ?_) rfl (by kernel_rfl) (by kernel_rfl) (by kernel_rfl) (fun _ _ _ h => h) (Or.inl ⟨by kernel_rfl, ?_⟩) (by assumption) ?_
  rotate_left
  · intro w hSw; go_simp; with_reducible rfl
  try simp (maxSteps := 2000000) only [Act.put, List.getElem_toArray, List.getElem_cons_succ, List.getElem_cons_zero, List.setIfInBounds_toArray, List.set_cons_zero, List.set_cons_succ]
  refine wpAnyH_take (i := 3) (v := ?_) rfl (by kernel_rfl) (by kernel_rfl) (by kernel_rfl) (fun _ _ _ h => h) (Or.inl ⟨by kernel_rfl, ?_⟩) (by assumption) ?_
  rotate_left
  · intro w hSw; have hcc := (HZ.out.below hSw).ifs; go_simp; with_reducible rfl
  try simp (maxSteps := 2000000) only [Act.put, List.getElem_toArray, List.getElem_cons_succ, List.getElem_cons_zero, List.setIfInBounds_toArray, List.set_cons_zero, List.set_cons_succ]
  refine wpAnyH_take (i := 4) (v := ?_) rfl (by kernel_rfl) (by kernel_rfl) (by kernel_rfl) (fun _ _ _ h => h) (Or.inl ⟨by kernel_rfl, ?_⟩) (by assumption) ?_
  rotate_left
  · intro w hSw; go_simp; with_reducible rfl
  try simp (maxSteps := 2000000) only [Act.put, List.getElem_toArray, List.getElem_cons_succ, List.getElem_cons_zero, List.setIfInBounds_toArray, List.set_cons_zero, List.set_cons_succ]
  refine wpAnyH_take (i := 5) (v := ?_) rfl (by kernel_rfl) (by kernel_rfl) (by kernel_rfl) (fun _ _ _ h => h) (Or.inl ⟨by kernel_rfl, ?_⟩) (by assumption) ?_
  rotate_left
  · intro w hSw; have hcc := (HS.out.below hSw).c1; go_simp; with_reducible rfl
  try simp (maxSteps := 2000000) only [Act.put, List.getElem_toArray, List.getElem_cons_succ, List.getElem_cons_zero, List.setIfInBounds_toArray, List.set_cons_zero, List.set_cons_succ]
  refine wpAnyH_ready (rs := [6]) (by kernel_rfl) (by simp) ?_
  refine AllReadyH.cons rfl ?_ AllReadyH.nil
  intro K hK
  rw [if_pos (by kernel_rfl)]
  go_simp
  refine (inlist_any ia il ic ss ifc _ ((HZ.out.below hHeld).strs) hn).mono ?_
  rw [HL.out]
  rintro e w5 ⟨rfl, rfl⟩
  go_wp2_with fail
  refine hK.out _ _ hHeld (fun hHeld => ?_)
  clear hK K
  try simp (maxSteps := 2000000) only [Act.put, List.getElem_toArray, List.getElem_cons_succ, List.getElem_cons_zero, List.setIfInBounds_toArray, List.set_cons_zero, List.set_cons_succ]
  refine wpAnyH_take (i := 7) (v := ?_) rfl (by kernel_rfl) (by kernel_rfl) (by kernel_rfl) (fun _ _ _ h => h) (Or.inl ⟨by kernel_rfl, ?_⟩) (by assumption) ?_
  rotate_left
  · intro w hSw; go_simp; with_reducible rfl
  try simp (maxSteps := 2000000) only [Act.put, List.getElem_toArray, List.getElem_cons_succ, List.getElem_cons_zero, List.setIfInBounds_toArray, List.set_cons_zero, List.set_cons_succ]
  refine wpAnyH_take (i := 8) (v := ?_) rfl (by kernel_rfl) (by kernel_rfl) (by kernel_rfl) (fun _ _ _ h => h) (Or.inl ⟨by kernel_rfl, ?_⟩) (by assumption) ?_
  rotate_left
  · intro w hSw; go_simp; with_reducible rfl
  try simp (maxSteps := 2000000) only [Act.put, List.getElem_toArray, List.getElem_cons_succ, List.getElem_cons_zero, List.setIfInBounds_toArray, List.set_cons_zero, List.set_cons_succ]
  refine wpAnyH_take (i := 9) (v := ?_) rfl (by kernel_rfl) (by kernel_rfl) (by kernel_rfl) (fun _ _ _ h => h) (Or.inl ⟨by kernel_rfl, ?_⟩) (by assumption) ?_
  rotate_left
  · intro w hSw; go_simp; with_reducible rfl
  try simp (maxSteps := 2000000) only [Act.put, List.getElem_toArray, List.getElem_cons_succ, List.getElem_cons_zero, List.setIfInBounds_toArray, List.set_cons_zero, List.set_cons_succ]
  refine wpAnyH_take (i := 10) (v := ?_) rfl (by kernel_rfl) (by kernel_rfl) (by kernel_rfl) (fun _ _ _ h => h) (Or.inl ⟨by kernel_rfl, ?_⟩) (by assumption) ?_
  rotate_left
  · intro w hSw; go_simp; with_reducible rfl
  try simp (maxSteps := 2000000) only [Act.put, List.getElem_toArray, List.getElem_cons_succ, List.getElem_cons_zero, List.setIfInBounds_toArray, List.set_cons_zero, List.set_cons_succ]
  refine wpAnyH_take (i := 11) (v := ?_) rfl (by kernel_rfl) (by kernel_rfl) (by kernel_rfl) (fun _ _ _ h => h) (Or.inl ⟨by kernel_rfl, ?_⟩) (by assumption) ?_
  rotate_left
  · intro w hSw; have hcc := (HZ.out.below hSw).adr; go_simp; with_reducible rfl
  try simp (maxSteps := 2000000) only [Act.put, List.getElem_toArray, List.getElem_cons_succ, List.getElem_cons_zero, List.setIfInBounds_toArray, List.set_cons_zero, List.set_cons_succ]
  refine wpAnyH_take (i := 12) (v := ?_) rfl (by kernel_rfl) (by kernel_rfl) (by kernel_rfl) (fun _ _ _ h => h) (Or.inl ⟨by kernel_rfl, ?_⟩) (by assumption) ?_
  rotate_left
  · intro w hSw; go_simp; with_reducible rfl
  try simp (maxSteps := 2000000) only [Act.put, List.getElem_toArray, List.getElem_cons_succ, List.getElem_cons_zero, List.setIfInBounds_toArray, List.set_cons_zero, List.set_cons_succ]
  refine wpAnyH_take (i := 13) (v := _) rfl (by kernel_rfl) (by kernel_rfl) (by kernel_rfl) (fun _ _ _ h => h) (yieldsIf_load_mid (by kernel_rfl) _ _ rfl _ _ rfl [.int .u64 hi, .int .u64 lo, .pointer (some z)] _ (fun w hSw => range_row (o := 2) (n := 3) (HS.out.below hSw).row rfl) Tryd.underlying32 rfl size32) (by assumption) ?_
  try simp (maxSteps := 2000000) only [Act.put, List.getElem_toArray, List.getElem_cons_succ, List.getElem_cons_zero, List.setIfInBounds_toArray, List.set_cons_zero, List.set_cons_succ]
  refine wpAnyH_ready (rs := [14]) (by kernel_rfl) (by simp) ?_
  refine AllReadyH.cons rfl ?_ AllReadyH.nil
  intro K hK
  rw [if_pos (by kernel_rfl)]
  go_simp
  refine (prefixes_nil hi lo z _).mono ?_
  rintro e w6 ⟨rfl, hb6⟩
  go_wp2_with fail
  refine hK.out _ _ (hHeld.trans (hb6.mono hHeld.size)) (fun hHeld => ?_)
  clear hK K
  try simp (maxSteps := 2000000) only [Act.put, List.getElem_toArray, List.getElem_cons_succ, List.getElem_cons_zero, List.setIfInBounds_toArray, List.set_cons_zero, List.set_cons_succ]
  refine wpAnyH_take (i := 15) (v := ?_) rfl (by kernel_rfl) (by kernel_rfl) (by kernel_rfl) (fun _ _ _ h => h) (Or.inl ⟨by kernel_rfl, ?_⟩) (by assumption) ?_
  rotate_left
  · intro w hSw; go_simp; with_reducible rfl
  try simp (maxSteps := 2000000) only [Act.put, List.getElem_toArray, List.getElem_cons_succ, List.getElem_cons_zero, List.setIfInBounds_toArray, List.set_cons_zero, List.set_cons_succ]
  refine wpAnyH_take (i := 16) (v := ?_) rfl (by kernel_rfl) (by kernel_rfl) (by kernel_rfl) (fun _ _ _ h => h) (Or.inl ⟨by kernel_rfl, ?_⟩) (by assumption) ?_
  rotate_left
  · intro w hSw; go_simp; with_reducible rfl
  try simp (maxSteps := 2000000) only [Act.put, List.getElem_toArray, List.getElem_cons_succ, List.getElem_cons_zero, List.setIfInBounds_toArray, List.set_cons_zero, List.set_cons_succ]
  refine wpAnyH_done (by kernel_rfl) ?_ _
  go_wp2
  go_ret
  exact ⟨rfl, hbw.trans (hHeld.mono hsz)⟩

set_option maxRecDepth 100000 in
set_option maxHeartbeats 4000000 in
theorem covers_false (zb zo : Nat) (name : ByteArray) (ia : Option Addr) (il ic : Nat) (ss : Nat → ByteArray) (ifc : ByteArray) (hi lo : Int) (z : Addr) (w : World) (hz : ZoneAt w zb zo name ia il ic ss) (hn : il ≤ 4096) (hh : isH name = false) (hl : listed ia il ss ifc = false) :
    Calls Tryd.prog 37 #[.pointer (some ⟨zb, zo, none⟩), .agg (sideV false ifc hi lo z)] w fun e w' => e = .returned (.bool false) ∧ Below w.heap.size w w' := by
  have HL := hid hl
  have HH := hid hh
  have HZ0 := hid hz
  have hbw : Below w.heap.size w (w.alloc (.cells (sideV false ifc hi lo z) 82)) := (Below.refl _ _).alloc (Nat.le_refl _) _
  have HS0 := hid (side_new w false ifc hi lo z)
  clear hl hh hz
  have hsz : w.heap.size ≤ (w.alloc (.cells (sideV false ifc hi lo z) 82)).heap.size := hbw.size
  have HB := hid hbw
  clear hbw
  have hc0 := HS0.out.c0
  go_enter Tryd.func37, Tryd.ntmps37
  go_wp2_with (go_at_call 42; refine (isHost_any zb zo name _ (HZ0.out.below HB.out).nm).mono ?_; rw [HH.out]; rintro e w2 ⟨rfl, rfl⟩)
  generalize w.alloc (.cells (sideV false ifc hi lo z) 82) = wx at HB HS0 hsz hc0 ⊢
  have HZ := hid ((HZ0.out.below HB.out).below (Below.refl _ _).drew)
  have HS := hid (HS0.out.below (Below.refl _ _).drew)
  have hbw := HB.out.drew
  clear HZ0 HS0 hc0
  refine wp_region_held_drew (S := fun W => Below wx.drew.heap.size wx.drew W) (by kernel_rfl) (Below.refl _ _) (fun hHeld => ?_)
  refine wpAnyH_take (i := 0) (v := ?_) rfl (by kernel_rfl) (by kernel_rfl) (by kernel_rfl) (fun _ _ _ h => h) (Or.inl ⟨by kernel_rfl, ?_⟩) (by assumption) ?_
  rotate_left
  · intro w hSw; go_simp; with_reducible rfl
  try simp (maxSteps := 2000000) only [Act.put, List.getElem_toArray, List.getElem_cons_succ, List.getElem_cons_zero, List.setIfInBounds_toArray, List.set_cons_zero, List.set_cons_succ]
  refine wpAnyH_take (i := 1) (v := ?_) rfl (by kernel_rfl) (by kernel_rfl) (by kernel_rfl) (fun _ _ _ h => h) (Or.inl ⟨by kernel_rfl, ?_⟩) (by assumption) ?_
  rotate_left
  · intro w hSw; go_simp; with_reducible rfl
  try simp (maxSteps := 2000000) only [Act.put, List.getElem_toArray, List.getElem_cons_succ, List.getElem_cons_zero, List.setIfInBounds_toArray, List.set_cons_zero, List.set_cons_succ]
  refine wpAnyH_take (i := 2) (v := ?_) rfl (by kernel_rfl) (by kernel_rfl) (by kernel_rfl) (fun _ _ _ h => h) (Or.inl ⟨by kernel_rfl, ?_⟩) (by assumption) ?_
  rotate_left
  · intro w hSw; go_simp; with_reducible rfl
  try simp (maxSteps := 2000000) only [Act.put, List.getElem_toArray, List.getElem_cons_succ, List.getElem_cons_zero, List.setIfInBounds_toArray, List.set_cons_zero, List.set_cons_succ]
  refine wpAnyH_take (i := 3) (v := ?_) rfl (by kernel_rfl) (by kernel_rfl) (by kernel_rfl) (fun _ _ _ h => h) (Or.inl ⟨by kernel_rfl, ?_⟩) (by assumption) ?_
  rotate_left
  · intro w hSw; have hcc := (HZ.out.below hSw).ifs; go_simp; with_reducible rfl
  try simp (maxSteps := 2000000) only [Act.put, List.getElem_toArray, List.getElem_cons_succ, List.getElem_cons_zero, List.setIfInBounds_toArray, List.set_cons_zero, List.set_cons_succ]
  refine wpAnyH_take (i := 4) (v := ?_) rfl (by kernel_rfl) (by kernel_rfl) (by kernel_rfl) (fun _ _ _ h => h) (Or.inl ⟨by kernel_rfl, ?_⟩) (by assumption) ?_
  rotate_left
  · intro w hSw; go_simp; with_reducible rfl
  try simp (maxSteps := 2000000) only [Act.put, List.getElem_toArray, List.getElem_cons_succ, List.getElem_cons_zero, List.setIfInBounds_toArray, List.set_cons_zero, List.set_cons_succ]
  refine wpAnyH_take (i := 5) (v := ?_) rfl (by kernel_rfl) (by kernel_rfl) (by kernel_rfl) (fun _ _ _ h => h) (Or.inl ⟨by kernel_rfl, ?_⟩) (by assumption) ?_
  rotate_left
  · intro w hSw; have hcc := (HS.out.below hSw).c1; go_simp; with_reducible rfl
  try simp (maxSteps := 2000000) only [Act.put, List.getElem_toArray, List.getElem_cons_succ, List.getElem_cons_zero, List.setIfInBounds_toArray, List.set_cons_zero, List.set_cons_succ]
  refine wpAnyH_ready (rs := [6]) (by kernel_rfl) (by simp) ?_
  refine AllReadyH.cons rfl ?_ AllReadyH.nil
  intro K hK
  rw [if_pos (by kernel_rfl)]
  go_simp
  refine (inlist_any ia il ic ss ifc _ ((HZ.out.below hHeld).strs) hn).mono ?_
  rw [HL.out]
  rintro e w5 ⟨rfl, rfl⟩
  go_wp2_with fail
  refine hK.out _ _ hHeld (fun hHeld => ?_)
  clear hK K
  try simp (maxSteps := 2000000) only [Act.put, List.getElem_toArray, List.getElem_cons_succ, List.getElem_cons_zero, List.setIfInBounds_toArray, List.set_cons_zero, List.set_cons_succ]
  refine wpAnyH_take (i := 7) (v := ?_) rfl (by kernel_rfl) (by kernel_rfl) (by kernel_rfl) (fun _ _ _ h => h) (Or.inl ⟨by kernel_rfl, ?_⟩) (by assumption) ?_
  rotate_left
  · intro w hSw; go_simp; with_reducible rfl
  try simp (maxSteps := 2000000) only [Act.put, List.getElem_toArray, List.getElem_cons_succ, List.getElem_cons_zero, List.setIfInBounds_toArray, List.set_cons_zero, List.set_cons_succ]
  refine wpAnyH_take (i := 8) (v := undef) rfl (by kernel_rfl) (by kernel_rfl) (by kernel_rfl) (fun _ _ _ h => h) (Or.inr ⟨by kernel_rfl, rfl⟩) (by assumption) ?_
  try simp (maxSteps := 2000000) only [Act.put, List.getElem_toArray, List.getElem_cons_succ, List.getElem_cons_zero, List.setIfInBounds_toArray, List.set_cons_zero, List.set_cons_succ]
  refine wpAnyH_take (i := 9) (v := undef) rfl (by kernel_rfl) (by kernel_rfl) (by kernel_rfl) (fun _ _ _ h => h) (Or.inr ⟨by kernel_rfl, rfl⟩) (by assumption) ?_
  try simp (maxSteps := 2000000) only [Act.put, List.getElem_toArray, List.getElem_cons_succ, List.getElem_cons_zero, List.setIfInBounds_toArray, List.set_cons_zero, List.set_cons_succ]
  refine wpAnyH_take (i := 10) (v := undef) rfl (by kernel_rfl) (by kernel_rfl) (by kernel_rfl) (fun _ _ _ h => h) (Or.inr ⟨by kernel_rfl, rfl⟩) (by assumption) ?_
  try simp (maxSteps := 2000000) only [Act.put, List.getElem_toArray, List.getElem_cons_succ, List.getElem_cons_zero, List.setIfInBounds_toArray, List.set_cons_zero, List.set_cons_succ]
  refine wpAnyH_take (i := 11) (v := undef) rfl (by kernel_rfl) (by kernel_rfl) (by kernel_rfl) (fun _ _ _ h => h) (Or.inr ⟨by kernel_rfl, rfl⟩) (by assumption) ?_
  try simp (maxSteps := 2000000) only [Act.put, List.getElem_toArray, List.getElem_cons_succ, List.getElem_cons_zero, List.setIfInBounds_toArray, List.set_cons_zero, List.set_cons_succ]
  refine wpAnyH_take (i := 12) (v := undef) rfl (by kernel_rfl) (by kernel_rfl) (by kernel_rfl) (fun _ _ _ h => h) (Or.inr ⟨by kernel_rfl, rfl⟩) (by assumption) ?_
  try simp (maxSteps := 2000000) only [Act.put, List.getElem_toArray, List.getElem_cons_succ, List.getElem_cons_zero, List.setIfInBounds_toArray, List.set_cons_zero, List.set_cons_succ]
  refine wpAnyH_take (i := 13) (v := undef) rfl (by kernel_rfl) (by kernel_rfl) (by kernel_rfl) (fun _ _ _ h => h) (Or.inr ⟨by kernel_rfl, rfl⟩) (by assumption) ?_
  try simp (maxSteps := 2000000) only [Act.put, List.getElem_toArray, List.getElem_cons_succ, List.getElem_cons_zero, List.setIfInBounds_toArray, List.set_cons_zero, List.set_cons_succ]
  refine wpAnyH_take (i := 14) (v := undef) rfl (by kernel_rfl) (by kernel_rfl) (by kernel_rfl) (fun _ _ _ h => h) (Or.inr ⟨by kernel_rfl, rfl⟩) (by assumption) ?_
  try simp (maxSteps := 2000000) only [Act.put, List.getElem_toArray, List.getElem_cons_succ, List.getElem_cons_zero, List.setIfInBounds_toArray, List.set_cons_zero, List.set_cons_succ]
  refine wpAnyH_take (i := 15) (v := ?_) rfl (by kernel_rfl) (by kernel_rfl) (by kernel_rfl) (fun _ _ _ h => h) (Or.inl ⟨by kernel_rfl, ?_⟩) (by assumption) ?_
  rotate_left
  · intro w hSw; go_simp; with_reducible rfl
  try simp (maxSteps := 2000000) only [Act.put, List.getElem_toArray, List.getElem_cons_succ, List.getElem_cons_zero, List.setIfInBounds_toArray, List.set_cons_zero, List.set_cons_succ]
  refine wpAnyH_take (i := 16) (v := ?_) rfl (by kernel_rfl) (by kernel_rfl) (by kernel_rfl) (fun _ _ _ h => h) (Or.inl ⟨by kernel_rfl, ?_⟩) (by assumption) ?_
  rotate_left
  · intro w hSw; go_simp; with_reducible rfl
  try simp (maxSteps := 2000000) only [Act.put, List.getElem_toArray, List.getElem_cons_succ, List.getElem_cons_zero, List.setIfInBounds_toArray, List.set_cons_zero, List.set_cons_succ]
  refine wpAnyH_done (by kernel_rfl) ?_ _
  go_wp2
  go_ret
  exact ⟨rfl, hbw.trans (hHeld.mono hsz)⟩

/-- What a zone covers. -/
def cov (name : ByteArray) (ia : Option Addr) (il : Nat) (ss : Nat → ByteArray) (host : Bool) (ifc : ByteArray) : Bool := if isH name || host then isH name && host else listed ia il ss ifc
theorem covers_any (zb zo : Nat) (name : ByteArray) (host : Bool) (ia : Option Addr) (il ic : Nat) (ss : Nat → ByteArray) (ifc : ByteArray) (hi lo : Int) (z : Addr) (w : World) (hz : ZoneAt w zb zo name ia il ic ss) (hn : il ≤ 4096) :
    Calls Tryd.prog 37 #[.pointer (some ⟨zb, zo, none⟩), .agg (sideV host ifc hi lo z)] w fun e w' => e = .returned (.bool (cov name ia il ss host ifc)) ∧ Below w.heap.size w w' := by
  unfold cov
  split
  · rename_i h
    exact covers_host zb zo name host ia il ic ss ifc hi lo z w hz h
  · rename_i h
    have h1 : isH name = false := by cases e : isH name <;> simp_all
    have h2 : host = false := by cases host <;> simp_all
    subst h2
    cases hl : listed ia il ss ifc
    · exact covers_false zb zo name ia il ic ss ifc hi lo z w hz hn h1 hl
    · exact covers_true zb zo name ia il ic ss ifc hi lo z w hz hn h1 hl
end Go.Proofs.Qxb6615875aDoor
