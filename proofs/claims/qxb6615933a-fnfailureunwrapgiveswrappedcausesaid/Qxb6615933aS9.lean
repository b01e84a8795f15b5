import Derived.Test.Qxb6615933aS8
namespace Go.Proofs.Qxb6615933a
open Go.RowKit
set_option linter.unusedSimpArgs false
set_option linter.unusedVariables false

theorem owns_mono {B B' : Nat} {e : TypeId} {k : Nat} {v : Value} {n : Nat} {xs : List Value} {w : World} (h : w.ownsRow B e k v n xs) (hb : B' ≤ B) : w.ownsRow B' e k v n xs := by
  refine ⟨h.1, h.2.imp id ?_⟩
  rintro ⟨g, cap, cur, e1, e2, e3⟩
  exact ⟨g, cap, cur, e1, Nat.le_trans hb e2, e3⟩
theorem fs_below {w w1 w2 w3 : World} {v : Value} {n : Nat} {fs : Nat → D} (h : Fs w1 w2 v n fs) (hb : Below w2.heap.size w2 w3) (hs : w.heap.size ≤ w1.heap.size) : Fs w w3 v n fs := by
  obtain ⟨g, xs, e, ho, hu⟩ := h
  exact ⟨g, xs, e, owns_mono (owns_below ho hb) hs, hu⟩

set_option maxHeartbeats 4000000 in
theorem list_any (d : D) (ts : Nat → D) (g n B : Nat) (xs : List Value) (w : World) (hm : n ≤ 1048576) (hr : w.ownsRow B 29 3 (.slice (some ⟨g, 0, none⟩) n n) n xs) (hu : Up xs n ts) :
    Calls Try.prog 27 #[.agg (fsv d g n)] w fun e w' => (∃ v, e = .returned v ∧ Fs w w' v (n + 1) (pick d ts)) ∧ Below w.heap.size w w' := by
  have HR := hid hr
  have HU := hid hu
  have HBX := hid (heap_alloc_new w (.cells (fsv d g n) 40))
  clear hr hu
  go_enter Try.func27, Try.ntmps27
  go_wp2_with (first
    | (refine wpList_load_row rfl 40 (.tmp 1) rfl w.heap.size rfl 40 (fsv d g n) (0, 0) _ HBX.out Try.underlying40 rfl size40 ?_)
    | (go_at_call 28; refine (toSlice_any d ts g n B xs _ hm (HR.out.alloc _) HU.out).mono ?_; rintro e w1 ⟨⟨v, rfl, hf⟩, hb⟩))
  go_ret
  exact ⟨⟨_, rfl, fs_below hf (Below.refl _ _) (by simp)⟩, ((Below.refl _ _).alloc (Nat.le_refl _) _).trans (hb.mono (by simp))⟩

set_option maxHeartbeats 4000000 in
theorem zzlist_any (d : D) (ts : Nat → D) (g n B : Nat) (xs : List Value) (w : World) (hm : n ≤ 1048576) (hr : w.ownsRow B 29 3 (.slice (some ⟨g, 0, none⟩) n n) n xs) (hu : Up xs n ts) :
    Calls Try.prog 18 #[.agg (fsv d g n)] w fun e w' => (∃ v, e = .returned v ∧ Fs w w' v (n + 1) (pick d ts)) ∧ Below w.heap.size w w' := by
  have HR := hid hr
  have HU := hid hu
  have HBX := hid (heap_alloc_new w (.cells (fsv d g n) 40))
  clear hr hu
  go_enter Try.func18, Try.ntmps18
  go_wp2_with (first
    | (refine wpList_load_row rfl 40 (.tmp 1) rfl w.heap.size rfl 40 (fsv d g n) (0, 0) _ HBX.out Try.underlying40 rfl size40 ?_)
    | (go_at_call 27; refine (list_any d ts g n B xs _ hm (HR.out.alloc _) HU.out).mono ?_; rintro e w1 ⟨⟨v, rfl, hf⟩, hb⟩))
  go_ret
  exact ⟨⟨_, rfl, fs_below hf (Below.refl _ _) (by simp)⟩, ((Below.refl _ _).alloc (Nat.le_refl _) _).trans (hb.mono (by simp))⟩

/-- A list of errors, each a failure, in a block of the call's own. -/
def Es (w w' : World) (v : Value) (n : Nat) (fs : Nat → D) : Prop := ∃ u zs, v = .slice (some ⟨u, 0, none⟩) n n ∧ w'.ownsRow w.heap.size 27 1 (.slice (some ⟨u, 0, none⟩) n n) n zs ∧ ∀ j, j < n → zs[j]? = some (.iface 29 (.agg (fv (fs j))))
theorem Try.info27 : (Try.prog.info? 27).map (fun i => (i.zero, i.size, i.bytes)) = some (some .nilIface, 1, 16) := by kernel_rfl

set_option maxHeartbeats 4000000 in
theorem unwrap_any (d : D) (ts : Nat → D) (g n B : Nat) (xs : List Value) (w : World) (hm : n ≤ 1048576) (hr : w.ownsRow B 29 3 (.slice (some ⟨g, 0, none⟩) n n) n xs) (hu : Up xs n ts) :
    Calls Try.prog 17 #[.agg (fsv d g n)] w fun e w' => (∃ v, e = .returned v ∧ Es w w' v (n + 1) (pick d ts)) ∧ Below w.heap.size w w' := by
  have HR := hid hr
  have HU := hid hu
  have HBX := hid (heap_alloc_new w (.cells (fsv d g n) 40))
  have HBA := hid (show Below w.heap.size w (w.alloc (.cells (fsv d g n) 40)) from (Below.refl _ _).alloc (Nat.le_refl _) _)
  clear hr hu
  obtain ⟨i0, hi, hz0, hz1, hz2⟩ := info_parts Try.info27
  go_enter Try.func17, Try.ntmps17
  go_wp2_with (first
    | (refine wpList_load_row rfl 40 (.tmp 1) rfl w.heap.size rfl 40 (fsv d g n) (0, 0) _ HBX.out Try.underlying40 rfl size40 ?_)
    | (go_at_call 27; refine (list_any d ts g n B xs _ hm (HR.out.alloc _) HU.out).mono ?_; rintro e w1 ⟨⟨v, rfl, ⟨q, ys, rfl, hq, hy⟩⟩, hb1⟩; have HQ := hid (owns_mono (B' := w.heap.size) hq (by simp)); have HY := hid hy; have HB1 := hid (HBA.out.trans (hb1.mono HBA.out.size)); have hs1 := HB1.out.size; clear hq hy hb1)
    | (at_make; refine wpList_make_full _ rfl _ _ 44 rfl w.heap.size 27 i0 .nilIface 1 Try.underlying44 hi hz0 hz1 _ _ _ _ (n + 1) rfl rfl rfl rfl (by rw [hz2]; omega) (by unfold maxLen; omega) (by omega) ?_; intro w2 hown hgrow; have HO := hid hown; have HG := hid hgrow; clear hown hgrow))
  have hqu : q < w1.heap.size := owns_lt HQ.out
  go_loopw [14] (fun i wr => ∃ k : Nat, k ≤ n + 1 ∧ i = .int .i64 k ∧ wr.ownsRow w.heap.size 29 3 (.slice (some ⟨q, 0, none⟩) (n + 1) (n + 1)) (n + 1) ys ∧ (∃ zs, wr.ownsRow w.heap.size 27 1 (.slice (some ⟨w1.heap.size, 0, none⟩) (n + 1) (n + 1)) (n + 1) zs ∧ ∀ j, j < k → zs[j]? = some (.iface 29 (.agg (fv (pick d ts j))))) ∧ Below w.heap.size w wr) (fun i _ => n + 1 - (intOf i).toNat)
  case atStart =>
    have hb2 := (Below.refl w1.heap.size w1).grown HG.out (Nat.le_refl _) (by simp)
    exact ⟨0, Nat.zero_le _, rfl, owns_below HQ.out hb2, ⟨_, HO.out, fun _ h => absurd h (by omega)⟩, HB1.out.trans (hb2.mono hs1)⟩
  case round =>
    obtain ⟨k, hk, rfl, hqr, ⟨zs, ho, hz⟩, hbel⟩ := hrel
    have HZ := hid hz
    have HWQ := hid hqr
    have HWO := hid ho
    have HB := hid hbel
    clear hz hqr ho hbel HO HG HQ HB1 hz0 hz1 hz2 hi
    by_cases hlt : k < n + 1
    · obtain ⟨y0, y1, y2⟩ := HY.out k hlt
      have c0 := (HWQ.out.cellAt (k * 3) (by omega)).trans y0
      have c1 := (HWQ.out.cellAt (k * 3 + 1) (by omega)).trans y1
      have c2 := (HWQ.out.cellAt (k * 3 + 2) (by omega)).trans y2
      clear y0 y1 y2
      have hzl := HWO.out.1
      obtain ⟨x, hx⟩ : ∃ x, x = pick d ts k := ⟨_, rfl⟩
      rw [← hx] at c0 c1 c2
      have HXE := hid hx
      clear hx
      rcases er_form x with he | ⟨v, he⟩
      all_goals
       rw [he] at c2
       have HE := hid (show fv x = #[.string x.p, .string x.m, _] from by rw [fv, he])
       clear he
       have hol : ∀ o, (wr.alloc o).cell? ⟨w1.heap.size, k, none⟩ = some zs[k] := fun o => ((HWO.out.alloc o).cellAt k (by omega)).trans (List.getElem?_eq_getElem (by omega))
       have hfz : ∀ o, (wr.alloc o).frozen? ⟨w1.heap.size, k, none⟩ = false := fun o => (HWO.out.alloc o).frozenAt k
       go_wp2
       go_roundw
       case rel =>
         obtain ⟨hst, hgr⟩ := (HWO.out.alloc (.cells #[.string x.p, .string x.m, _] 29)).stored k (.iface 29 (.agg #[.string x.p, .string x.m, _]))
         refine ⟨k + 1, by omega, by go_num, (HWQ.out.alloc _).kept hgr (.inr (by simp [Value.ownBlock]; omega)), ⟨_, hst, fun j hj => ?_⟩, (HB.out.alloc HB.out.size _).setCell hs1 _⟩
         by_cases e : j = k
         · subst e; rw [List.getElem?_set_self (by omega), ← HXE.out, HE.out]
         · rw [List.getElem?_set_ne (by omega)]; exact HZ.out j (by omega)
       case measure => simp [intOf]; omega
    · obtain rfl : k = n + 1 := by omega
      go_wp2
      go_ret
      exact ⟨⟨_, rfl, _, _, rfl, HWO.out, HZ.out⟩, HB.out⟩

end Go.Proofs.Qxb6615933a
