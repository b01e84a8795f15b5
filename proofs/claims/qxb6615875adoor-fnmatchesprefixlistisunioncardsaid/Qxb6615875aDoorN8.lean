import Derived.Test.Qxb6615875aDoorN7
namespace Go.Proofs.Qxb6615875aDoor
open Go.RowKit
set_option linter.unusedSimpArgs false
set_option linter.unusedVariables false
attribute [local go_sem ↓] Go.wp_at_zero Go.wp_at_succ

theorem info75 : (Tryd.prog.info? 75).map (fun i => (i.zero, i.size, i.bytes)) = some (some (.agg #[.int .u64 0, .int .u64 0, .pointer none, .int .u8 0]), 4, 32) := by kernel_rfl
theorem pofx_any (x : LP) (p4 p6 : Addr) (w : World) (hz : Z3 w p4 p6) : Calls Tryd.prog 24 #[.agg x.v] w fun e w' => e = .returned (.agg #[.int .u64 (ahi x.is4 x.b), .int .u64 (alo x.is4 x.b), .pointer (some (zp p4 p6 x.is4)), .int .u8 (bpo x.is4 x.n)]) ∧ Below w.heap.size w w' := pof_any x.is4 x.b x.n p4 p6 w hz
theorem new_cells (W : World) (C : Array Value) (t : TypeId) : ∀ j u, C.toList[j]? = some u → (W.alloc (.cells C t)).cell? ((⟨W.heap.size, 0, none⟩ : Addr).add j) = some u := fun j u hj => by
  rw [Addr.add_mid, Nat.zero_add, cell_of_row _ _ j _ t (0, 0) (heap_alloc_new _ _)]
  simpa using hj
theorem pfv_one (p4 p6 : Addr) (x : LP) : ∀ u ∈ (pfv p4 p6 x).toList, u.oneCell' = true := by simp [pfv, Value.oneCell']

set_option maxHeartbeats 2000000 in
theorem zzmake_any (n : Nat) (hm : n ≤ 5000) (w : World) : Calls Tryd.prog 23 #[.int .i64 n] w fun e w' => e = .returned (.slice (some ⟨w.heap.size, 0, none⟩) 0 n) ∧ w'.ownsRow w.heap.size 75 4 (.slice (some ⟨w.heap.size, 0, none⟩) 0 n) 0 [] ∧ Below w.heap.size w w' := by
  obtain ⟨i0, hi, hz0, hz1, hz2⟩ := info_parts info75
  go_enter Tryd.func23, Tryd.ntmps23
  go_wp2_with (at_make; refine wpList_make_own _ rfl _ _ 48 rfl w.heap.size 75 i0 _ 4 Tryd.underlying48 hi hz0 hz1 _ _ _ n rfl rfl rfl (by rw [hz2]; omega) (by unfold maxLen; omega) (Nat.le_refl _) ?_; intro w1 hown hgrow)
  go_ret
  exact ⟨rfl, hown, (Below.refl _ _).grown hgrow (Nat.le_refl _) (by simp)⟩

set_option maxRecDepth 100000 in
set_option maxHeartbeats 2000000 in
theorem zzbuild_any (ad : Addr) (n c : Nat) (ps : Nat → LP) (p4 p6 : Addr) (w : World) (hz : Z3 w p4 p6) (hm : n ≤ 5000) (hl : Lst w (some ad) n ps) :
    Calls Tryd.prog 13 #[.slice (some ad) n c] w fun e w' => (∃ q xs, e = .returned (.slice (some ⟨q, 0, none⟩) n n) ∧ w'.ownsRow w.heap.size 75 4 (.slice (some ⟨q, 0, none⟩) n n) n xs ∧ PUp p4 p6 xs n ps) ∧ Below w.heap.size w w' := by
  obtain ⟨i0, hi, hz0, hz1, hz2⟩ := info_parts info75
  have hn := fun w => Lib.run_eql_slice_nil (P := Tryd.prog) w 53 55 (some ad) n c 0 0 Tryd.underlying53
  have HL := hid hl
  have HZ := hid hz
  clear hl hz
  go_enter Tryd.func13, Tryd.ntmps13
  go_wp2_with (go_at_call 23; refine (zzmake_any n hm _).mono ?_; rintro e w1 ⟨rfl, hown, hb1⟩; have HO := hid hown; have HB1 := hid hb1; clear hown hb1)
  go_loopw [3, 4] (fun o i wr => ∃ k : Nat, k ≤ n ∧ i = .int .i64 k ∧ o = .slice (some ⟨w.heap.size, 0, none⟩) k n ∧ (∃ xs, wr.ownsRow w.heap.size 75 4 (.slice (some ⟨w.heap.size, 0, none⟩) k n) k xs ∧ PUp p4 p6 xs k ps) ∧ Below w.heap.size w wr) (fun _ i _ => n - (intOf i).toNat)
  case atStart => exact ⟨0, Nat.zero_le _, rfl, rfl, ⟨_, HO.out, fun _ h => absurd h (by omega)⟩, HB1.out⟩
  case round =>
    clear HO HB1 hn
    obtain ⟨k, hk, rfl, rfl, ⟨xs, ho, hx⟩, hbr⟩ := hrel
    have HU := hid hx
    have HO := hid ho
    have HB := hid hbr
    clear hx ho hbr
    by_cases hlt : k < n
    · obtain ⟨g, off, e, hx⟩ := (HL.out.below HB.out) k hlt
      obtain rfl := Option.some.inj e
      clear e
      obtain ⟨x, hxe⟩ : ∃ x, ps k = x := ⟨_, rfl⟩
      rw [hxe] at hx
      have HX := hid hx
      have HXE := hid hxe
      clear hx hxe
      go_wp2_with (first
        | (refine wpList_load_mid rfl 55 (.tmp 19) rfl g (off + k * 18) rfl x.v.toList _ HX.out Tryd.underlying55 rfl sz55 ?_)
        | (go_at_call 24; refine (pofx_any x p4 p6 _ (HZ.out.below HB.out)).mono ?_; rintro e w3 ⟨rfl, hb3⟩; have HO3 := hid (owns_below4 HO.out hb3); have HB3 := hid (HB.out.trans (hb3.mono HB.out.size)); clear hb3)
        | (at_builtin; refine wpList_append_fits _ rfl _ _ 48 rfl w.heap.size 75 i0 4 Tryd.underlying48 hi hz1 w.heap.size k n xs rfl (HO3.out.alloc _) ⟨w3.heap.size, 0, none⟩ 1 1 (pfv p4 p6 x).toList rfl rfl (new_cells w3 (pfv p4 p6 x) 75) (pfv_one p4 p6 x) (by omega) ?_; intro w4 hown4 hgrow4; have HO4 := hid hown4; have HG4 := hid hgrow4; clear hown4 hgrow4))
      go_roundw
      case rel => exact ⟨k + 1, by omega, by go_num, rfl, ⟨_, HO4.out, by rw [← HXE.out]; exact HU.out.next HO.out.1⟩, (HB3.out.alloc HB3.out.size _).grown HG4.out (by have := HB3.out.size; simp; omega) (fun j e => by cases e; exact Nat.le_refl _)⟩
      case measure => simp [intOf]; omega
    · obtain rfl : k = n := by omega
      go_wp2
      go_ret
      exact ⟨⟨_, _, rfl, HO.out, HU.out⟩, HB.out⟩

set_option maxHeartbeats 1000000 in
theorem zzbuild_nil (w : World) : Calls Tryd.prog 13 #[.slice none 0 0] w fun e w' => e = .returned (.slice none 0 0) ∧ Below w.heap.size w w' := by
  have hn := fun w => Lib.run_eql_slice_nil (P := Tryd.prog) w 53 55 none 0 0 0 0 Tryd.underlying53
  go_enter Tryd.func13, Tryd.ntmps13
  go_wp2
  go_ret
  exact ⟨rfl, Below.refl _ _⟩
end Go.Proofs.Qxb6615875aDoor
