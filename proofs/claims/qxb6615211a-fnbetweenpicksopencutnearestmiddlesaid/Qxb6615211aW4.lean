import Derived.Test.Qxb6615211aW3
import Derived.WalkSpells
namespace Go.Proofs.Qxb6615211a
open Go.RowKit
open Plain

theorem Try.info4 : (Try.prog.info? 4).map (fun i => (i.zero, i.size, i.bytes)) = some (some (.bool false), 1, 1) := by kernel_rfl

theorem owns_lt {w : World} {base : Nat} {e : TypeId} {size n g cap : Nat} {xs : List Value} (h : w.ownsRow base e size (.slice (some ⟨g, 0, none⟩) n cap) n xs) : g < w.heap.size := by
  rcases h.2 with ⟨h', _⟩ | ⟨g', cap', cur, h', _, hg, _⟩
  · simp at h'
  · simp only [Value.slice.injEq, Option.some.injEq, Addr.mk.injEq, and_true, true_and] at h'
    obtain ⟨rfl, rfl⟩ := h'
    exact (Array.getElem?_eq_some_iff.1 hg).1

set_option maxHeartbeats 1000000 in
theorem clone_any (b0 off len cap : Nat) (bl : Nat → Bool) (w : World) (hl : len ≤ 65536) (hb0 : b0 < w.heap.size) (hc : ∀ i, i < len → w.cell? ⟨b0, off + i, none⟩ = some (.bool (bl i))) :
    Calls Try.prog 5 #[.slice (some ⟨b0, off, none⟩) len cap] w fun e w' => e = .returned (.slice (some ⟨w.heap.size, 0, none⟩) len len) ∧
      (∀ j, j < len → w'.cell? ⟨w.heap.size, j, none⟩ = some (.bool (bl j))) ∧ w.heap.size < w'.heap.size ∧ Below w.heap.size w w' := by
  have hnil := fun w => Lib.run_eql_slice_nil (P := Try.prog) w 22 4 (some ⟨b0, off, none⟩) len cap 0 0 Try.underlying22
  obtain ⟨i0, hi, hz0, hz1, hz2⟩ := info_parts Try.info4
  have HC : Hid (∀ i, i < len → w.cell? ⟨b0, off + i, none⟩ = some (.bool (bl i))) := hc
  clear hc
  go_enter Try.func5, Try.ntmps5
  go_wp2_with (first | (at_make; refine wpList_make_full _ rfl _ _ 22 rfl w.heap.size 4 i0 (.bool false) 1 Try.underlying22 hi hz0 hz1 _ _ _ _ len rfl rfl rfl rfl (by rw [hz2]; omega) (by unfold maxLen; omega) (by simp) ?_; intro w1 hown hgrow))
  go_loopw [4] (fun i wr => ∃ k : Nat, k ≤ len ∧ i = .int .i64 k ∧ (∃ xs, wr.ownsRow w.heap.size 4 1 (.slice (some ⟨w.heap.size, 0, none⟩) len len) len xs ∧ ∀ j, j < k → xs[j]? = some (.bool (bl j))) ∧ w.heap.size < wr.heap.size ∧ Below w.heap.size w wr) (fun i _ => len - (intOf i).toNat)
  case atStart => exact ⟨0, Nat.zero_le _, rfl, ⟨_, hown, by omega⟩, owns_lt hown, (Below.refl _ _).grown hgrow (Nat.le_refl _) (by simp)⟩
  case round =>
    obtain ⟨k, hk, rfl, ⟨xs, ho, hx⟩, hsz, hbel⟩ := hrel
    by_cases hlt : k < len
    · have hcell : wr.cell? ⟨b0, off + k, none⟩ = some (.bool (bl k)) := (hbel.cell (p := ⟨b0, off + k, none⟩) hb0).trans (HC.out k hlt)
      have hxl := ho.1
      have hold := ho.cellAt k (by omega)
      rw [List.getElem?_eq_getElem (by omega)] at hold
      have hfr := ho.frozenAt k
      obtain ⟨hst, hgr⟩ := ho.stored k (.bool (bl k))
      have HST : Hid _ := hst
      have HX : Hid (∀ j, j < k → xs[j]? = some (.bool (bl j))) := hx
      clear hst hx hown hgrow hgr ho
      go_wp2
      go_roundw
      case rel => exact ⟨k + 1, by omega, by go_num, ⟨_, HST.out, fun j hj => by
        by_cases e : j = k
        · subst e; rw [List.getElem?_set_self (by omega)]
        · rw [List.getElem?_set_ne (by omega)]; exact HX.out j (by omega)⟩, by simpa using hsz, hbel.setCell (Nat.le_refl _) _⟩
      case measure => simp [intOf]; omega
    · clear hown hgrow
      go_wp2
      go_ret
      exact ⟨rfl, fun j hj => by rw [ho.cellAt j (by omega)]; exact hx j (by omega), hsz, hbel⟩
end Go.Proofs.Qxb6615211a
