import Derived.Test.Qxb6615875aDoorA2
import Derived.Stop.LaidErr
namespace Go.Proofs.Qxb6615875aDoor
open Go.RowKit

theorem bcell {W w1 : World} (hb : Below W.heap.size W w1) : (∀ b o, b < W.heap.size → w1.cell? ⟨b, o, none⟩ = W.cell? ⟨b, o, none⟩) ∧ (∀ b o, b < W.heap.size → w1.frozen? ⟨b, o, none⟩ = W.frozen? ⟨b, o, none⟩) ∧ W.heap.size ≤ w1.heap.size :=
  ⟨fun b o h => hb.cell (p := ⟨b, o, none⟩) h, fun b o h => hb.frozen (p := ⟨b, o, none⟩) h, hb.size⟩

set_option maxHeartbeats 1000000 in
theorem addr4_any (b0 b1 b2 b3 : UInt8) (p4 : Option Addr) (w : World) (hz : w.cell? ⟨0, 0, none⟩ = some (.pointer p4)) :
    Calls Tryd.prog 18 #[.agg #[.int .u8 b0.toNat, .int .u8 b1.toNat, .int .u8 b2.toNat, .int .u8 b3.toNat]] w fun e w' => e = .returned (.agg #[.int .u64 0, .int .u64 (lo4 b0 b1 b2 b3), .pointer p4]) ∧ Below w.heap.size w w' := by
  have HZ := hid hz
  clear hz
  go_enter Tryd.func18, Tryd.ntmps18
  go_wp2_with (go_at_call 26; refine (from4_any b0 b1 b2 b3 p4 _ (cell?_alloc_old _ (cell?_alloc_old _ HZ.out))).mono ?_; rintro e w' ⟨rfl, hb⟩; obtain ⟨hc, hf, hz⟩ := bcell hb; simp at hz)
  exact bodyPost_ret (v := .agg #[.int .u64 0, .int .u64 (lo4 b0 b1 b2 b3), .pointer p4]) (by simp [results, Tryd.results18, go_sem, hc]) rfl ⟨rfl, ((((((Below.refl _ _).alloc (Nat.le_refl _) _).alloc (by simp) _).trans (hb.mono (by simp; omega))).setCell (by simp) _).setCell (by simp) _).setCell (by simp) _⟩

set_option maxHeartbeats 1000000 in
theorem addr16_any (b : Nat → UInt8) (p6 : Option Addr) (w : World) (hz : w.cell? ⟨1, 0, none⟩ = some (.pointer p6)) :
    Calls Tryd.prog 19 #[.agg (cells16 b)] w fun e w' => e = .returned (.agg #[.int .u64 (hi16 b), .int .u64 (lo16 b), .pointer p6]) ∧ Below w.heap.size w w' := by
  have HZ := hid hz
  clear hz
  unfold cells16
  go_enter Tryd.func19, Tryd.ntmps19
  go_wp2_with (go_at_call 27; refine (from16_any b p6 _ (cell?_alloc_old _ (cell?_alloc_old _ HZ.out))).mono ?_; rintro e w' ⟨rfl, hb⟩; obtain ⟨hc, hf, hz⟩ := bcell hb; simp at hz)
  exact bodyPost_ret (v := .agg #[.int .u64 (hi16 b), .int .u64 (lo16 b), .pointer p6]) (by simp [results, Tryd.results19, go_sem, hc]) rfl ⟨rfl, ((((((Below.refl _ _).alloc (Nat.le_refl _) _).alloc (by simp) _).trans (hb.mono (by simp; omega))).setCell (by simp) _).setCell (by simp) _).setCell (by simp) _⟩

set_option maxHeartbeats 1000000 in
theorem zzaddr_4 (b : Nat → UInt8) (p4 : Option Addr) (w : World) (hz : w.cell? ⟨0, 0, none⟩ = some (.pointer p4)) :
    Calls Tryd.prog 8 #[.bool true, .agg (cells16 b)] w fun e w' => e = .returned (.agg #[.int .u64 0, .int .u64 (lo4 (b 0) (b 1) (b 2) (b 3)), .pointer p4]) ∧ Below w.heap.size w w' := by
  have HZ := hid hz
  clear hz
  unfold cells16
  go_enter Tryd.func8, Tryd.ntmps8
  go_wp2_with (go_at_call 18; refine (addr4_any (b 0) (b 1) (b 2) (b 3) p4 _ (cell?_alloc_old _ (cell?_alloc_old _ HZ.out))).mono ?_; rintro e w' ⟨rfl, hb⟩; obtain ⟨hc, hf, hz⟩ := bcell hb; simp at hz)
  exact bodyPost_ret (v := .agg #[.int .u64 0, .int .u64 (lo4 (b 0) (b 1) (b 2) (b 3)), .pointer p4]) (by simp [results, Tryd.results8, go_sem, hc]) rfl ⟨rfl, ((((((Below.refl _ _).alloc (Nat.le_refl _) _).alloc (by simp) _).trans (hb.mono (by simp; omega))).setCell (by simp) _).setCell (by simp) _).setCell (by simp) _⟩

set_option maxHeartbeats 1000000 in
theorem zzaddr_16 (b : Nat → UInt8) (p6 : Option Addr) (w : World) (hz : w.cell? ⟨1, 0, none⟩ = some (.pointer p6)) :
    Calls Tryd.prog 8 #[.bool false, .agg (cells16 b)] w fun e w' => e = .returned (.agg #[.int .u64 (hi16 b), .int .u64 (lo16 b), .pointer p6]) ∧ Below w.heap.size w w' := by
  have HZ := hid hz
  clear hz
  unfold cells16
  go_enter Tryd.func8, Tryd.ntmps8
  go_wp2_with (go_at_call 19; refine (addr16_any b p6 _ (cell?_alloc_old _ (cell?_alloc_old _ HZ.out))).mono ?_; rintro e w' ⟨rfl, hb⟩; obtain ⟨hc, hf, hz⟩ := bcell hb; simp at hz)
  exact bodyPost_ret (v := .agg #[.int .u64 (hi16 b), .int .u64 (lo16 b), .pointer p6]) (by simp [results, Tryd.results8, go_sem, hc]) rfl ⟨rfl, ((((((Below.refl _ _).alloc (Nat.le_refl _) _).alloc (by simp) _).trans (hb.mono (by simp; omega))).setCell (by simp) _).setCell (by simp) _).setCell (by simp) _⟩

end Go.Proofs.Qxb6615875aDoor
