import Derived.Test.Qxb6615875aDoorA1
import Derived.Deep.RegionHeld3
import Derived.Deep.DrawnRows
import Derived.WalkSpells
namespace Go.Proofs.Qxb6615875aDoor
open Go.RowKit

theorem hid {p : Prop} (h : p) : Hid p := h
theorem bits_or_comm (k : IntKind) (x y : Int) : bits .or k x y = bits .or k y x := by simp only [bits, BitVec.or_comm]
theorem or_hi24 {x y : Int} (hx₀ : 0 ≤ x) (hx : x % 4294967296 = 0) (hx₁ : x < 18446744073709551616) (hy₀ : 0 ≤ y) (hy : y < 4294967296) : bits .or .u64 x y = y + x := by rw [bits_or_comm, u64_or32 _ _ hy₀ hy hx₀ hx hx₁]
theorem or_hi16 {x y : Int} (hx₀ : 0 ≤ x) (hx : x % 16777216 = 0) (hx₁ : x < 18446744073709551616) (hy₀ : 0 ≤ y) (hy : y < 16777216) : bits .or .u64 x y = y + x := by rw [bits_or_comm, u64_or24 _ _ hy₀ hy hx₀ hx hx₁]
theorem or_hi8 {x y : Int} (hx₀ : 0 ≤ x) (hx : x % 65536 = 0) (hx₁ : x < 18446744073709551616) (hy₀ : 0 ≤ y) (hy : y < 65536) : bits .or .u64 x y = y + x := by rw [bits_or_comm, u64_or16 _ _ hy₀ hy hx₀ hx hx₁]
theorem or_hi0 {x y : Int} (hx₀ : 0 ≤ x) (hx : x % 256 = 0) (hx₁ : x < 18446744073709551616) (hy₀ : 0 ≤ y) (hy : y < 256) : bits .or .u64 x y = y + x := by rw [bits_or_comm, u64_or8 _ _ hy₀ hy hx₀ hx hx₁]

/-- The low word of an IPv4 address. -/
def lo4 (b0 b1 b2 b3 : UInt8) : Int := 281470681743360 + (Lib.beNat [b0, b1, b2, b3] : Int)
set_option maxRecDepth 100000 in
theorem be4_eq (b0 b1 b2 b3 : UInt8) : (Lib.beNat [b0, b1, b2, b3] : Int) = (b0.toNat : Int) * 16777216 + (b1.toNat : Int) * 65536 + (b2.toNat : Int) * 256 + (b3.toNat : Int) := by
  simp only [Lib.beNat, Lib.beFrom]
  push_cast
  omega
theorem lo4_eq (b0 b1 b2 b3 : UInt8) : lo4 b0 b1 b2 b3 = 281470681743360 + ((b0.toNat : Int) * 16777216 + (b1.toNat : Int) * 65536 + (b2.toNat : Int) * 256 + (b3.toNat : Int)) := by
  unfold lo4
  rw [be4_eq]

theorem lo4_bits (b0 b1 b2 b3 : UInt8) :
    bits .or .u64 (bits .or .u64 (bits .or .u64 (bits .or .u64 281470681743360 ((b0.toNat : Int) * 16777216)) ((b1.toNat : Int) * 65536)) ((b2.toNat : Int) * 256)) (b3.toNat : Int) = lo4 b0 b1 b2 b3 := by
  have h0 : b0.toNat < 256 := b0.toNat_lt
  have h1 : b1.toNat < 256 := b1.toNat_lt
  have h2 : b2.toNat < 256 := b2.toNat_lt
  have h3 : b3.toNat < 256 := b3.toNat_lt
  rw [lo4_eq]
  rw [or_hi24 (y := (b0.toNat : Int) * 16777216) (by omega) (by omega) (by omega) (by omega) (by omega)]
  rw [or_hi16 (y := (b1.toNat : Int) * 65536) (by omega) (by omega) (by omega) (by omega) (by omega)]
  rw [or_hi8 (y := (b2.toNat : Int) * 256) (by omega) (by omega) (by omega) (by omega) (by omega)]
  rw [or_hi0 (y := (b3.toNat : Int)) (by omega) (by omega) (by omega) (by omega) (by omega)]
  omega

set_option maxHeartbeats 1000000 in
theorem from4_any (b0 b1 b2 b3 : UInt8) (p4 : Option Addr) (w : World) (hz : w.cell? ⟨0, 0, none⟩ = some (.pointer p4)) :
    Calls Tryd.prog 26 #[.agg #[.int .u8 b0.toNat, .int .u8 b1.toNat, .int .u8 b2.toNat, .int .u8 b3.toNat]] w fun e w' => e = .returned (.agg #[.int .u64 0, .int .u64 (lo4 b0 b1 b2 b3), .pointer p4]) ∧ Below w.heap.size w w' := by
  have h0 : b0.toNat < 256 := b0.toNat_lt
  have h1 : b1.toNat < 256 := b1.toNat_lt
  have h2 : b2.toNat < 256 := b2.toNat_lt
  have h3 : b3.toNat < 256 := b3.toNat_lt
  have hsz : 0 < w.heap.size := block_lt_of_cell (a := ⟨0, 0, none⟩) hz
  go_enter Tryd.func26, Tryd.ntmps26
  go_wp2
  rw [← lo4_bits]
  exact bodyPost_ret (v := .agg #[.int .u64 0, .int .u64 (bits .or .u64 (bits .or .u64 (bits .or .u64 (bits .or .u64 281470681743360 ((b0.toNat : Int) * 16777216)) ((b1.toNat : Int) * 65536)) ((b2.toNat : Int) * 256)) (b3.toNat : Int)), .pointer p4]) (by simp [results, Tryd.results26, go_sem]) rfl ⟨rfl, ((Below.refl _ _).alloc (Nat.le_refl _) _).alloc (by simp) _⟩

/-- Sixteen bytes as an array's value. -/
def cells16 (b : Nat → UInt8) : Array Value := #[.int .u8 (b 0).toNat, .int .u8 (b 1).toNat, .int .u8 (b 2).toNat, .int .u8 (b 3).toNat, .int .u8 (b 4).toNat, .int .u8 (b 5).toNat, .int .u8 (b 6).toNat, .int .u8 (b 7).toNat,
  .int .u8 (b 8).toNat, .int .u8 (b 9).toNat, .int .u8 (b 10).toNat, .int .u8 (b 11).toNat, .int .u8 (b 12).toNat, .int .u8 (b 13).toNat, .int .u8 (b 14).toNat, .int .u8 (b 15).toNat]
def hi16 (b : Nat → UInt8) : Int := (Lib.beNat [b 0, b 1, b 2, b 3, b 4, b 5, b 6, b 7] : Nat)
def lo16 (b : Nat → UInt8) : Int := (Lib.beNat [b 8, b 9, b 10, b 11, b 12, b 13, b 14, b 15] : Nat)

/-- Memory bears the sixteen bytes b from cell 0 of block g on. -/
def Byt (w : World) (g : Nat) (b : Nat → UInt8) : Prop := ∀ j, j < 16 → w.cell? ⟨g, j, none⟩ = some (.int .u8 (b j).toNat)
theorem byt_new (w : World) (b : Nat → UInt8) (t : TypeId) : Byt (w.alloc (.cells (cells16 b) t)) w.heap.size b := by
  intro j hj
  rw [World.cell?_alloc_at _ _ _ _ rfl]
  rcases (show j = 0 ∨ j = 1 ∨ j = 2 ∨ j = 3 ∨ j = 4 ∨ j = 5 ∨ j = 6 ∨ j = 7 ∨ j = 8 ∨ j = 9 ∨ j = 10 ∨ j = 11 ∨ j = 12 ∨ j = 13 ∨ j = 14 ∨ j = 15 by omega) with rfl | rfl | rfl | rfl | rfl | rfl | rfl | rfl | rfl | rfl | rfl | rfl | rfl | rfl | rfl | rfl <;> rfl
theorem Byt.alloc {w : World} {g : Nat} {b : Nat → UInt8} (h : Byt w g b) (o : Obj) : Byt (w.alloc o) g b := fun j hj => by
  have hg := block_lt_of_cell (h j hj)
  rw [World.cell?_alloc_past _ _ _ hg]; exact h j hj
theorem Byt.below {w w' : World} {g B : Nat} {b : Nat → UInt8} (h : Byt w g b) (hb : Below B w w') (hg : g < B) : Byt w' g b := fun j hj => (hb.cell (p := ⟨g, j, none⟩) hg).trans (h j hj)
theorem Byt.drewN {w : World} {g : Nat} {b : Nat → UInt8} (h : Byt w g b) (n : Nat) : Byt (w.drewN n) g b := fun j hj => by rw [World.cell?_drewN]; exact h j hj
theorem Byt.drew {w : World} {g : Nat} {b : Nat → UInt8} (h : Byt w g b) : Byt w.drew g b := h.drewN 1

theorem be64_lo (g n c : Nat) (b : Nat → UInt8) (w : World) (hn : 8 ≤ n) (h : Byt w g b) :
    Calls Tryd.prog 35 #[.slice (some ⟨g, 0, none⟩) n c] w fun e w' => e = .returned (.int .u64 (hi16 b)) ∧ ∃ nq, w' = w.drewN nq :=
  be64_any g 0 n c (b 0) (b 1) (b 2) (b 3) (b 4) (b 5) (b 6) (b 7) w hn (h 0 (by omega)) (h 1 (by omega)) (h 2 (by omega)) (h 3 (by omega)) (h 4 (by omega)) (h 5 (by omega)) (h 6 (by omega)) (h 7 (by omega))
theorem be64_hi (g n c : Nat) (b : Nat → UInt8) (w : World) (hn : 8 ≤ n) (h : Byt w g b) :
    Calls Tryd.prog 35 #[.slice (some ⟨g, 8, none⟩) n c] w fun e w' => e = .returned (.int .u64 (lo16 b)) ∧ ∃ nq, w' = w.drewN nq :=
  be64_any g 8 n c (b 8) (b 9) (b 10) (b 11) (b 12) (b 13) (b 14) (b 15) w hn (h 8 (by omega)) (h 9 (by omega)) (h 10 (by omega)) (h 11 (by omega)) (h 12 (by omega)) (h 13 (by omega)) (h 14 (by omega)) (h 15 (by omega))

attribute [local go_sem ↓] Go.wp_at_zero Go.wp_at_succ
set_option maxHeartbeats 4000000 in
theorem from16_any (b : Nat → UInt8) (p6 : Option Addr) (w : World) (hz : w.cell? ⟨1, 0, none⟩ = some (.pointer p6)) :
    Calls Tryd.prog 27 #[.agg (cells16 b)] w fun e w' => e = .returned (.agg #[.int .u64 (hi16 b), .int .u64 (lo16 b), .pointer p6]) ∧ Below w.heap.size w w' := by
  have hsz : 1 < w.heap.size := block_lt_of_cell (a := ⟨1, 0, none⟩) hz
  have hby := ((byt_new w b 22).alloc (.cells #[.int .u64 0, .int .u64 0, .pointer none] 32))
  have hzz : ((w.alloc (.cells (cells16 b) 22)).alloc (.cells #[.int .u64 0, .int .u64 0, .pointer none] 32)).cell? ⟨1, 0, none⟩ = some (.pointer p6) := by
    rw [World.cell?_alloc_past _ _ _ (by simp; omega), World.cell?_alloc_past _ _ _ hsz]; exact hz
  unfold cells16 at hby hzz ⊢
  have HB := hid hby
  have HZ := hid hzz
  clear hby hzz
  go_enter Tryd.func27, Tryd.ntmps27
  go_wp2
  go_region_held3 (fun w' => w'.cell? ⟨1, 0, none⟩ = some (.pointer p6)) (first | exact HZ.out | (simp only [World.cell?_drewN, World.cell?_drew]; exact HZ.out) | (rw [World.cell?_setCell_far _ _ _ _ (show w.heap.size + 1 ≠ 1 by omega), World.cell?_setCell_far _ _ _ _ (show w.heap.size + 1 ≠ 1 by omega), World.cell?_setCell_far _ _ _ _ (show w.heap.size + 1 ≠ 1 by omega)]; exact HZ.out))
   (first
    | (go_at_call_of 35 (Value.slice (some ⟨w.heap.size, 0, none⟩) 8 16); refine (be64_lo w.heap.size 8 16 b _ (by omega) ?_).mono ?_; (first | exact HB.out.drew | exact (HB.out.drew).drewN _ | exact HB.out.drewN _); rintro e w' ⟨rfl, nq, rfl⟩)
    | (go_at_call_of 35 (Value.slice (some ⟨w.heap.size, 8, none⟩) 8 8); refine (be64_hi w.heap.size 8 8 b _ (by omega) ?_).mono ?_; (first | exact HB.out.drew | exact (HB.out.drew).drewN _ | exact HB.out.drewN _); rintro e w' ⟨rfl, nq, rfl⟩))
  go_wp2
  exact bodyPost_ret (v := .agg #[.int .u64 (hi16 b), .int .u64 (lo16 b), .pointer p6]) (by simp [results, Tryd.results27, go_sem]) rfl ⟨rfl, (((below_drewN (((Below.refl _ _).alloc (Nat.le_refl _) _).alloc (by simp) _) _).setCell (by simp) _).setCell (by simp) _).setCell (by simp) _⟩
end Go.Proofs.Qxb6615875aDoor
