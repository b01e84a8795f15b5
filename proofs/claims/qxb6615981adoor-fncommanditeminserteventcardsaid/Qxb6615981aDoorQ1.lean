import Derived.Test.Qxb6615981aDoorProg
import Derived.Shelf.Strconv.Itoa3
import Derived.Lib.AppendIntMem
import Derived.WalkKit
import Derived.WalkSmall
namespace Go.Proofs.Qxb6615981aDoor
open Go.RowKit Go.Shelf Go.Sort Go.Lib
set_option linter.unusedSimpArgs false
set_option linter.unusedVariables false

def lays283_ren : Go.Shelf.Ren := ⟨fun | 283 => 46 | n => n, fun | 3 => 3 | 9 => 9 | 4 => 4 | n => n, fun | n => n⟩
theorem lays283 : Go.Proofs.Lays.n283 Tryd.prog lays283_ren := {
  mixed := by kernel_rfl
  f283 := Tryd.func46.trans (congrArg some (by kernel_rfl))
  t3 := Tryd.underlying3
  a3 := Tryd.isAgg3
  z3 := Tryd.sizeOf3
  v3 := Tryd.zeroValue3
  t4 := Tryd.underlying4
  a4 := Tryd.isAgg4
  z4 := Tryd.sizeOf4
  v4 := Tryd.zeroValue4
  t9 := Tryd.underlying9
  a9 := Tryd.isAgg9
  z9 := Tryd.sizeOf9
  v9 := Tryd.zeroValue9 }
def lays284_ren : Go.Shelf.Ren := ⟨fun | 284 => 47 | 129 => 54 | 317 => 53 | 318 => 55 | n => n, fun | 53 => 50 | 3 => 3 | 212 => 97 | 0 => 0 | 4 => 4 | 46 => 88 | 5 => 5 | 9 => 9 | n => n, fun | 17 => 4 | n => n⟩
theorem lays284 : Go.Proofs.LaysM.n284 Tryd.prog lays284_ren := {
  mixed := by kernel_rfl
  f129 := Tryd.func54.trans (congrArg some (by kernel_rfl))
  f284 := Tryd.func47.trans (congrArg some (by kernel_rfl))
  f317 := Tryd.func53.trans (congrArg some (by kernel_rfl))
  f318 := Tryd.func55.trans (congrArg some (by kernel_rfl))
  t0 := Tryd.underlying0
  a0 := Tryd.isAgg0
  z0 := Tryd.sizeOf0
  v0 := Tryd.zeroValue0
  t3 := Tryd.underlying3
  a3 := Tryd.isAgg3
  z3 := Tryd.sizeOf3
  v3 := Tryd.zeroValue3
  t4 := Tryd.underlying4
  a4 := Tryd.isAgg4
  z4 := Tryd.sizeOf4
  v4 := Tryd.zeroValue4
  t5 := Tryd.underlying5
  a5 := Tryd.isAgg5
  z5 := Tryd.sizeOf5
  v5 := Tryd.zeroValue5
  t9 := Tryd.underlying9
  a9 := Tryd.isAgg9
  z9 := Tryd.sizeOf9
  v9 := Tryd.zeroValue9
  t46 := Tryd.underlying88
  a46 := Tryd.isAgg88
  z46 := Tryd.sizeOf88
  v46 := Tryd.zeroValue88
  t53 := Tryd.underlying50
  a53 := Tryd.isAgg50
  z53 := Tryd.sizeOf50
  v53 := Tryd.zeroValue50
  t212 := Tryd.underlying97
  a212 := Tryd.isAgg97
  z212 := Tryd.sizeOf97
  v212 := Tryd.zeroValue97
  g17 := by kernel_rfl
  i0 := by kernel_rfl
  i3 := by kernel_rfl
  i4 := by kernel_rfl
  i5 := by kernel_rfl
  i9 := by kernel_rfl
  i46 := by kernel_rfl
  i53 := by kernel_rfl
  i212 := by kernel_rfl
  m17 := by kernel_rfl }
def lays285_ren : Go.Shelf.Ren := ⟨fun | 285 => 48 | n => n, fun | 37 => 52 | 53 => 50 | 3 => 3 | 4 => 4 | 51 => 24 | 9 => 9 | 5 => 5 | 0 => 0 | n => n, fun | n => n⟩
theorem lays285 : Go.Proofs.Lays.n285 Tryd.prog lays285_ren := {
  mixed := by kernel_rfl
  f285 := Tryd.func48.trans (congrArg some (by kernel_rfl))
  t0 := Tryd.underlying0
  a0 := Tryd.isAgg0
  z0 := Tryd.sizeOf0
  v0 := Tryd.zeroValue0
  t3 := Tryd.underlying3
  a3 := Tryd.isAgg3
  z3 := Tryd.sizeOf3
  v3 := Tryd.zeroValue3
  t4 := Tryd.underlying4
  a4 := Tryd.isAgg4
  z4 := Tryd.sizeOf4
  v4 := Tryd.zeroValue4
  t5 := Tryd.underlying5
  a5 := Tryd.isAgg5
  z5 := Tryd.sizeOf5
  v5 := Tryd.zeroValue5
  t9 := Tryd.underlying9
  a9 := Tryd.isAgg9
  z9 := Tryd.sizeOf9
  v9 := Tryd.zeroValue9
  t37 := Tryd.underlying52
  a37 := Tryd.isAgg52
  z37 := Tryd.sizeOf52
  v37 := Tryd.zeroValue52
  t51 := Tryd.underlying24
  a51 := Tryd.isAgg24
  z51 := Tryd.sizeOf24
  v51 := Tryd.zeroValue24
  t53 := Tryd.underlying50
  a53 := Tryd.isAgg50
  z53 := Tryd.sizeOf50
  v53 := Tryd.zeroValue50 }

/-- What the decimal numeral of u is, as a Go string. -/
def dec (u : Nat) : ByteArray := ⟨(Lib.decDigits u).toArray⟩
/-- What memory says of the table of powers. -/
def Tab (w : World) : Prop := Lib.TabIs Tryd.prog w "internal/strconv.uint64pow10" .u64 Lib.pow10Tab

theorem small_any (i : Nat) (h : i < 100) (w : World) : Calls Tryd.prog 46 #[.int .i64 i] w fun e w' => e = .returned (.string (dec i)) ∧ w' = w := Any.internal_strconv_small lays283 i h w
theorem numDigits_any (u : Nat) (h1 : 1 ≤ u) (h2 : u < 18446744073709551616) (w : World) (ht : Tab w) : Calls Tryd.prog 47 #[.int .u64 u] w fun e w' => e = .returned (.int .i64 (Lib.nDigits u)) ∧ w' = w := Any.internal_strconv_numDigits lays284 u h1 h2 w ht

set_option maxHeartbeats 2000000 in
set_option maxRecDepth 100000 in
theorem fmtUint_any (u : Nat) (hu64 : u < 18446744073709551616) (w : World) (ht : Tab w) : Calls Tryd.prog 42 #[.int .u64 u, .int .i64 10] w fun e w' => e = .returned (.string (dec u)) ∧ Below w.heap.size w w' := by
  by_cases hs : u < 100
  · have hw : IntKind.i64.wrap (u : Int) = u := by rw [IntKind.wrap_i64]; omega
    go_enter Tryd.func42, Tryd.ntmps42
    go_wp2_with (go_at_call 46; refine (small_any u hs _).mono ?_; rintro e w' ⟨rfl, rfl⟩)
    go_ret
    exact ⟨rfl, Below.refl _ _⟩
  · have hu1 : 1 ≤ u := by omega
    have hnd20 : Lib.nDigits u ≤ 20 := by have := Lib.numDigits_eq u hu1 hu64; split at this <;> omega
    have hal : Tryd.prog.arrayLen 80 = 24 := by simp [Program.arrayLen, Tryd.underlying80]
    have hsl1 : ∀ W, (Instr.sliceAt 80 (.pointer (some ⟨w.heap.size, 0, none⟩)) none (some (.int .i64 (Lib.nDigits u : Int))) none).run Tryd.prog W = .ok (.slice (some ⟨w.heap.size, 0, none⟩) (Lib.nDigits u) 24) W := fun W => by
      rw [run_sliceAt_array_h W 80 ⟨w.heap.size, 0, none⟩ (by simp [Program.arrayLen, Program.elem, Tryd.underlying80]) .i64 (Lib.nDigits u : Int) (by omega) (by rw [hal]; omega)]
      go_simp
    have hH0 := Lib.holds_zero0 w 80 (Lib.nDigits u) (by omega)
    have hfmt : Calls Tryd.prog 48 _ _ _ := Any.internal_strconv_formatBase10 lays285 w.heap.size 0 24 u (Array.replicate (Lib.nDigits u) 0) (w.alloc (.cells Lib.zeros24 80)) hH0 (by rw [Array.size_replicate]; exact Lib.lt_pow_nDigits u) hu64 (by rw [Array.size_replicate]; omega)
    rw [Array.size_replicate] at hfmt
    have HH0 := Lib.hid hH0
    clear hH0 hal
    go_enter Tryd.func42, Tryd.ntmps42
    go_wp2_with (go_at_call 47; refine (numDigits_any u hu1 hu64 _ (Lib.tabIs_alloc ht _)).mono ?_; rintro e w' ⟨rfl, rfl⟩)
    go_at_call 48
    refine hfmt.mono ?_
    rintro e w' ⟨rfl, k, v', dk, rfl, hF⟩
    have hcv : (convert 52 9 (.slice (some ⟨w.heap.size, 0, none⟩) (Lib.nDigits u) 24)).run Tryd.prog ((putRow (fun (b : UInt8) => Value.int .u8 (b.toNat : Int)) (w.alloc (.cells Lib.zeros24 80)) w.heap.size 0 dk).drewN k) = .ok (.string (dec u)) ((putRow (fun (b : UInt8) => Value.int .u8 (b.toNat : Int)) (w.alloc (.cells Lib.zeros24 80)) w.heap.size 0 dk).drewN k) := by
      have h := run_convert_bytes_back (P := Tryd.prog) ((putRow (fun (b : UInt8) => Value.int .u8 (b.toNat : Int)) (w.alloc (.cells Lib.zeros24 80)) w.heap.size 0 dk).drewN k) 52 9 5 ⟨w.heap.size, 0, none⟩ 24 (Lib.decDigits u) Tryd.underlying52 Tryd.underlying5 Tryd.underlying9 (fun j hj => by
        rw [Lib.row_is_numeral hF j hj, Lib.add_plain, World.cell?_drewN]
        exact cell?_putRow (fun (b : UInt8) => Value.int .u8 (b.toNat : Int)) _ w.heap.size 0 _ dk HH0.out (by rw [hF.size, Array.size_replicate]) j (by rw [hF.size]; rw [Lib.decDigits_length] at hj; exact hj))
      rw [Lib.decDigits_length] at h
      exact h
    go_wp2
    go_ret
    obtain ⟨os, eo⟩ := Lib.fin_at w (.cells Lib.zeros24 80) dk k 0
    refine ⟨rfl, ?_⟩
    rw [eo]
    exact Lib.below_grow _ _ (Nat.le_refl _) _ _

set_option maxHeartbeats 1000000 in
theorem formatUint_any (u : Nat) (hu64 : u < 18446744073709551616) (w : World) (ht : Tab w) : Calls Tryd.prog 39 #[.int .u64 u, .int .i64 10] w fun e w' => e = .returned (.string (dec u)) ∧ Below w.heap.size w w' := by
  go_enter Tryd.func39, Tryd.ntmps39
  go_wp2_with (go_at_call 42; refine (fmtUint_any u hu64 _ ht).mono ?_; rintro e w' ⟨rfl, hb⟩)
  go_ret
  exact ⟨rfl, hb⟩
end Go.Proofs.Qxb6615981aDoor
