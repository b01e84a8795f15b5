import Derived.Test.Qxb6615981aDoorQ1
namespace Go.Proofs.Qxb6615981aDoor
open Go.RowKit
set_option linter.unusedSimpArgs false
set_option linter.unusedVariables false

theorem hid {p : Prop} (h : p) : Hid p := h
theorem heap_lt {w : World} {k : Nat} {o : Obj} (h : w.heap[k]? = some o) : k < w.heap.size := (Array.getElem?_eq_some_iff.1 h).1

theorem dec_small {v : Nat} (h : v < 10) : Lib.decDigits v = [UInt8.ofNat (48 + v)] := by rw [Lib.decDigits, dif_pos h]
theorem dec_big {v : Nat} (h : ¬ v < 10) : Lib.decDigits v = Lib.decDigits (v / 10) ++ [UInt8.ofNat (48 + v % 10)] := by rw [Lib.decDigits, dif_neg h]
/-- The digits that are written so far. -/
def DI (u v : Nat) (l : List UInt8) : Prop := (0 < v ∧ Lib.decDigits u = Lib.decDigits v ++ l) ∨ (v = 0 ∧ Lib.decDigits u = l)
theorem DI.next {u v : Nat} {l : List UInt8} (h : DI u v l) (hv : 0 < v) : DI u (v / 10) (UInt8.ofNat (48 + v % 10) :: l) := by
  rcases h with ⟨_, e⟩ | ⟨h0, _⟩
  · by_cases hs : v < 10
    · right
      refine ⟨by omega, ?_⟩
      rw [e, dec_small hs, show v % 10 = v by omega]
      rfl
    · left
      refine ⟨by omega, ?_⟩
      rw [e, dec_big hs, List.append_assoc]
      rfl
  · omega
theorem dec_pos (v : Nat) : 1 ≤ (Lib.decDigits v).length := by
  rw [Lib.decDigits_length, Lib.nDigits]
  split <;> omega
theorem DI.room {u v : Nat} {l : List UInt8} (h : DI u v l) (hv : 0 < v) (hu : Lib.nDigits u ≤ 20) : l.length < 20 := by
  rcases h with ⟨_, e⟩ | ⟨h0, _⟩
  · have := congrArg List.length e
    rw [List.length_append, Lib.decDigits_length] at this
    have := dec_pos v
    omega
  · omega
theorem byte_dig (v : Nat) : ((UInt8.ofNat (48 + v % 10)).toNat : Int) = 48 + (v : Int) % 10 := by
  rw [UInt8.toNat_ofNat']
  omega

def z20 : Array Value := #[.int .u8 0, .int .u8 0, .int .u8 0, .int .u8 0, .int .u8 0, .int .u8 0, .int .u8 0, .int .u8 0, .int .u8 0, .int .u8 0, .int .u8 0, .int .u8 0, .int .u8 0, .int .u8 0, .int .u8 0, .int .u8 0, .int .u8 0, .int .u8 0, .int .u8 0, .int .u8 0]

set_option maxHeartbeats 2000000 in
set_option maxRecDepth 100000 in
theorem decimal_any (u : Nat) (hu : u < 18446744073709551616) (w : World) : Calls Tryd.prog 15 #[.int .u64 u] w fun e w' => e = .returned (.string (dec u)) ∧ Below w.heap.size w w' := by
  by_cases h0 : u = 0
  · subst h0
    have e : dec 0 = ⟨#[48]⟩ := by unfold dec; rw [dec_small (by omega)]; rfl
    rw [e]
    go_enter Tryd.func15, Tryd.ntmps15
    go_wp2
    go_ret
    exact ⟨rfl, Below.refl _ _⟩
  · have hnd : Lib.nDigits u ≤ 20 := by have := Lib.numDigits_eq u (by omega) hu; split at this <;> omega
    have HN := hid hnd
    clear hnd
    go_enter Tryd.func15, Tryd.ntmps15
    go_wp2
    go_loopw [0, 4] (fun a i wr => ∃ (v k : Nat) (l : List UInt8) (C : Array Value), a = .int .u64 v ∧ v ≤ u ∧ i = .int .i64 k ∧ k + l.length = 20 ∧ DI u v l ∧ wr.heap[w.heap.size]? = some (.cells C 55 (0, 0)) ∧ C.size = 20 ∧ (∀ j x, l[j]? = some x → C[k + j]? = some (.int .u8 (x.toNat : Int))) ∧ Below w.heap.size w wr) (fun a _ _ => (intOf a).toNat)
    case atStart => exact ⟨u, 20, [], z20, rfl, Nat.le_refl _, rfl, rfl, .inl ⟨by omega, by simp⟩, heap_alloc_new w _, rfl, fun j x h => by simp at h, (Below.refl _ _).alloc (Nat.le_refl _) _⟩
    case round =>
      obtain ⟨v, k, l, C, rfl, hvu, rfl, hkl, hdi, hrow, hcs, hcell, hbr⟩ := hrel
      have HD := hid hdi
      have HR := hid hrow
      have HL := hid hcell
      have HB := hid hbr
      clear hdi hcell hbr
      by_cases hv : 0 < v
      · have hroom := HD.out.room hv HN.out
        obtain ⟨i, rfl⟩ : ∃ i, k = i + 1 := ⟨k - 1, by omega⟩
        have hc : wr.cell? ⟨w.heap.size, i, none⟩ = some C[i] := by rw [cell_of_row wr w.heap.size i C 55 (0, 0) hrow]; exact Array.getElem?_eq_getElem (by omega)
        have hf : wr.frozen? ⟨w.heap.size, i, none⟩ = false := frozen_of_row wr w.heap.size i C 55 hrow
        have hi20 : i < 20 := by omega
        clear hrow
        go_wp2
        go_roundw
        case rel =>
          refine ⟨v / 10, i, UInt8.ofNat (48 + v % 10) :: l, C.setIfInBounds i (.int .u8 (48 + (v : Int) % 10)), by simp, by omega, rfl, by simp; omega, HD.out.next hv, heap_setCell_same wr w.heap.size i C 55 _ HR.out, by simp [hcs], fun j x hj => ?_, HB.out.setCell (p := ⟨w.heap.size, i, none⟩) (Nat.le_refl _) _⟩
          cases j with
          | zero =>
            obtain rfl : UInt8.ofNat (48 + v % 10) = x := Option.some.inj hj
            rw [byte_dig, Nat.add_zero, Array.getElem?_setIfInBounds_self_of_lt (by omega)]
          | succ j =>
            rw [Array.getElem?_setIfInBounds_ne (by omega), show i + (j + 1) = i + 1 + j by omega]
            exact HL.out j x (by simpa using hj)
        case measure => simp [intOf]; omega
      · obtain rfl : v = 0 := by omega
        have hl : Lib.decDigits u = l := by
          rcases HD.out with ⟨h, _⟩ | ⟨_, e⟩
          · omega
          · exact e
        have hk : k < 20 := by have := dec_pos u; rw [hl] at this; omega
        have hal : Tryd.prog.arrayLen 55 = 20 := by simp [Program.arrayLen, Tryd.underlying55]
        have hsl : ∀ W, (Instr.sliceAt 55 (.pointer (some ⟨w.heap.size, 0, none⟩)) (some (.int .i64 (k : Int))) none none).run Tryd.prog W = .ok (.slice (some ⟨w.heap.size, k, none⟩) (20 - k) (20 - k)) W := fun W => by
          rw [run_sliceAt_array_l W 55 ⟨w.heap.size, 0, none⟩ (by simp [Program.arrayLen, Program.elem, Tryd.underlying55]) .i64 (k : Int) (by omega) (by rw [hal]; omega)]
          go_simp
          omega
        have hcv : (convert 52 9 (.slice (some ⟨w.heap.size, k, none⟩) (20 - k) (20 - k))).run Tryd.prog wr = .ok (.string (dec u)) wr := by
          have h := run_convert_bytes_back (P := Tryd.prog) wr 52 9 5 ⟨w.heap.size, k, none⟩ (20 - k) l Tryd.underlying52 Tryd.underlying5 Tryd.underlying9 (fun j hj => by
            rw [Lib.add_plain, cell_of_row wr w.heap.size (k + j) C 55 (0, 0) HR.out]
            exact HL.out j _ (List.getElem?_eq_getElem hj))
          rw [show l.length = 20 - k by omega] at h
          unfold dec
          rw [hl]
          exact h
        clear hl hal hrow
        go_wp2
        go_ret
        exact ⟨rfl, HB.out⟩
end Go.Proofs.Qxb6615981aDoor
