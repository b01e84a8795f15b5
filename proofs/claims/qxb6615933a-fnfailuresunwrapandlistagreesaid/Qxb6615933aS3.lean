import Derived.Test.Qxb6615933aS2
namespace Go.Proofs.Qxb6615933a
open Go.RowKit
set_option linter.unusedSimpArgs false
set_option linter.unusedVariables false

/-- The i-th of the tail: her five cells. -/
theorem Tl.at {w : World} {b off n : Nat} {ts : Nat → D} (h : Tl w (some ⟨b, off, none⟩) n ts) {i : Nat} (hi : i < n) :
    w.cell? ⟨b, off + i * 5, none⟩ = some (.string (ts i).p) ∧ w.cell? ⟨b, off + i * 5 + 1, none⟩ = some (.string (ts i).m) ∧ w.cell? ⟨b, off + i * 5 + 2, none⟩ = some (.bool (ts i).h) ∧ w.cell? ⟨b, off + i * 5 + 3, none⟩ = some (.string (ts i).ep) ∧ w.cell? ⟨b, off + i * 5 + 4, none⟩ = some (.string (ts i).em) := by
  obtain ⟨b', off', e, hc⟩ := h i hi
  simp only [Option.some.injEq, Addr.mk.injEq, and_true] at e
  obtain ⟨rfl, rfl⟩ := e
  exact ⟨hc 0 _ rfl, hc 1 _ rfl, hc 2 _ rfl, hc 3 _ rfl, hc 4 _ rfl⟩
theorem Tl.some {w : World} {a : Option Addr} {n : Nat} {ts : Nat → D} (h : Tl w a n ts) {i : Nat} (hi : i < n) : ∃ b off, a = some ⟨b, off, none⟩ := by
  obtain ⟨b, off, e, _⟩ := h i hi
  exact ⟨b, off, e⟩

/-- A word. -/
def Wd (e : Ending) : Prop := ∃ ok : Bool, e = .returned (.bool ok)

set_option maxHeartbeats 4000000 in
theorem fits_any (d : D) (a : Option Addr) (n c : Nat) (ts : Nat → D) (w : World) (hm : n ≤ 1048576) (ht : Tl w a n ts) :
    Calls Try.prog 13 #[.agg (dv d), .slice a n c] w fun e w' => Wd e ∧ Below w.heap.size w w' := by
  have HT := hid ht
  clear ht
  have HD : dv d = #[.string d.p, .string d.m, .bool d.h, .string d.ep, .string d.em] := rfl
  rw [HD]
  clear HD
  go_enter Try.func13, Try.ntmps13
  go_wp2_with (go_at_call 25; refine (addData_any _ d _).mono ?_; rintro e w1 ⟨⟨t1, ok, rfl⟩, hb1⟩; have HB1 := hid ((((Below.refl w.heap.size w)).alloc (Nat.le_refl _) _).trans (hb1.mono (by simp))); clear hb1; cases ok)
  · go_ret
    exact ⟨⟨_, rfl⟩, HB1.out⟩
  go_loopw [5, 7] (fun z i wr => ∃ (k : Nat) (s : Int), k ≤ n ∧ i = .int .i64 k ∧ z = .int .i64 s ∧ Below w.heap.size w wr) (fun _ i _ => n - (intOf i).toNat)
  case atStart => exact ⟨0, _, Nat.zero_le _, rfl, rfl, HB1.out⟩
  case round =>
    clear HB1
    obtain ⟨k, s, hk, rfl, rfl, hbr⟩ := hrel
    have HB := hid hbr
    clear hbr
    by_cases hlt : k < n
    · obtain ⟨b, off, rfl⟩ := HT.out.some hlt
      obtain ⟨c0, c1, c2, c3, c4⟩ := (HT.out.below HB.out).at hlt
      obtain ⟨x, hx⟩ : ∃ x, x = ts k := ⟨_, rfl⟩
      rw [← hx] at c0 c1 c2 c3 c4
      clear hx
      go_wp2_with (go_at_call 25; refine (addData_any _ x _).mono ?_; rintro e w1 ⟨⟨t1, ok, rfl⟩, hb1⟩; have HB2 := hid (HB.out.trans (hb1.mono HB.out.size)); clear hb1; cases ok)
      · go_ret
        exact ⟨⟨_, rfl⟩, HB2.out⟩
      go_roundw
      case rel => exact ⟨k + 1, _, by omega, by go_num, rfl, HB2.out⟩
      case measure => simp [intOf]; omega
    · go_wp2
      go_ret
      exact ⟨⟨_, rfl⟩, HB.out⟩

end Go.Proofs.Qxb6615933a
