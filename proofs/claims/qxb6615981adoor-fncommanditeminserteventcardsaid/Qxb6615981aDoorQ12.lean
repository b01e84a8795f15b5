import Derived.Test.Qxb6615981aDoorQ11
namespace Go.Proofs.Qxb6615981aDoor
open Go.RowKit
set_option linter.unusedSimpArgs false
set_option linter.unusedVariables false
attribute [local go_sem ↓] Go.wp_at_zero Go.wp_at_succ

set_option maxRecDepth 100000 in
set_option maxHeartbeats 4000000 in
theorem law_g0 (verb term : ByteArray) (rid : Nat) (a : Option Addr) (n c : Nat) (at_ : Int) (pkg ev : ByteArray) (opt : Bool) (es : Nat → ByteArray × ByteArray) (w : World) (m1 : verb.size ≤ maxLen) (m2 : term.size ≤ maxLen) (m3 : n ≤ maxLen) (m4 : pkg.size ≤ maxLen) (m5 : ev.size ≤ maxLen) (hs : Zev w a n es) (hm : ∀ i, i < n → (es i).1.size ≤ maxLen ∧ (es i).2.size ≤ maxLen)  (h : 65536 < verb.size) : Calls Tryd.prog 5 #[.string verb, .string term, .int .u32 rid, .slice a n c, .int .i64 at_, .string pkg, .string ev, .bool opt] w fun e w' => e = .returned (.bool true) ∧ Below w.heap.size w w' := by
  have HM1 := hid m1
  have HM2 := hid m2
  have HM3 := hid m3
  have HM4 := hid m4
  have HM5 := hid m5
  have HS := hid hs
  have HM := hid hm
  unfold maxLen at m1 m2 m3 m4 m5
  clear hs hm
  have hd0 : decide (65536 < (verb.size : Int)) = true := decide_eq_true (by omega)
  go_enter Tryd.func5, Tryd.ntmps5
  go_wp2_with (go_at_call 11; refine (bytes11_any verb term rid a n c at_ pkg ev opt es _ HM1.out HM2.out HM3.out HM4.out HM5.out HS.out HM.out).mono ?_; rintro e w1 ⟨bb, rfl, hsm, rfl⟩; have HSM0 := hid hsm; clear hsm; cases bb)
  all_goals go_ret
  all_goals exact ⟨rfl, Below.refl _ _⟩

set_option maxRecDepth 100000 in
set_option maxHeartbeats 4000000 in
theorem law_g1 (verb term : ByteArray) (rid : Nat) (a : Option Addr) (n c : Nat) (at_ : Int) (pkg ev : ByteArray) (opt : Bool) (es : Nat → ByteArray × ByteArray) (w : World) (m1 : verb.size ≤ maxLen) (m2 : term.size ≤ maxLen) (m3 : n ≤ maxLen) (m4 : pkg.size ≤ maxLen) (m5 : ev.size ≤ maxLen) (hs : Zev w a n es) (hm : ∀ i, i < n → (es i).1.size ≤ maxLen ∧ (es i).2.size ≤ maxLen) (g0 : verb.size ≤ 65536) (h : 65536 < term.size) : Calls Tryd.prog 5 #[.string verb, .string term, .int .u32 rid, .slice a n c, .int .i64 at_, .string pkg, .string ev, .bool opt] w fun e w' => e = .returned (.bool true) ∧ Below w.heap.size w w' := by
  have HM1 := hid m1
  have HM2 := hid m2
  have HM3 := hid m3
  have HM4 := hid m4
  have HM5 := hid m5
  have HS := hid hs
  have HM := hid hm
  unfold maxLen at m1 m2 m3 m4 m5
  clear hs hm
  have hd0 : decide (65536 < (verb.size : Int)) = false := decide_eq_false (by omega)
  have hd1 : decide (65536 < (term.size : Int)) = true := decide_eq_true (by omega)
  go_enter Tryd.func5, Tryd.ntmps5
  go_wp2_with (go_at_call 11; refine (bytes11_any verb term rid a n c at_ pkg ev opt es _ HM1.out HM2.out HM3.out HM4.out HM5.out HS.out HM.out).mono ?_; rintro e w1 ⟨bb, rfl, hsm, rfl⟩; have HSM0 := hid hsm; clear hsm; cases bb)
  all_goals go_ret
  all_goals exact ⟨rfl, Below.refl _ _⟩

set_option maxRecDepth 100000 in
set_option maxHeartbeats 4000000 in
theorem law_g2 (verb term : ByteArray) (rid : Nat) (a : Option Addr) (n c : Nat) (at_ : Int) (pkg ev : ByteArray) (opt : Bool) (es : Nat → ByteArray × ByteArray) (w : World) (m1 : verb.size ≤ maxLen) (m2 : term.size ≤ maxLen) (m3 : n ≤ maxLen) (m4 : pkg.size ≤ maxLen) (m5 : ev.size ≤ maxLen) (hs : Zev w a n es) (hm : ∀ i, i < n → (es i).1.size ≤ maxLen ∧ (es i).2.size ≤ maxLen) (g0 : verb.size ≤ 65536) (g1 : term.size ≤ 65536) (h : 65536 < pkg.size) : Calls Tryd.prog 5 #[.string verb, .string term, .int .u32 rid, .slice a n c, .int .i64 at_, .string pkg, .string ev, .bool opt] w fun e w' => e = .returned (.bool true) ∧ Below w.heap.size w w' := by
  have HM1 := hid m1
  have HM2 := hid m2
  have HM3 := hid m3
  have HM4 := hid m4
  have HM5 := hid m5
  have HS := hid hs
  have HM := hid hm
  unfold maxLen at m1 m2 m3 m4 m5
  clear hs hm
  have hd0 : decide (65536 < (verb.size : Int)) = false := decide_eq_false (by omega)
  have hd1 : decide (65536 < (term.size : Int)) = false := decide_eq_false (by omega)
  have hd2 : decide (65536 < (pkg.size : Int)) = true := decide_eq_true (by omega)
  go_enter Tryd.func5, Tryd.ntmps5
  go_wp2_with (go_at_call 11; refine (bytes11_any verb term rid a n c at_ pkg ev opt es _ HM1.out HM2.out HM3.out HM4.out HM5.out HS.out HM.out).mono ?_; rintro e w1 ⟨bb, rfl, hsm, rfl⟩; have HSM0 := hid hsm; clear hsm; cases bb)
  all_goals go_ret
  all_goals exact ⟨rfl, Below.refl _ _⟩

set_option maxRecDepth 100000 in
set_option maxHeartbeats 4000000 in
theorem law_g3 (verb term : ByteArray) (rid : Nat) (a : Option Addr) (n c : Nat) (at_ : Int) (pkg ev : ByteArray) (opt : Bool) (es : Nat → ByteArray × ByteArray) (w : World) (m1 : verb.size ≤ maxLen) (m2 : term.size ≤ maxLen) (m3 : n ≤ maxLen) (m4 : pkg.size ≤ maxLen) (m5 : ev.size ≤ maxLen) (hs : Zev w a n es) (hm : ∀ i, i < n → (es i).1.size ≤ maxLen ∧ (es i).2.size ≤ maxLen) (g0 : verb.size ≤ 65536) (g1 : term.size ≤ 65536) (g2 : pkg.size ≤ 65536) (h : 65536 < ev.size) : Calls Tryd.prog 5 #[.string verb, .string term, .int .u32 rid, .slice a n c, .int .i64 at_, .string pkg, .string ev, .bool opt] w fun e w' => e = .returned (.bool true) ∧ Below w.heap.size w w' := by
  have HM1 := hid m1
  have HM2 := hid m2
  have HM3 := hid m3
  have HM4 := hid m4
  have HM5 := hid m5
  have HS := hid hs
  have HM := hid hm
  unfold maxLen at m1 m2 m3 m4 m5
  clear hs hm
  have hd0 : decide (65536 < (verb.size : Int)) = false := decide_eq_false (by omega)
  have hd1 : decide (65536 < (term.size : Int)) = false := decide_eq_false (by omega)
  have hd2 : decide (65536 < (pkg.size : Int)) = false := decide_eq_false (by omega)
  have hd3 : decide (65536 < (ev.size : Int)) = true := decide_eq_true (by omega)
  go_enter Tryd.func5, Tryd.ntmps5
  go_wp2_with (go_at_call 11; refine (bytes11_any verb term rid a n c at_ pkg ev opt es _ HM1.out HM2.out HM3.out HM4.out HM5.out HS.out HM.out).mono ?_; rintro e w1 ⟨bb, rfl, hsm, rfl⟩; have HSM0 := hid hsm; clear hsm; cases bb)
  all_goals go_ret
  all_goals exact ⟨rfl, Below.refl _ _⟩

set_option maxRecDepth 100000 in
set_option maxHeartbeats 4000000 in
theorem law_g4 (verb term : ByteArray) (rid : Nat) (a : Option Addr) (n c : Nat) (at_ : Int) (pkg ev : ByteArray) (opt : Bool) (es : Nat → ByteArray × ByteArray) (w : World) (m1 : verb.size ≤ maxLen) (m2 : term.size ≤ maxLen) (m3 : n ≤ maxLen) (m4 : pkg.size ≤ maxLen) (m5 : ev.size ≤ maxLen) (hs : Zev w a n es) (hm : ∀ i, i < n → (es i).1.size ≤ maxLen ∧ (es i).2.size ≤ maxLen) (g0 : verb.size ≤ 65536) (g1 : term.size ≤ 65536) (g2 : pkg.size ≤ 65536) (g3 : ev.size ≤ 65536) (h : 65536 < n) : Calls Tryd.prog 5 #[.string verb, .string term, .int .u32 rid, .slice a n c, .int .i64 at_, .string pkg, .string ev, .bool opt] w fun e w' => e = .returned (.bool true) ∧ Below w.heap.size w w' := by
  have HM1 := hid m1
  have HM2 := hid m2
  have HM3 := hid m3
  have HM4 := hid m4
  have HM5 := hid m5
  have HS := hid hs
  have HM := hid hm
  unfold maxLen at m1 m2 m3 m4 m5
  clear hs hm
  have hd0 : decide (65536 < (verb.size : Int)) = false := decide_eq_false (by omega)
  have hd1 : decide (65536 < (term.size : Int)) = false := decide_eq_false (by omega)
  have hd2 : decide (65536 < (pkg.size : Int)) = false := decide_eq_false (by omega)
  have hd3 : decide (65536 < (ev.size : Int)) = false := decide_eq_false (by omega)
  have hd4 : decide (65536 < (n : Int)) = true := decide_eq_true (by omega)
  go_enter Tryd.func5, Tryd.ntmps5
  go_wp2_with (go_at_call 11; refine (bytes11_any verb term rid a n c at_ pkg ev opt es _ HM1.out HM2.out HM3.out HM4.out HM5.out HS.out HM.out).mono ?_; rintro e w1 ⟨bb, rfl, hsm, rfl⟩; have HSM0 := hid hsm; clear hsm; cases bb)
  all_goals go_ret
  all_goals exact ⟨rfl, Below.refl _ _⟩

set_option maxRecDepth 100000 in
set_option maxHeartbeats 4000000 in
theorem law_neg (verb term : ByteArray) (rid : Nat) (a : Option Addr) (n c : Nat) (at_ : Int) (pkg ev : ByteArray) (opt : Bool) (es : Nat → ByteArray × ByteArray) (w : World) (m1 : verb.size ≤ maxLen) (m2 : term.size ≤ maxLen) (m3 : n ≤ maxLen) (m4 : pkg.size ≤ maxLen) (m5 : ev.size ≤ maxLen) (hs : Zev w a n es) (hm : ∀ i, i < n → (es i).1.size ≤ maxLen ∧ (es i).2.size ≤ maxLen) (g0 : verb.size ≤ 65536) (g1 : term.size ≤ 65536) (g2 : pkg.size ≤ 65536) (g3 : ev.size ≤ 65536) (g4 : n ≤ 65536) (h : at_ < 0) : Calls Tryd.prog 5 #[.string verb, .string term, .int .u32 rid, .slice a n c, .int .i64 at_, .string pkg, .string ev, .bool opt] w fun e w' => e = .returned (.bool true) ∧ Below w.heap.size w w' := by
  have HM1 := hid m1
  have HM2 := hid m2
  have HM3 := hid m3
  have HM4 := hid m4
  have HM5 := hid m5
  have HS := hid hs
  have HM := hid hm
  unfold maxLen at m1 m2 m3 m4 m5
  clear hs hm
  have hd0 : decide (65536 < (verb.size : Int)) = false := decide_eq_false (by omega)
  have hd1 : decide (65536 < (term.size : Int)) = false := decide_eq_false (by omega)
  have hd2 : decide (65536 < (pkg.size : Int)) = false := decide_eq_false (by omega)
  have hd3 : decide (65536 < (ev.size : Int)) = false := decide_eq_false (by omega)
  have hd4 : decide (65536 < (n : Int)) = false := decide_eq_false (by omega)
  have hd6 : decide (at_ < 0) = true := decide_eq_true (by omega)
  go_enter Tryd.func5, Tryd.ntmps5
  go_wp2_with (go_at_call 11; refine (bytes11_any verb term rid a n c at_ pkg ev opt es _ HM1.out HM2.out HM3.out HM4.out HM5.out HS.out HM.out).mono ?_; rintro e w1 ⟨bb, rfl, hsm, rfl⟩; have HSM0 := hid hsm; clear hsm; cases bb)
  · go_ret
    exact ⟨rfl, Below.refl _ _⟩
  have HSM := hid (HSM0.out (by trivial))
  clear HSM0 HM
  go_loopw [17, 18] (fun t i wr => ∃ (j : Nat) (z : Int), j ≤ n ∧ i = .int .i64 j ∧ t = .int .i64 z ∧ 0 ≤ z ∧ z ≤ 1048576 ∧ Below w1.heap.size w1 wr) (fun _ i _ => n - (intOf i).toNat)
  case atStart => exact ⟨0, _, Nat.zero_le _, rfl, rfl, by omega, by omega, Below.refl _ _⟩
  case round =>
    obtain ⟨j, z, hj, rfl, rfl, hz0, hz1, hbr⟩ := hrel
    have HB := hid hbr
    by_cases hlt : j < n
    · obtain ⟨b, off, rfl, c0, c1⟩ := (HS.out.below hbr) j hlt
      obtain ⟨m0, m1'⟩ := HSM.out j hlt
      obtain ⟨x, hxe⟩ : ∃ x, es j = x := ⟨_, rfl⟩
      rw [hxe] at c0 c1 m0 m1'
      clear hxe hbr
      by_cases q1 : 1048576 < z + ((x.1.size : Int) + (x.2.size : Int))
      · go_wp2
        go_quiet (fail)
        go_wp2
        go_ret
        exact ⟨rfl, below_drewN HB.out _⟩
      · go_wp2
        go_quiet (fail)
        go_wp2
        go_roundw
        case rel => exact ⟨j + 1, _, by omega, by go_num, rfl, by omega, by omega, below_drewN HB.out _⟩
        case measure => simp [intOf]; omega
    · clear hbr
      go_wp2
      go_ret
      exact ⟨rfl, HB.out⟩

set_option maxRecDepth 100000 in
set_option maxHeartbeats 4000000 in
theorem law_far (verb term : ByteArray) (rid : Nat) (a : Option Addr) (n c : Nat) (at_ : Int) (pkg ev : ByteArray) (opt : Bool) (es : Nat → ByteArray × ByteArray) (w : World) (m1 : verb.size ≤ maxLen) (m2 : term.size ≤ maxLen) (m3 : n ≤ maxLen) (m4 : pkg.size ≤ maxLen) (m5 : ev.size ≤ maxLen) (hs : Zev w a n es) (hm : ∀ i, i < n → (es i).1.size ≤ maxLen ∧ (es i).2.size ≤ maxLen) (g0 : verb.size ≤ 65536) (g1 : term.size ≤ 65536) (g2 : pkg.size ≤ 65536) (g3 : ev.size ≤ 65536) (g4 : n ≤ 65536) (h0 : 0 ≤ at_) (h : (n : Int) < at_) : Calls Tryd.prog 5 #[.string verb, .string term, .int .u32 rid, .slice a n c, .int .i64 at_, .string pkg, .string ev, .bool opt] w fun e w' => e = .returned (.bool true) ∧ Below w.heap.size w w' := by
  have HM1 := hid m1
  have HM2 := hid m2
  have HM3 := hid m3
  have HM4 := hid m4
  have HM5 := hid m5
  have HS := hid hs
  have HM := hid hm
  unfold maxLen at m1 m2 m3 m4 m5
  clear hs hm
  have hd0 : decide (65536 < (verb.size : Int)) = false := decide_eq_false (by omega)
  have hd1 : decide (65536 < (term.size : Int)) = false := decide_eq_false (by omega)
  have hd2 : decide (65536 < (pkg.size : Int)) = false := decide_eq_false (by omega)
  have hd3 : decide (65536 < (ev.size : Int)) = false := decide_eq_false (by omega)
  have hd4 : decide (65536 < (n : Int)) = false := decide_eq_false (by omega)
  have hd6 : decide (at_ < 0) = false := decide_eq_false (by omega)
  have hd7 : decide ((n : Int) < at_) = true := decide_eq_true (by omega)
  go_enter Tryd.func5, Tryd.ntmps5
  go_wp2_with (go_at_call 11; refine (bytes11_any verb term rid a n c at_ pkg ev opt es _ HM1.out HM2.out HM3.out HM4.out HM5.out HS.out HM.out).mono ?_; rintro e w1 ⟨bb, rfl, hsm, rfl⟩; have HSM0 := hid hsm; clear hsm; cases bb)
  · go_ret
    exact ⟨rfl, Below.refl _ _⟩
  have HSM := hid (HSM0.out (by trivial))
  clear HSM0 HM
  go_loopw [17, 18] (fun t i wr => ∃ (j : Nat) (z : Int), j ≤ n ∧ i = .int .i64 j ∧ t = .int .i64 z ∧ 0 ≤ z ∧ z ≤ 1048576 ∧ Below w1.heap.size w1 wr) (fun _ i _ => n - (intOf i).toNat)
  case atStart => exact ⟨0, _, Nat.zero_le _, rfl, rfl, by omega, by omega, Below.refl _ _⟩
  case round =>
    obtain ⟨j, z, hj, rfl, rfl, hz0, hz1, hbr⟩ := hrel
    have HB := hid hbr
    by_cases hlt : j < n
    · obtain ⟨b, off, rfl, c0, c1⟩ := (HS.out.below hbr) j hlt
      obtain ⟨m0, m1'⟩ := HSM.out j hlt
      obtain ⟨x, hxe⟩ : ∃ x, es j = x := ⟨_, rfl⟩
      rw [hxe] at c0 c1 m0 m1'
      clear hxe hbr
      by_cases q1 : 1048576 < z + ((x.1.size : Int) + (x.2.size : Int))
      · go_wp2
        go_quiet (fail)
        go_wp2
        go_ret
        exact ⟨rfl, below_drewN HB.out _⟩
      · go_wp2
        go_quiet (fail)
        go_wp2
        go_roundw
        case rel => exact ⟨j + 1, _, by omega, by go_num, rfl, by omega, by omega, below_drewN HB.out _⟩
        case measure => simp [intOf]; omega
    · clear hbr
      go_wp2
      go_ret
      exact ⟨rfl, HB.out⟩

/-- The law holds of every input. -/
theorem law_all (verb term : ByteArray) (rid : Nat) (a : Option Addr) (n c : Nat) (at_ : Int) (pkg ev : ByteArray) (opt : Bool) (es : Nat → ByteArray × ByteArray) (w : World) (ht : Tab w) (hrid : rid < 4294967296) (ha : IsEv a n c) (m1 : verb.size ≤ maxLen) (m2 : term.size ≤ maxLen) (m3 : n ≤ maxLen) (m4 : pkg.size ≤ maxLen) (m5 : ev.size ≤ maxLen) (hs : Zev w a n es) (hm : ∀ i, i < n → (es i).1.size ≤ maxLen ∧ (es i).2.size ≤ maxLen) : Calls Tryd.prog 5 #[.string verb, .string term, .int .u32 rid, .slice a n c, .int .i64 at_, .string pkg, .string ev, .bool opt] w fun e w' => e = .returned (.bool true) ∧ Below w.heap.size w w' := by
  by_cases g0 : 65536 < verb.size
  · exact law_g0 verb term rid a n c at_ pkg ev opt es w m1 m2 m3 m4 m5 hs hm g0
  have g0 := Nat.le_of_not_lt g0
  by_cases g1 : 65536 < term.size
  · exact law_g1 verb term rid a n c at_ pkg ev opt es w m1 m2 m3 m4 m5 hs hm g0 g1
  have g1 := Nat.le_of_not_lt g1
  by_cases g2 : 65536 < pkg.size
  · exact law_g2 verb term rid a n c at_ pkg ev opt es w m1 m2 m3 m4 m5 hs hm g0 g1 g2
  have g2 := Nat.le_of_not_lt g2
  by_cases g3 : 65536 < ev.size
  · exact law_g3 verb term rid a n c at_ pkg ev opt es w m1 m2 m3 m4 m5 hs hm g0 g1 g2 g3
  have g3 := Nat.le_of_not_lt g3
  by_cases g4 : 65536 < n
  · exact law_g4 verb term rid a n c at_ pkg ev opt es w m1 m2 m3 m4 m5 hs hm g0 g1 g2 g3 g4
  have g4 := Nat.le_of_not_lt g4
  by_cases h : at_ < 0
  · exact law_neg verb term rid a n c at_ pkg ev opt es w m1 m2 m3 m4 m5 hs hm g0 g1 g2 g3 g4 h
  have h := Int.not_lt.mp h
  by_cases hf : (n : Int) < at_
  · exact law_far verb term rid a n c at_ pkg ev opt es w m1 m2 m3 m4 m5 hs hm g0 g1 g2 g3 g4 h hf
  obtain ⟨k, rfl⟩ : ∃ k : Nat, at_ = k := ⟨at_.toNat, by omega⟩
  exact law_in verb term rid a n c k pkg ev opt es w ht hrid ha g0 g1 g2 g3 g4 (by omega) hs hm
end Go.Proofs.Qxb6615981aDoor
