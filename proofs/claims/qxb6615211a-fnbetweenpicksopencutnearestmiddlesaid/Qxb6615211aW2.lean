import Derived.Test.Qxb6615211aW1
namespace Go.Proofs.Qxb6615211a
open Go.RowKit
open Plain

set_option maxHeartbeats 400000 in
theorem try_yes (sb bb p1 p2 : Nat) (g b : Int) (bl : Nat → Bool) (len cap : Nat) (c : Int) (w : World) (hs : Srch w sb bb g b bl len cap) (hg : 0 ≤ g) (hb : b < len)
    (h1 : w.cell? ⟨p1, 0, none⟩ = some (.pointer (some ⟨sb, 0, none⟩))) (h2 : w.cell? ⟨p2, 0, none⟩ = some (.func (.func 12) #[] #[])) (ho : opn g b bl c = true) :
    Calls Try.prog 14 #[.int .i64 c, .pointer (some ⟨p1, 0, none⟩), .pointer (some ⟨p2, 0, none⟩)] w fun e w' => e = .returned (.tuple #[.int .i64 c, .nilIface]) ∧ w' = w := by
  have HO : Hid (opn g b bl c = true) := ho
  clear ho
  go_enter Try.func14, Try.ntmps14
  go_wp2_with (first | (go_at_call 15; refine (open_any sb bb g b bl len cap c _ hs hg hb).mono ?_; rw [HO.out]; rintro e w' ⟨rfl, rfl⟩) | (go_at_call 12; go_in))
  go_ret2
  exact ⟨rfl, rfl⟩

set_option maxHeartbeats 400000 in
theorem try_no (sb bb p1 p2 : Nat) (g b : Int) (bl : Nat → Bool) (len cap : Nat) (c : Int) (w : World) (hs : Srch w sb bb g b bl len cap) (hg : 0 ≤ g) (hb : b < len)
    (h1 : w.cell? ⟨p1, 0, none⟩ = some (.pointer (some ⟨sb, 0, none⟩))) (ho : opn g b bl c = false) :
    Calls Try.prog 14 #[.int .i64 c, .pointer (some ⟨p1, 0, none⟩), .pointer (some ⟨p2, 0, none⟩)] w fun e w' => e = .returned (.tuple #[.int .i64 0, .nilIface]) ∧ w' = w := by
  have HO : Hid (opn g b bl c = false) := ho
  clear ho
  go_enter Try.func14, Try.ntmps14
  go_wp2_with (first | (go_at_call 15; refine (open_any sb bb g b bl len cap c _ hs hg hb).mono ?_; rw [HO.out]; rintro e w' ⟨rfl, rfl⟩))
  go_ret2
  exact ⟨rfl, rfl⟩

set_option maxHeartbeats 1000000 in
theorem near_any (bb : Nat) (g b hint : Int) (bl : Nat → Bool) (len cap : Nat) (w : World) (hc : ∀ i, i < len → w.cell? ⟨bb, i, none⟩ = some (.bool (bl i))) (hg : 0 ≤ g) (hgb : g ≤ b) (hb : b < len) (hl : len ≤ 65536) :
    Calls Try.prog 8 #[.int .i64 g, .int .i64 b, .slice (some ⟨bb, 0, none⟩) len cap, .int .i64 hint] w fun e w' => ∃ r, e = .returned (.int .i64 r) ∧ Best g b bl (g + (b - g + 1) / 2) hint r ∧ w' = w := by
  have HC : Hid (∀ i, i < len → w.cell? ⟨bb, i, none⟩ = some (.bool (bl i))) := hc
  clear hc
  go_enter Try.func8, Try.ntmps8
  go_wp2
  go_loop [10, 11, 12] (fun x y z => ∃ best br c : Int, x = .int .i64 best ∧ y = .int .i64 br ∧ z = .int .i64 c ∧ g < c ∧ c ≤ b + 1 ∧ Upto g b bl (g + (b - g + 1) / 2) hint c best br) (fun _ _ z => (b + 1 - intOf z).toNat)
  case atStart => exact ⟨0, -1, g + 1, rfl, rfl, rfl, by omega, by omega, upto_start _ _ _ _ _⟩
  case round =>
    obtain ⟨best, br, c, rfl, rfl, rfl, hgc, hcb, hu⟩ := hrel
    have HU : Hid (Upto g b bl (g + (b - g + 1) / 2) hint c best br) := hu
    have hbr := upto_br hu
    clear hu
    by_cases hlt : c < b
    · obtain ⟨k, rfl⟩ := Int.eq_ofNat_of_zero_le (show 0 ≤ c by omega)
      have hk : (k : Int) < (len : Int) := by omega
      have hcell := HC.out k (by omega)
      cases hbk : bl k with
      | true =>
        rw [hbk] at hcell
        have HO : Hid (opn g b bl (k : Int) = false) := opn_blind (by simpa using hbk)
        clear hbk
        go_wp2
        go_round
        case rel => exact ⟨best, br, (k : Int) + 1, rfl, rfl, rfl, by omega, by omega, upto_skip HU.out HO.out⟩
        case measure => simp [intOf]; omega
      | false =>
        rw [hbk] at hcell
        have HO : Hid (opn g b bl (k : Int) = true) := opn_mk hgc hlt (by simpa using hbk)
        clear hbk
        obtain ⟨rk, hrk⟩ : ∃ rk, rk = rank (k : Int) (g + (b - g + 1) / 2) hint := ⟨_, rfl⟩
        have HR : Hid (rk = rank (k : Int) (g + (b - g + 1) / 2) hint) := hrk
        clear hrk
        by_cases ht : br < 0
        · go_wp2_with (first | (go_at_call 13; refine (rank_any _ _ _ _ ⟨by omega, by omega⟩ ⟨by omega, by omega⟩).mono ?_; rw [← HR.out]; rintro e w' ⟨rfl, rfl⟩))
          go_round
          case rel => exact ⟨_, _, (k : Int) + 1, rfl, rfl, rfl, by omega, by omega, by rw [HR.out]; exact upto_take HU.out HO.out (.inl ht)⟩
          case measure => simp [intOf]; omega
        · by_cases ht2 : rk < br
          · go_wp2_with (first | (go_at_call 13; refine (rank_any _ _ _ _ ⟨by omega, by omega⟩ ⟨by omega, by omega⟩).mono ?_; rw [← HR.out]; rintro e w' ⟨rfl, rfl⟩))
            go_round
            case rel => exact ⟨_, _, (k : Int) + 1, rfl, rfl, rfl, by omega, by omega, by rw [HR.out]; exact upto_take HU.out HO.out (.inr (by rw [← HR.out]; exact ht2))⟩
            case measure => simp [intOf]; omega
          · go_wp2_with (first | (go_at_call 13; refine (rank_any _ _ _ _ ⟨by omega, by omega⟩ ⟨by omega, by omega⟩).mono ?_; rw [← HR.out]; rintro e w' ⟨rfl, rfl⟩))
            go_round
            case rel => exact ⟨_, _, (k : Int) + 1, rfl, rfl, rfl, by omega, by omega, upto_keep HU.out (by rw [← HR.out]; omega)⟩
            case measure => simp [intOf]; omega
    · go_wp2
      go_ret
      exact ⟨best, rfl, upto_end HU.out (by omega), rfl⟩
end Go.Proofs.Qxb6615211a
