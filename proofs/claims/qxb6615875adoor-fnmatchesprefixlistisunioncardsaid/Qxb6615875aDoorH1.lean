import Derived.Test.Qxb6615875aDoorM3
namespace Go.Proofs.Qxb6615875aDoor
open Go.RowKit
set_option linter.unusedSimpArgs false

/-- What memory says of a slice of texts: the first n are ss 0, ss 1, .. -/
def Strs (w : World) (a : Option Addr) (n : Nat) (ss : Nat → ByteArray) : Prop := ∀ i, i < n → ∃ b off, a = some ⟨b, off, none⟩ ∧ w.cell? ⟨b, off + i, none⟩ = some (.string (ss i))
theorem Strs.below {w w' : World} {a : Option Addr} {n : Nat} {ss : Nat → ByteArray} (h : Strs w a n ss) (hb : Below w.heap.size w w') : Strs w' a n ss := fun i hi => by
  obtain ⟨b, off, e, hc⟩ := h i hi
  exact ⟨b, off, e, (hb.cell (p := ⟨b, off + i, none⟩) (block_lt_of_cell (a := ⟨b, off + i, none⟩) hc)).trans hc⟩

/-- Is s listed? (A nil list lists all.) -/
def listed (a : Option Addr) (n : Nat) (ss : Nat → ByteArray) (s : ByteArray) : Bool := a.isNone || (List.range n).any (fun i => (ss i).toList == s.toList)
theorem listed_yes {a : Option Addr} {n k : Nat} {ss : Nat → ByteArray} {s : ByteArray} (hk : k < n) (h : ((ss k).toList == s.toList) = true) : listed a n ss s = true := by
  unfold listed
  rw [List.any_eq_true.2 ⟨k, List.mem_range.2 hk, h⟩, Bool.or_true]
theorem listed_no {x : Addr} {n : Nat} {ss : Nat → ByteArray} {s : ByteArray} (h : ∀ j, j < n → ((ss j).toList == s.toList) = false) : listed (some x) n ss s = false := by
  unfold listed
  rw [List.any_eq_false.2 (fun j hj => by rw [h j (List.mem_range.1 hj)]; simp)]
  rfl

set_option maxHeartbeats 1000000 in
theorem inlist_any (a : Option Addr) (n c : Nat) (ss : Nat → ByteArray) (s : ByteArray) (w : World) (h : Strs w a n ss) (hn : n ≤ 4096) :
    Calls Tryd.prog 43 #[.slice a n c, .string s] w fun e w' => e = .returned (.bool (listed a n ss s)) ∧ w' = w := by
  have hnil := fun w => Lib.run_eql_slice_nil (P := Tryd.prog) w 60 9 a n c 0 0 Tryd.underlying60
  cases a with
  | none =>
    have e : listed none n ss s = true := rfl
    rw [e]
    go_enter Tryd.func43, Tryd.ntmps43
    go_wp2
    go_ret
    exact ⟨rfl, rfl⟩
  | some x =>
    have HS := hid h
    clear h
    go_enter Tryd.func43, Tryd.ntmps43
    go_wp2
    go_loop [11] (fun i => ∃ k : Nat, k ≤ n ∧ i = .int .i64 k ∧ ∀ j, j < k → ((ss j).toList == s.toList) = false) (fun i => n - (intOf i).toNat)
    case atStart => exact ⟨0, Nat.zero_le _, rfl, by omega⟩
    case round =>
      obtain ⟨k, hk, rfl, hno⟩ := hrel
      have HN := hid hno
      clear hno
      by_cases hlt : k < n
      · obtain ⟨b, off, e, hc⟩ := HS.out k hlt
        obtain rfl := Option.some.inj e
        clear e
        rcases Bool.eq_false_or_eq_true ((ss k).toList == s.toList) with he | he
        · have HL := hid (listed_yes (a := some ⟨b, off, none⟩) hlt he)
          go_wp2
          go_ret
          exact ⟨by rw [HL.out]; rfl, rfl⟩
        · have HE := hid he
          go_wp2
          go_round
          case rel => exact ⟨k + 1, by omega, by go_num, fun j hj => by
            by_cases e : j = k
            · rw [e]; exact HE.out
            · exact HN.out j (by omega)⟩
          case measure => simp [intOf]; omega
      · have HL := hid (listed_no (x := x) (n := n) (ss := ss) (s := s) (fun j hj => HN.out j (by omega)))
        go_wp2
        go_ret
        exact ⟨by rw [HL.out]; rfl, rfl⟩

set_option maxHeartbeats 1000000 in
theorem zzlisted_any (a : Option Addr) (n c : Nat) (ss : Nat → ByteArray) (s : ByteArray) (w : World) (h : Strs w a n ss) (hn : n ≤ 4096) :
    Calls Tryd.prog 17 #[.slice a n c, .string s] w fun e w' => e = .returned (.bool (listed a n ss s)) ∧ w' = w := by
  have hnil := fun w => Lib.run_eql_slice_nil (P := Tryd.prog) w 60 9 a n c 0 0 Tryd.underlying60
  cases a with
  | none =>
    have e : listed none n ss s = true := rfl
    rw [e]
    go_enter Tryd.func17, Tryd.ntmps17
    go_wp2
    go_ret
    exact ⟨rfl, rfl⟩
  | some x =>
    have HS := hid h
    clear h
    go_enter Tryd.func17, Tryd.ntmps17
    go_wp2
    go_loop [5] (fun i => ∃ k : Nat, k ≤ n ∧ i = .int .i64 k ∧ ∀ j, j < k → ((ss j).toList == s.toList) = false) (fun i => n - (intOf i).toNat)
    case atStart => exact ⟨0, Nat.zero_le _, rfl, by omega⟩
    case round =>
      obtain ⟨k, hk, rfl, hno⟩ := hrel
      have HN := hid hno
      clear hno
      by_cases hlt : k < n
      · obtain ⟨b, off, e, hc⟩ := HS.out k hlt
        obtain rfl := Option.some.inj e
        clear e
        rcases Bool.eq_false_or_eq_true ((ss k).toList == s.toList) with he | he
        · have HL := hid (listed_yes (a := some ⟨b, off, none⟩) hlt he)
          go_wp2
          go_ret
          exact ⟨by rw [HL.out]; rfl, rfl⟩
        · have HE := hid he
          go_wp2
          go_round
          case rel => exact ⟨k + 1, by omega, by go_num, fun j hj => by
            by_cases e : j = k
            · rw [e]; exact HE.out
            · exact HN.out j (by omega)⟩
          case measure => simp [intOf]; omega
      · have HL := hid (listed_no (x := x) (n := n) (ss := ss) (s := s) (fun j hj => HN.out j (by omega)))
        go_wp2
        go_ret
        exact ⟨by rw [HL.out]; rfl, rfl⟩

/-- The host's name. -/
def hostS : ByteArray := ⟨#[95, 102, 119]⟩
/-- Is the name the host's? -/
def isH (name : ByteArray) : Bool := name.toList == [95, 102, 119]

set_option maxHeartbeats 1000000 in
theorem isHost_any (zb zo : Nat) (name : ByteArray) (w : World) (h : w.cell? ⟨zb, zo, none⟩ = some (.string name)) :
    Calls Tryd.prog 42 #[.pointer (some ⟨zb, zo, none⟩)] w fun e w' => e = .returned (.bool (isH name)) ∧ w' = w := by
  go_enter Tryd.func42, Tryd.ntmps42
  go_wp2
  go_ret
  exact ⟨rfl, rfl⟩
end Go.Proofs.Qxb6615875aDoor
