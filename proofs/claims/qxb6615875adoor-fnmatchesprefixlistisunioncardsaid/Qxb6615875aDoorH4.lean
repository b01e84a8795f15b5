import Derived.Test.Qxb6615875aDoorH3
namespace Go.Proofs.Qxb6615875aDoor
open Go.RowKit
set_option linter.unusedSimpArgs false
set_option linter.unusedVariables false

/-- What zzBytes leaves. -/
def Res16 (il : Nat) (ss : Nat → ByteArray) (w : World) (e : Ending) (w' : World) : Prop := ∃ b, e = .returned (.bool b) ∧ (b = true → ∀ i, i < il → (ss i).size ≤ 1048576) ∧ Below w.heap.size w w'
theorem res16_no {il : Nat} {ss : Nat → ByteArray} {w w' : World} {e : Ending} (h : e = .returned (.bool false)) (hb : Below w.heap.size w w') : Res16 il ss w e w' := ⟨false, h, fun h => (by cases h), hb⟩
theorem res16_yes {il : Nat} {ss : Nat → ByteArray} {w w' : World} {e : Ending} (h : e = .returned (.bool true)) (ha : ∀ i, i < il → (ss i).size ≤ 1048576) (hb : Below w.heap.size w w') : Res16 il ss w e w' := ⟨true, h, fun _ => ha, hb⟩

set_option maxHeartbeats 2000000 in
theorem bytes16_any (proto : Int) (iif oif : ByteArray) (is4 : Bool) (sb db : Nat → UInt8) (name : ByteArray) (ia : Option Addr) (il ic : Nat) (ss : Nat → ByteArray) (w : World) (h1 : iif.size ≤ maxLen) (h2 : oif.size ≤ maxLen) (h3 : name.size ≤ maxLen) (h4 : il ≤ maxLen) (hs : Strs w ia il ss) (hm : ∀ i, i < il → (ss i).size ≤ maxLen) :
    Calls Tryd.prog 16 #[.int .u8 proto, .string iif, .string oif, .bool is4, .agg (cells16 sb), .agg (cells16 db), .string name, .slice ia il ic] w fun e w' => Res16 il ss w e w' := by
  have hbel : Below w.heap.size w ((w.alloc (.cells (cells16 sb) 22)).alloc (.cells (cells16 db) 22)) := ((Below.refl _ _).alloc (Nat.le_refl _) _).alloc (by simp) _
  have HB := hid hbel
  have HM := hid hm
  have HS := hid (hs.below hbel)
  clear hbel hm hs
  unfold maxLen at h1 h2 h3 h4
  by_cases g1 : 1048576 < iif.size
  · go_enter Tryd.func16, Tryd.ntmps16
    go_wp2
    go_ret
    exact res16_no rfl HB.out
  by_cases g2 : 1048576 < oif.size
  · go_enter Tryd.func16, Tryd.ntmps16
    go_wp2
    go_ret
    exact res16_no rfl HB.out
  by_cases g2' : 1048576 < iif.size + oif.size
  · go_enter Tryd.func16, Tryd.ntmps16
    go_wp2
    go_ret
    exact res16_no rfl HB.out
  by_cases g3 : 1048576 < name.size
  · go_enter Tryd.func16, Tryd.ntmps16
    go_wp2
    go_ret
    exact res16_no rfl HB.out
  by_cases g3' : 1048576 < iif.size + oif.size + name.size
  · go_enter Tryd.func16, Tryd.ntmps16
    go_wp2
    go_ret
    exact res16_no rfl HB.out
  by_cases g4 : 1048576 < il
  · go_enter Tryd.func16, Tryd.ntmps16
    go_wp2
    go_ret
    exact res16_no rfl HB.out
  by_cases g4' : 1048576 < iif.size + oif.size + name.size + il
  · go_enter Tryd.func16, Tryd.ntmps16
    go_wp2
    go_ret
    exact res16_no rfl HB.out
  go_enter Tryd.func16, Tryd.ntmps16
  go_wp2
  go_loop [17, 18] (fun t i => ∃ (k : Nat) (n : Int), k ≤ il ∧ i = .int .i64 k ∧ t = .int .i64 n ∧ 0 ≤ n ∧ n ≤ 1048576 ∧ ∀ j, j < k → (ss j).size ≤ 1048576) (fun _ i => il - (intOf i).toNat)
  case atStart => exact ⟨0, _, Nat.zero_le _, rfl, rfl, by omega, by omega, by omega⟩
  case round =>
    obtain ⟨k, n, hk, rfl, rfl, hn0, hn1, hall⟩ := hrel
    have HA := hid hall
    clear hall
    by_cases hlt : k < il
    · obtain ⟨b, off, rfl, hc⟩ := HS.out k hlt
      have hmk := HM.out k hlt
      unfold maxLen at hmk
      obtain ⟨s, hse⟩ : ∃ s, s = ss k := ⟨_, rfl⟩
      rw [← hse] at hc hmk
      have HE := hid hse
      clear hse
      by_cases q1 : 1048576 < s.size
      · go_wp2
        go_ret
        exact res16_no rfl HB.out
      by_cases q2 : 1048576 < n + (s.size : Int)
      · go_wp2
        go_ret
        exact res16_no rfl HB.out
      go_wp2
      go_round
      case rel => exact ⟨k + 1, _, by omega, by go_num, rfl, by omega, by omega, fun j hj => by
        by_cases e : j = k
        · rw [e, ← HE.out]; omega
        · exact HA.out j (by omega)⟩
      case measure => simp [intOf]; omega
    · go_wp2
      go_ret
      exact res16_yes rfl (fun i hi => HA.out i (by omega)) HB.out

/-- A rule's ten cells. -/
def ruleV (inV outV srcV destV svcV : Value) : Array Value := #[.string ⟨#[]⟩, .string ⟨#[]⟩, .int .i64 0, .int .u32 0, inV, outV, srcV, destV, svcV, .string ⟨#[]⟩]

set_option maxRecDepth 100000 in
set_option maxHeartbeats 1000000 in
theorem zzm_any (rb : Nat) (proto sh sl dh dl sp dp ty co : Int) (sz dz : Addr) (iif oif : ByteArray) (b : Bool) (w : World)
    (K : ∀ W, Below w.heap.size w W → Calls Tryd.prog 22 #[.pointer (some ⟨rb, 0, none⟩), .agg (pkt proto sh sl sz dh dl dz sp dp ty co iif oif)] W fun e W' => e = .returned (.bool b) ∧ Below W.heap.size W W') :
    Calls Tryd.prog 11 #[.pointer (some ⟨rb, 0, none⟩), .agg (pkt proto sh sl sz dh dl dz sp dp ty co iif oif)] w fun e w' => e = .returned (.bool b) ∧ Below w.heap.size w w' := by
  have HK := hid K
  clear K
  have HB := hid (show Below w.heap.size w (w.alloc (.cells (pkt proto sh sl sz dh dl dz sp dp ty co iif oif) 35)) from (Below.refl _ _).alloc (Nat.le_refl _) _)
  have HR := hid (heap_alloc_new w (.cells (pkt proto sh sl sz dh dl dz sp dp ty co iif oif) 35))
  go_enter Tryd.func11, Tryd.ntmps11
  go_wp2_with (first
    | (refine wpList_load_row rfl 35 (.tmp 3) rfl w.heap.size rfl 35 _ (0, 0) _ HR.out Tryd.underlying35 rfl size35 ?_)
    | (go_at_call 22; refine (HK.out _ HB.out).mono ?_; rintro e w2 ⟨rfl, hb2⟩))
  go_ret
  exact ⟨rfl, HB.out.trans (hb2.mono (by simp))⟩

/-- A rule that lies whole in a block, asked of a packet. -/
theorem zz_rule (rb : Nat) (inV outV srcV destV svcV : Value) (hin : ∃ a n c, inV = .slice a n c) (hou : ∃ a n c, outV = .slice a n c) (hsr : ∃ a n c, srcV = .slice a n c) (hde : ∃ a n c, destV = .slice a n c) (proto sh sl dh dl sp dp ty co : Int) (sz dz : Addr) (iif oif : ByteArray) (w : World)
    (hr : w.heap[rb]? = some (.cells (ruleV inV outV srcV destV svcV) 51 (0, 0))) (b1 b2 b3 b4 b5 : Bool)
    (K1 : ∀ W, Below w.heap.size w W → Calls Tryd.prog 30 #[inV, .agg (sideV (path iif oif == 2) iif sh sl sz)] W fun e W' => e = .returned (.bool b1) ∧ Below W.heap.size W W')
    (K2 : ∀ W, Below w.heap.size w W → Calls Tryd.prog 30 #[outV, .agg (sideV (path iif oif == 0) oif dh dl dz)] W fun e W' => e = .returned (.bool b2) ∧ Below W.heap.size W W')
    (K3 : ∀ W, Below w.heap.size w W → Calls Tryd.prog 31 #[srcV, .agg #[.int .u64 sh, .int .u64 sl, .pointer (some sz)]] W fun e W' => e = .returned (.bool b3) ∧ Below W.heap.size W W')
    (K4 : ∀ W, Below w.heap.size w W → Calls Tryd.prog 31 #[destV, .agg #[.int .u64 dh, .int .u64 dl, .pointer (some dz)]] W fun e W' => e = .returned (.bool b4) ∧ Below W.heap.size W W')
    (K5 : ∀ W, Below w.heap.size w W → Calls Tryd.prog 32 #[(.pointer (some ⟨rb, 0, none⟩)), .agg (pkt proto sh sl sz dh dl dz sp dp ty co iif oif)] W fun e W' => e = .returned (.bool b5) ∧ Below W.heap.size W W') :
    Calls Tryd.prog 11 #[.pointer (some ⟨rb, 0, none⟩), .agg (pkt proto sh sl sz dh dl dz sp dp ty co iif oif)] w fun e w' => e = .returned (.bool (b1 && (b2 && (b3 && (b4 && b5))))) ∧ Below w.heap.size w w' := by
  refine zzm_any rb proto sh sl dh dl sp dp ty co sz dz iif oif _ w (fun W hW => ?_)
  have hrW : W.heap[rb]? = some (.cells (ruleV inV outV srcV destV svcV) 51 (0, 0)) := (hW.block _ (heap_lt hr)).trans hr
  refine matches_any rb inV outV srcV destV hin hou hsr hde proto sh sl dh dl sp dp ty co sz dz iif oif W ?_ ?_ ?_ ?_ b1 b2 b3 b4 b5 (fun V hV => K1 V (hW.trans (hV.mono hW.size))) (fun V hV => K2 V (hW.trans (hV.mono hW.size))) (fun V hV => K3 V (hW.trans (hV.mono hW.size))) (fun V hV => K4 V (hW.trans (hV.mono hW.size))) (fun V hV => K5 V (hW.trans (hV.mono hW.size)))
  all_goals (rw [cell_of_row W rb _ _ 51 (0, 0) hrW]; rfl)
theorem svc_nil {w : World} {rb : Nat} {inV outV srcV destV : Value} (hr : w.heap[rb]? = some (.cells (ruleV inV outV srcV destV (.slice none 0 0)) 51 (0, 0))) (proto sh sl dh dl sp dp ty co : Int) (sz dz : Addr) (iif oif : ByteArray) :
    ∀ W, Below w.heap.size w W → Calls Tryd.prog 32 #[(.pointer (some ⟨rb, 0, none⟩)), .agg (pkt proto sh sl sz dh dl dz sp dp ty co iif oif)] W fun e W' => e = .returned (.bool true) ∧ Below W.heap.size W W' := fun W hW =>
  services_nil rb proto sh sl dh dl sp dp ty co sz dz iif oif W (by
    have hrW := (hW.block _ (heap_lt hr)).trans hr
    rw [cell_of_row W rb 8 _ 51 (0, 0) hrW]; rfl)
end Go.Proofs.Qxb6615875aDoor
