import Derived.Test.Qxb6615875aDoorM2
namespace Go.Proofs.Qxb6615875aDoor
open Go.RowKit

theorem matches_any (rb : Nat) (inV outV srcV destV : Value) (hin : ∃ a n c, inV = .slice a n c) (hou : ∃ a n c, outV = .slice a n c) (hsr : ∃ a n c, srcV = .slice a n c) (hde : ∃ a n c, destV = .slice a n c) (proto sh sl dh dl sp dp ty co : Int) (sz dz : Addr) (iif oif : ByteArray) (w : World)
    (h4 : w.cell? ⟨rb, 4, none⟩ = some inV) (h5 : w.cell? ⟨rb, 5, none⟩ = some outV) (h6 : w.cell? ⟨rb, 6, none⟩ = some srcV) (h7 : w.cell? ⟨rb, 7, none⟩ = some destV) (b1 b2 b3 b4 b5 : Bool)
    (K1 : ∀ W, Below w.heap.size w W → Calls Tryd.prog 30 #[inV, .agg (sideV (path iif oif == 2) iif sh sl sz)] W fun e W' => e = .returned (.bool b1) ∧ Below W.heap.size W W')
    (K2 : ∀ W, Below w.heap.size w W → Calls Tryd.prog 30 #[outV, .agg (sideV (path iif oif == 0) oif dh dl dz)] W fun e W' => e = .returned (.bool b2) ∧ Below W.heap.size W W')
    (K3 : ∀ W, Below w.heap.size w W → Calls Tryd.prog 31 #[srcV, .agg #[.int .u64 sh, .int .u64 sl, .pointer (some sz)]] W fun e W' => e = .returned (.bool b3) ∧ Below W.heap.size W W')
    (K4 : ∀ W, Below w.heap.size w W → Calls Tryd.prog 31 #[destV, .agg #[.int .u64 dh, .int .u64 dl, .pointer (some dz)]] W fun e W' => e = .returned (.bool b4) ∧ Below W.heap.size W W')
    (K5 : ∀ W, Below w.heap.size w W → Calls Tryd.prog 32 #[(.pointer (some ⟨rb, 0, none⟩)), .agg (pkt proto sh sl sz dh dl dz sp dp ty co iif oif)] W fun e W' => e = .returned (.bool b5) ∧ Below W.heap.size W W') :
    Calls Tryd.prog 22 #[.pointer (some ⟨rb, 0, none⟩), .agg (pkt proto sh sl sz dh dl dz sp dp ty co iif oif)] w fun e w' => e = .returned (.bool (b1 && (b2 && (b3 && (b4 && b5))))) ∧ Below w.heap.size w w' := by
  cases b1
  · exact matches_0 rb inV outV srcV destV hin hou hsr hde proto sh sl dh dl sp dp ty co sz dz iif oif w h4 h5 h6 h7 K1
  cases b2
  · exact matches_1 rb inV outV srcV destV hin hou hsr hde proto sh sl dh dl sp dp ty co sz dz iif oif w h4 h5 h6 h7 K1 K2
  cases b3
  · exact matches_2 rb inV outV srcV destV hin hou hsr hde proto sh sl dh dl sp dp ty co sz dz iif oif w h4 h5 h6 h7 K1 K2 K3
  cases b4
  · exact matches_3 rb inV outV srcV destV hin hou hsr hde proto sh sl dh dl sp dp ty co sz dz iif oif w h4 h5 h6 h7 K1 K2 K3 K4
  exact matches_4 rb inV outV srcV destV hin hou hsr hde proto sh sl dh dl sp dp ty co sz dz iif oif w h4 h5 h6 h7 b5 K1 K2 K3 K4 K5

set_option maxHeartbeats 1000000 in
theorem zones_nil (host : Bool) (ifc : ByteArray) (hi lo : Int) (z : Addr) (w : World) :
    Calls Tryd.prog 30 #[.slice none 0 0, .agg (sideV host ifc hi lo z)] w fun e w' => e = .returned (.bool true) ∧ Below w.heap.size w w' := by
  have hn := fun w => Lib.run_eql_slice_nil (P := Tryd.prog) w 47 63 none 0 0 0 0 Tryd.underlying47
  unfold sideV
  go_enter Tryd.func30, Tryd.ntmps30
  go_wp2
  go_ret
  exact ⟨rfl, (Below.refl _ _).alloc (Nat.le_refl _) _⟩

set_option maxHeartbeats 1000000 in
theorem prefixes_nil (hi lo : Int) (z : Addr) (w : World) :
    Calls Tryd.prog 31 #[.slice none 0 0, .agg #[.int .u64 hi, .int .u64 lo, .pointer (some z)]] w fun e w' => e = .returned (.bool true) ∧ Below w.heap.size w w' := by
  have hn := fun w => Lib.run_eql_slice_nil (P := Tryd.prog) w 48 75 none 0 0 0 0 Tryd.underlying48
  go_enter Tryd.func31, Tryd.ntmps31
  go_wp2
  go_ret
  exact ⟨rfl, (Below.refl _ _).alloc (Nat.le_refl _) _⟩

set_option maxHeartbeats 1000000 in
theorem services_nil (rb : Nat) (proto sh sl dh dl sp dp ty co : Int) (sz dz : Addr) (iif oif : ByteArray) (w : World) (h8 : w.cell? ⟨rb, 8, none⟩ = some (.slice none 0 0)) :
    Calls Tryd.prog 32 #[.pointer (some ⟨rb, 0, none⟩), .agg (pkt proto sh sl sz dh dl dz sp dp ty co iif oif)] w fun e w' => e = .returned (.bool true) ∧ Below w.heap.size w w' := by
  have hn := fun w => Lib.run_eql_slice_nil (P := Tryd.prog) w 45 44 none 0 0 0 0 Tryd.underlying45
  have hlt : rb < w.heap.size := block_lt_of_cell (a := ⟨rb, 8, none⟩) h8
  unfold pkt
  go_enter Tryd.func32, Tryd.ntmps32
  go_wp2
  exact bodyPost_ret (v := .bool true) (by simp [results, Tryd.results32, go_sem]) rfl ⟨rfl, ((Below.refl _ _).alloc (Nat.le_refl _) _).alloc (by simp) _⟩
end Go.Proofs.Qxb6615875aDoor
