import Derived.Test.Qxb6615211aW4
namespace Go.Proofs.Qxb6615211a
open Go.RowKit
open Plain

/-- The law returns true at once: the slice is too long, or the numbers do not fit. -/
theorem law_out (g b hint : Int) (a : Option Addr) (len cap : Nat) (w : World) (hm : len ≤ maxLen) (h : 65536 < len ∨ g < 0 ∨ b < g ∨ (len : Int) ≤ b) :
    Calls Try.prog 3 #[.int .i64 g, .int .i64 b, .slice a len cap, .int .i64 hint] w fun e w' => e = .returned (.bool true) ∧ w' = w := by
  unfold maxLen at hm
  by_cases h1 : 1048576 < len
  · clear h
    go_enter Try.func3, Try.ntmps3
    go_wp2
    go_ret
    exact ⟨rfl, rfl⟩
  by_cases h2 : 65536 < len
  · clear h
    go_enter Try.func3, Try.ntmps3
    go_wp2
    go_ret
    exact ⟨rfl, rfl⟩
  by_cases h3 : g < 0
  · clear h
    go_enter Try.func3, Try.ntmps3
    go_wp2
    go_ret
    exact ⟨rfl, rfl⟩
  by_cases h4 : b < g
  · clear h
    go_enter Try.func3, Try.ntmps3
    go_wp2
    go_ret
    exact ⟨rfl, rfl⟩
  have h5 : (len : Int) ≤ b := by omega
  clear h
  go_enter Try.func3, Try.ntmps3
  go_wp2
  go_ret
  exact ⟨rfl, rfl⟩

theorem srch_new (w w1 : World) (len : Nat) (g b : Int) (bl : Nat → Bool) (x y : Value) (hsz : w.heap.size < w1.heap.size) (hc : ∀ j, j < len → w1.cell? ⟨w.heap.size, j, none⟩ = some (.bool (bl j))) :
    Srch (w1.alloc (.cells #[x, y, .int .i64 g, .int .i64 b, .slice (some ⟨w.heap.size, 0, none⟩) len len] 35)) w1.heap.size w.heap.size g b bl len len :=
  ⟨by rw [World.cell?_alloc_at _ _ _ _ rfl]; rfl, by rw [World.cell?_alloc_at _ _ _ _ rfl]; rfl, by rw [World.cell?_alloc_at _ _ _ _ rfl]; rfl, fun i hi => by rw [World.cell?_alloc_past _ _ _ hsz]; exact hc i hi⟩

set_option maxHeartbeats 1000000 in
theorem law_in (g b hint : Int) (b0 off : Nat) (len cap : Nat) (bl : Nat → Bool) (w : World) (hl : len ≤ 65536) (hg : 0 ≤ g) (hgb : g ≤ b) (hb : b < len) (hb0 : b0 < w.heap.size) (hc : ∀ i, i < len → w.cell? ⟨b0, off + i, none⟩ = some (.bool (bl i))) :
    Calls Try.prog 3 #[.int .i64 g, .int .i64 b, .slice (some ⟨b0, off, none⟩) len cap, .int .i64 hint] w fun e w' => e = .returned (.bool true) ∧ Below w.heap.size w w' := by
  have HC : Hid (∀ i, i < len → w.cell? ⟨b0, off + i, none⟩ = some (.bool (bl i))) := hc
  clear hc
  go_enter Try.func3, Try.ntmps3
  go_wp2_with (first | (go_at_call 5; refine (clone_any b0 off len cap bl _ hl hb0 HC.out).mono ?_; rintro e w1 ⟨rfl, hcl, hsz, hbel⟩) | (go_at_call 11; refine (between_any w1.heap.size w.heap.size g b hint bl len len _ (srch_new w w1 len g b bl _ _ hsz hcl) (by simp) (by simp; omega) hg hgb hb hl).mono ?_; rintro e w2 ⟨r, rfl, hbest, hbel2⟩; have hsr := (srch_new w w1 len g b bl (.string ⟨#[]⟩) (.slice none 0 0) hsz hcl).below hbel2 (by simp) (by simp; omega); have hgood := hsr.good; have hbad := hsr.bad; have HCL : Hid (∀ i, i < len → w2.cell? ⟨w.heap.size, i, none⟩ = some (.bool (bl i))) := hsr.cells; have HB : Hid (Best g b bl (g + (b - g + 1) / 2) hint r) := hbest; clear hsr hbest hcl) | (go_at_call 8; refine (near_any w.heap.size g b hint bl len len _ HCL.out hg hgb hb hl).mono ?_; rintro e w3 ⟨r', rfl, hbest', rfl⟩; obtain rfl := hbest'.uniq HB.out; clear hbest') | go_in)
  go_ret
  exact ⟨rfl, hbel.trans (((Below.refl _ _).alloc (by omega) _).trans (hbel2.mono (by simp; omega)))⟩
end Go.Proofs.Qxb6615211a
