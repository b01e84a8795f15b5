import Derived.Test.Qxb6615933aS6
import Derived.Deep.RegionLaw
namespace Go.Proofs.Qxb6615933a
open Go.RowKit
set_option linter.unusedSimpArgs false
set_option linter.unusedVariables false

/-- A block's cells, written over from o on. -/
def setAll (C : Array Value) : Nat → List Value → Array Value
  | _, [] => C
  | o, v :: r => setAll (C.setIfInBounds o v) (o + 1) r
theorem size_setAll : ∀ (vs : List Value) (C : Array Value) (o : Nat), (setAll C o vs).size = C.size
  | [], _, _ => rfl
  | v :: r, C, o => (size_setAll r _ _).trans (by simp)
theorem heap_setCells (pb : Nat) (t : TypeId) : ∀ (vs : List Value) (C : Array Value) (o : Nat) (w : World), w.heap[pb]? = some (.cells C t (0, 0)) → (w.setCells pb o vs).heap[pb]? = some (.cells (setAll C o vs) t (0, 0))
  | [], _, _, _, h => h
  | v :: r, C, o, w, h => heap_setCells pb t r _ (o + 1) _ (heap_setCell_same w pb o C t v h)
theorem below_setCells {B b : Nat} (hb : B ≤ b) : ∀ (vs : List Value) (o : Nat) {a w : World}, Below B a w → Below B a (w.setCells b o vs)
  | [], _, _, _, h => h
  | v :: r, o, _, _, h => below_setCells hb r (o + 1) (h.setCell (p := ⟨b, o, none⟩) hb v)
theorem spare_row {w : World} {q : Nat} {C : Array Value} {t : TypeId} (h : w.heap[q]? = some (.cells C t (0, 0))) {o n : Nat} (hn : o + n ≤ C.size) : ∀ j, j < n → (w.cell? ⟨q, o + j, none⟩).isSome = true ∧ w.frozen? ⟨q, o + j, none⟩ = false := fun j hj => by
  rw [cell_of_row w q (o + j) C t (0, 0) h, frozen_of_row w q (o + j) C t h]
  exact ⟨by simp; omega, rfl⟩

set_option maxHeartbeats 400000 in
theorem append_any (p m : ByteArray) (x : Value) (hx : x = .nilIface ∨ ∃ v, x = .iface 29 v) (g n q : Nat) (xs : List Value) (cs : Array Value) (w : World) (hm : n ≤ 1048576) (hq : w.heap[q]? = some (.cells cs 29 (0, 0))) (hcs : cs.size = (n + 1) * 3)
    (hxl : xs.length = n * 3) (hxc : ∀ j u, xs[j]? = some u → w.cell? ⟨g, j, none⟩ = some u) (hx1 : ∀ u ∈ xs, u.oneCell' = true) (hgq : g ≠ q) (hg : g < w.heap.size) :
    Calls Try.prog 29 #[.slice (some ⟨q, 0, none⟩) 0 (n + 1), .agg #[.string p, .string m, x, .slice (some ⟨g, 0, none⟩) n n]] w fun e w' => e = .returned (.slice (some ⟨q, 0, none⟩) (n + 1) (n + 1)) ∧
      ∃ wx, Below w.heap.size w wx ∧ w' = (wx.setCells q 0 [.string p, .string m, x]).setCells q 3 xs := by
  obtain ⟨i0, hi, hz0, hz1, hz2⟩ := info_parts Try.info29
  have hqs : q < w.heap.size := (Array.getElem?_eq_some_iff.1 hq).1
  have hbA : Below w.heap.size w (w.alloc (.cells #[.string p, .string m, x, .slice (some ⟨g, 0, none⟩) n n] 53)) := (Below.refl _ _).alloc (Nat.le_refl _) _
  have hbW : Below w.heap.size w ((w.alloc (.cells #[.string p, .string m, x, .slice (some ⟨g, 0, none⟩) n n] 53)).alloc (.cells #[.string p, .string m, x] 29)).drew := (hbA.alloc (by simp) _).drew
  have c1 : ∀ j u, ([.string p, .string m, x] : List Value)[j]? = some u → ((w.alloc (.cells #[.string p, .string m, x, .slice (some ⟨g, 0, none⟩) n n] 53)).alloc (.cells #[.string p, .string m, x] 29)).drew.cell? ((⟨w.heap.size + 1, 0, none⟩ : Addr).add j) = some u := by
    intro j u hu
    have := cell_of_row ((w.alloc (.cells #[.string p, .string m, x, .slice (some ⟨g, 0, none⟩) n n] 53)).alloc (.cells #[.string p, .string m, x] 29)) (w.heap.size + 1) j #[.string p, .string m, x] 29 (0, 0) (by
      have h := heap_alloc_new (w.alloc (.cells #[.string p, .string m, x, .slice (some ⟨g, 0, none⟩) n n] 53)) (.cells #[.string p, .string m, x] 29)
      simpa using h)
    rw [Addr.add_lit, Nat.zero_add]
    exact this.trans (by simpa using hu)
  have hc1 : ∀ u ∈ ([.string p, .string m, x] : List Value), u.oneCell' = true := by
    rcases hx with rfl | ⟨v, rfl⟩ <;> simp [Value.oneCell']
  generalize hW : ((w.alloc (.cells #[.string p, .string m, x, .slice (some ⟨g, 0, none⟩) n n] 53)).alloc (.cells #[.string p, .string m, x] 29)).drew = W at hbW c1
  have hqW : W.heap[q]? = some (.cells cs 29 (0, 0)) := (hbW.block q hqs).trans hq
  have hqW2 := heap_setCells q 29 [.string p, .string m, x] cs 0 W hqW
  have s1 := spare_row (o := 0 + 0 * 3) (n := ([.string p, .string m, x] : List Value).length) hqW (by simp; omega)
  have s2 := spare_row (o := 0 + (0 + 1) * 3) (n := xs.length) hqW2 (by rw [size_setAll]; omega)
  have hL : (W.setCells q 0 [.string p, .string m, x]).cell? ⟨w.heap.size, 3, none⟩ = some (.slice (some ⟨g, 0, none⟩) n n) := by
    rw [World.cell?_setCells_out q _ 0 W ⟨w.heap.size, 3, none⟩ (fun e => absurd e (by show w.heap.size ≠ q; omega)), ← hW]
    exact (cell_of_row _ w.heap.size 3 #[.string p, .string m, x, .slice (some ⟨g, 0, none⟩) n n] 53 (0, 0) (by
      show ((w.alloc _).alloc _).heap[w.heap.size]? = _
      rw [Below.heap_alloc _ _ _ (by simp)]
      exact heap_alloc_new _ _)).trans rfl
  have c2 : ∀ j u, xs[j]? = some u → (W.setCells q 0 [.string p, .string m, x]).cell? ((⟨g, 0, none⟩ : Addr).add j) = some u := by
    intro j u hu
    rw [Addr.add_lit, Nat.zero_add, World.cell?_setCells_out q _ 0 W ⟨g, j, none⟩ (fun e => absurd e hgq), hbW.cell (p := ⟨g, j, none⟩) hg]
    exact hxc j u hu
  subst hW
  have C1 := hid c1
  have HC1 := hid hc1
  have S1 := hid s1
  have S2 := hid s2
  have C2 := hid c2
  have X1 := hid hx1
  have XL := hid hxl
  have BW := hid hbW
  clear c1 hc1 s1 s2 c2 hx1 hxl hbW hqW hqW2 hbA hq hcs hxc
  rcases hx with rfl | ⟨v, rfl⟩
  · go_enter Try.func29, Try.ntmps29
    go_wp2
    go_region_law (first
      | (refine step_append_room rfl (.tmp 5) (.tmp 8) 38 ?_ 29 i0 3 Try.underlying38 hi hz1 q 0 0 (n + 1) ?_ ⟨w.heap.size + 1, 0, none⟩ 1 1 [.string p, .string m, .nilIface] ?_ ?_ ?_ ?_ ?_ ?_ ?_; exact rfl; simp [Act.eval, Act.put]; simp [Act.eval, Act.put]; exact rfl; exact C1.out; exact HC1.out; omega; exact S1.out)
      | (refine step_append_room rfl (.tmp 9) (.tmp 11) 38 ?_ 29 i0 3 Try.underlying38 hi hz1 q 0 1 (n + 1) ?_ ⟨g, 0, none⟩ n n xs ?_ ?_ ?_ ?_ ?_ ?_ ?_; exact rfl; simp [Act.eval, Act.put]; simp [Act.eval, Act.put]; exact XL.out; exact C2.out; exact X1.out; omega; exact S2.out))
    all_goals
      go_wp2
      go_ret
      exact ⟨by rw [Nat.add_comm n 1]; rfl, _, BW.out, rfl⟩
  · go_enter Try.func29, Try.ntmps29
    go_wp2
    go_region_law (first
      | (refine step_append_room rfl (.tmp 5) (.tmp 8) 38 ?_ 29 i0 3 Try.underlying38 hi hz1 q 0 0 (n + 1) ?_ ⟨w.heap.size + 1, 0, none⟩ 1 1 [.string p, .string m, .iface 29 v] ?_ ?_ ?_ ?_ ?_ ?_ ?_; exact rfl; simp [Act.eval, Act.put]; simp [Act.eval, Act.put]; exact rfl; exact C1.out; exact HC1.out; omega; exact S1.out)
      | (refine step_append_room rfl (.tmp 9) (.tmp 11) 38 ?_ 29 i0 3 Try.underlying38 hi hz1 q 0 1 (n + 1) ?_ ⟨g, 0, none⟩ n n xs ?_ ?_ ?_ ?_ ?_ ?_ ?_; exact rfl; simp [Act.eval, Act.put]; simp [Act.eval, Act.put]; exact XL.out; exact C2.out; exact X1.out; omega; exact S2.out))
    all_goals
      go_wp2
      go_ret
      exact ⟨by rw [Nat.add_comm n 1]; rfl, _, BW.out, rfl⟩

end Go.Proofs.Qxb6615933a
