import Derived.Test.Qxb6615981aDoorQ7
namespace Go.Proofs.Qxb6615981aDoor
open Go.RowKit
set_option linter.unusedSimpArgs false
set_option linter.unusedVariables false

theorem FlRes.congr {B : Nat} {w w' : World} {v : Value} {m m' : Nat} {ys ys' : List Value} {e : Ending} (h : FlRes B w v m ys e w') (hm : m = m') (hy : ys = ys') : FlRes B w v m' ys' e w' := by
  subst hm hy
  exact h
def nm (x : ByteArray × ByteArray) : ByteArray := x.1 ++ ⟨#[47]⟩ ++ x.2
/-- A leaf's node. -/
def leafN (x : ByteArray × ByteArray) : List Value := (nodeV 2 (nm x) false 0 ⟨#[]⟩ false 0).toList
def lch (es : Nat → ByteArray × ByteArray) (j : Nat) : Nat × List Value := (1, leafN (es j))
theorem cnt_lch (es : Nat → ByteArray × ByteArray) (n : Nat) : cnt (lch es) n = n := by
  induction n with
  | zero => rfl
  | succ n ih => rw [cnt, ih]; rfl
/-- The flat list of a command's tree. -/
def flatL (verb term : ByteArray) (rid n : Nat) (es : Nat → ByteArray × ByteArray) : List Value :=
  (nodeV 0 verb true 61 term true 1).toList ++ ((nodeV 1 obsS true 61 (dec rid) true n).toList ++ rows (lch es) n)

theorem flat_leaf (B b : Nat) (x : ByteArray × ByteArray) (v : Value) (m : Nat) (xs : List Value) (w : World) (h : w.heap[b]? = some (.cells (leafV x) 66 (0, 0))) (ho : w.ownsRow B 48 15 v m xs) (hm : m + 1 ≤ 140000) (hB : B ≤ w.heap.size) :
    Calls Tryd.prog 13 #[.pointer (some ⟨b, 0, none⟩), .int .i64 2, v] w fun e w' => FlRes B w v (m + 1) (xs ++ leafN x) e w' :=
  (flat_node B 0 b 2 (by decide) (by decide) (nm x) false 0 ⟨#[]⟩ none 0 0 false (fun _ => 0) (fun _ => (0, [])) v m xs w h (World.ownsRow_nil _ _ _ _) ho (by simpa [cnt] using hm) (by decide) hB (fun j hj => absurd hj (by omega))).mono
    fun e w' hr => hr.congr rfl (by rw [show rows (fun _ => ((0, []) : Nat × List Value)) 0 = [] from rfl, List.append_nil]; rfl)

theorem flat_obs (B B' b : Nat) (rid n : Nat) (es : Nat → ByteArray × ByteArray) (OV : Value) (e : Nat → Nat) (v : Value) (m : Nat) (xs : List Value) (w : World) (h : w.heap[b]? = some (.cells (itV obsS true 61 (dec rid) OV true) 66 (0, 0))) (hp : w.ownsRow B' 45 1 OV n (ptrs e n))
    (hl : ∀ j, j < n → w.heap[e j]? = some (.cells (leafV (es j)) 66 (0, 0))) (ho : w.ownsRow B 48 15 v m xs) (hm : m + 1 + n ≤ 140000) (hn : n ≤ 65537) (hB : B ≤ w.heap.size) :
    Calls Tryd.prog 13 #[.pointer (some ⟨b, 0, none⟩), .int .i64 1, v] w fun e w' => FlRes B w v (m + (1 + n)) (xs ++ ((nodeV 1 obsS true 61 (dec rid) true n).toList ++ rows (lch es) n)) e w' := by
  obtain ⟨ba, bc, rfl⟩ : ∃ ba bc, OV = .slice ba n bc := by
    rcases hp.2 with ⟨e1, e2⟩ | ⟨g, cap, cur, e1, _⟩
    · subst e2; exact ⟨none, 0, e1⟩
    · exact ⟨_, cap, e1⟩
  refine (flat_node B B' b 1 (by decide) (by decide) obsS true 61 (dec rid) ba n bc true e (lch es) v m xs w h hp ho (by rw [cnt_lch]; exact hm) (by omega) hB (fun j hj W v' m' xs' hk how hmw hBW => ?_)).mono fun e w' hr => hr.congr (by rw [cnt_lch]; omega) (by rw [List.append_assoc])
  exact flat_leaf B (e j) (es j) v' m' xs' W (hk _ _ _ _ (by decide) (hl j hj)) how hmw hBW

theorem flat_tree {B' : Nat} {w : World} {v : Value} {verb term : ByteArray} {rid n : Nat} {es : Nat → ByteArray × ByteArray} {rb ob q rc : Nat} {OV : Value} {e : Nat → Nat} (ht : Tree B' w v verb term rid n es rb ob q rc OV e) (hn : n ≤ 65537) :
    Calls Tryd.prog 13 #[v, .int .i64 0, .slice none 0 0] w fun e w' => FlRes w.heap.size w (.slice none 0 0) (2 + n) (flatL verb term rid n es) e w' := by
  obtain ⟨rfl, hr, ho1, hob, hown, hl⟩ := ht
  refine (flat_node w.heap.size B' rb 0 (by decide) (by decide) verb true 61 term (some ⟨q, 0, none⟩) 1 rc true (fun _ => ob) (fun _ => (1 + n, (nodeV 1 obsS true 61 (dec rid) true n).toList ++ rows (lch es) n)) (.slice none 0 0) 0 [] w hr ho1 (World.ownsRow_nil _ _ _ _) (by simp [cnt]; omega) (by omega) (Nat.le_refl _) (fun j hj W v' m' xs' hk how hmw hBW => ?_)).mono fun e w' hr => hr.congr (by simp [cnt]; omega) (by simp [rows, flatL])
  exact flat_obs w.heap.size B' ob rid n es OV e v' m' xs' W (hk _ _ _ _ (by decide) hob) (own_keeps hown hk) (fun j hj => hk _ _ _ _ (by decide) (hl j hj)) how (by have : m' + (1 + n) ≤ 140000 := hmw; omega) hn hBW

theorem owns_mono {B B' : Nat} {e : TypeId} {k : Nat} {v : Value} {n : Nat} {xs : List Value} {w : World} (h : w.ownsRow B e k v n xs) (hb : B' ≤ B) : w.ownsRow B' e k v n xs := by
  refine ⟨h.1, h.2.imp id ?_⟩
  rintro ⟨g, cap, cur, e1, e2, e3⟩
  exact ⟨g, cap, cur, e1, Nat.le_trans hb e2, e3⟩
set_option maxHeartbeats 1000000 in
theorem zzcmd_any (verb term : ByteArray) (opt : Bool) (oe : Nat) (rid : Nat) (hrid : rid < 4294967296) (ea : Option Addr) (n c : Nat) (es : Nat → ByteArray × ByteArray) (w : World) (ht : Tab w) (hn : n ≤ 65537)
    (hsz : ∀ i, i < n → (es i).1.size + (es i).2.size ≤ 2097152)
    (ho : w.heap[oe]? = some (.cells #[.int .u32 rid, .slice ea n c] 35 (0, 0))) (he : Evs w (.slice ea n c) n es) :
    Calls Tryd.prog 14 #[.agg (cmdV verb opt term oe)] w fun e w' => CmdRes w verb term rid n es e w' := by
  have HC := hid (commandItem_any verb term opt oe rid hrid ea n c es (w.alloc (.cells (cmdV verb opt term oe) 42)) (ht.alloc _) hn hsz (heapOld ho _) (he.below ((Below.refl _ _).alloc (Nat.le_refl _) _)))
  clear ho he ht hsz
  unfold cmdV at HC ⊢
  go_enter Tryd.func14, Tryd.ntmps14
  go_wp2_with (go_at_call 20; refine HC.out.mono ?_; rintro e w' ⟨⟨v, rb, ob, q, rc, OV, el, rfl, htr⟩, hb⟩)
  go_ret
  exact cmdRes (v := v) (rb := rb) (ob := ob) (q := q) (rc := rc) (OV := OV) (el := el) rfl { htr with one := owns_mono htr.one (by simp), own := owns_mono htr.own (by simp) } (((Below.refl _ _).alloc (Nat.le_refl _) _).trans (hb.mono (by simp)))
end Go.Proofs.Qxb6615981aDoor
