import Derived.Test.Qxb6615981aDoorQ9
namespace Go.Proofs.Qxb6615981aDoor
open Go.RowKit
set_option linter.unusedSimpArgs false
set_option linter.unusedVariables false

theorem sz48 : (Tryd.prog.info? 48).map (·.size) = some 15 := by kernel_rfl
theorem neq48 (d : Int) (name : ByteArray) (kw : Bool) (op : Int) (text : ByteArray) (hb : Bool) (bn : Int) (w : World) :
    (binOp .neq 48 (.agg #[.int .i64 d, .string name, .bool false, .bool kw, .int .u8 op, .string text, .bool false, .bool false, .int .i64 0, .int .u8 0, .bool hb, .int .i64 bn, .string ⟨#[]⟩, .bool false, .int .i64 0]) (.agg #[.int .i64 d, .string name, .bool false, .bool kw, .int .u8 op, .string text, .bool false, .bool false, .int .i64 0, .int .u8 0, .bool hb, .int .i64 bn, .string ⟨#[]⟩, .bool false, .int .i64 0])).run Tryd.prog w = .ok (.bool false) w := by
  have hu := Tryd.underlying48
  have h3 := Tryd.underlying3
  have h4 := Tryd.underlying4
  have h5 := Tryd.underlying5
  have h9 := Tryd.underlying9
  go_simp

/-- A node. -/
structure ND where
  d : Int
  name : ByteArray
  kw : Bool
  op : Int
  text : ByteArray
  hb : Bool
  bn : Int
def ND.v (x : ND) : Array Value := nodeV x.d x.name x.kw x.op x.text x.hb x.bn
def rowN (nd : Nat → ND) : Nat → List Value
  | 0 => []
  | k + 1 => rowN nd k ++ (nd k).v.toList
theorem v15 (x : ND) : x.v.toList.length = 15 := rfl
theorem rowN_len (nd : Nat → ND) (m : Nat) : (rowN nd m).length = m * 15 := by
  induction m with
  | zero => rfl
  | succ m ih => rw [rowN, List.length_append, ih, v15]; omega
theorem rowN_get (nd : Nat → ND) (m : Nat) : ∀ i r, i < m → r < 15 → (rowN nd m)[i * 15 + r]? = (nd i).v.toList[r]? := by
  induction m with
  | zero => intro i r hi; omega
  | succ m ih =>
    intro i r hi hr
    rw [rowN]
    by_cases h : i = m
    · subst h
      rw [List.getElem?_append_right (by rw [rowN_len]; omega), rowN_len, show i * 15 + r - i * 15 = r by omega]
    · rw [List.getElem?_append_left (by rw [rowN_len]; omega)]
      exact ih i r (by omega) hr
theorem own_range {W : World} {B n c g : Nat} {nd : Nat → ND} (ho : W.ownsRow B 48 15 (.slice (some ⟨g, 0, none⟩) n c) n (rowN nd n)) (i : Nat) (hi : i < n) : W.rangeAt g (i * 15) (nd i).v.toList := fun r v hv => by
  have hr : r < 15 := by have := (List.getElem?_eq_some_iff.1 hv).1; rw [v15] at this; exact this
  have := ho.cellAt (i * 15 + r) (by have := ho.1; omega)
  rw [this, rowN_get nd n i r hi hr]
  exact hv
theorem range_drew8 {W : World} {g o : Nat} {cs : List Value} (h : W.rangeAt g o cs) : W.drew.rangeAt g o cs := h

set_option maxRecDepth 100000 in
set_option maxHeartbeats 2000000 in
theorem same_any (g1 c1 g2 c2 n B1 B2 : Nat) (nd : Nat → ND) (w : World) (hn : n ≤ 140000) (h1 : w.ownsRow B1 48 15 (.slice (some ⟨g1, 0, none⟩) n c1) n (rowN nd n)) (h2 : w.ownsRow B2 48 15 (.slice (some ⟨g2, 0, none⟩) n c2) n (rowN nd n)) :
    Calls Tryd.prog 16 #[.slice (some ⟨g1, 0, none⟩) n c1, .slice (some ⟨g2, 0, none⟩) n c2] w fun e w' => e = .returned (.bool true) ∧ Below w.heap.size w w' := by
  have H1 := hid h1
  have H2 := hid h2
  clear h1 h2
  go_enter Tryd.func16, Tryd.ntmps16
  go_wp2
  go_loopw [5] (fun i wr => ∃ k : Nat, k ≤ n ∧ i = .int .i64 k ∧ Below w.heap.size w wr) (fun i _ => n - (intOf i).toNat)
  case atStart => exact ⟨0, Nat.zero_le _, rfl, Below.refl _ _⟩
  case round =>
    obtain ⟨k, hk, rfl, hbr⟩ := hrel
    have HB := hid hbr
    by_cases hlt : k < n
    · have r1 := own_range (owns_below8 H1.out hbr) k hlt
      have r2 := own_range (owns_below8 H2.out hbr) k hlt
      obtain ⟨x, hx⟩ : ∃ x, nd k = x := ⟨_, rfl⟩
      rw [hx] at r1 r2
      clear hx hbr
      obtain ⟨d, name, kw, op, text, hb, bn⟩ := x
      have HS0 := hid (show wr.drew.rangeAt g1 (k * 15) [.int .i64 d, .string name, .bool false, .bool kw, .int .u8 op, .string text, .bool false, .bool false, .int .i64 0, .int .u8 0, .bool hb, .int .i64 bn, .string ⟨#[]⟩, .bool false, .int .i64 0] ∧ wr.drew.rangeAt g2 (k * 15) [.int .i64 d, .string name, .bool false, .bool kw, .int .u8 op, .string text, .bool false, .bool false, .int .i64 0, .int .u8 0, .bool hb, .int .i64 bn, .string ⟨#[]⟩, .bool false, .int .i64 0] from ⟨r1, r2⟩)
      clear r1 r2
      have hnq := neq48 d name kw op text hb bn
      go_wp2
      refine wp_region_held_drew (S := fun W => W.rangeAt g1 (k * 15) [.int .i64 d, .string name, .bool false, .bool kw, .int .u8 op, .string text, .bool false, .bool false, .int .i64 0, .int .u8 0, .bool hb, .int .i64 bn, .string ⟨#[]⟩, .bool false, .int .i64 0] ∧ W.rangeAt g2 (k * 15) [.int .i64 d, .string name, .bool false, .bool kw, .int .u8 op, .string text, .bool false, .bool false, .int .i64 0, .int .u8 0, .bool hb, .int .i64 bn, .string ⟨#[]⟩, .bool false, .int .i64 0]) (by kernel_rfl) HS0.out (fun hHeld => ?_)
      refine wpAnyH_take (i := 0) (v := ?_) rfl (by kernel_rfl) (by kernel_rfl) (by kernel_rfl) (fun _ _ _ h => h) (Or.inl ⟨by kernel_rfl, ?_⟩) (by assumption) ?_
      rotate_left
      · intro w hSw; go_simp; with_reducible rfl
      try simp (maxSteps := 2000000) only [Act.put, List.getElem_toArray, List.getElem_cons_succ, List.getElem_cons_zero, List.setIfInBounds_toArray, List.set_cons_zero, List.set_cons_succ]
      refine wpAnyH_take (i := 1) (v := ?_) rfl (by kernel_rfl) (by kernel_rfl) (by kernel_rfl) (fun _ _ _ h => h) (Or.inl ⟨by kernel_rfl, ?_⟩) (by assumption) ?_
      rotate_left
      · intro w hSw; go_simp; with_reducible rfl
      try simp (maxSteps := 2000000) only [Act.put, List.getElem_toArray, List.getElem_cons_succ, List.getElem_cons_zero, List.setIfInBounds_toArray, List.set_cons_zero, List.set_cons_succ]
      refine wpAnyH_take (i := 2) (v := ?_) rfl (by kernel_rfl) (by kernel_rfl) (by kernel_rfl) (fun _ _ _ h => h) (Or.inl ⟨by kernel_rfl, ?_⟩) (by assumption) ?_
      rotate_left
      · intro w hSw; go_simp; with_reducible rfl
      try simp (maxSteps := 2000000) only [Act.put, List.getElem_toArray, List.getElem_cons_succ, List.getElem_cons_zero, List.setIfInBounds_toArray, List.set_cons_zero, List.set_cons_succ]
      refine wpAnyH_take (i := 3) (v := _) rfl (by kernel_rfl) (by kernel_rfl) (by kernel_rfl) (fun _ _ _ h => h) (yieldsIf_load_mid (by kernel_rfl) _ _ rfl _ _ rfl [.int .i64 d, .string name, .bool false, .bool kw, .int .u8 op, .string text, .bool false, .bool false, .int .i64 0, .int .u8 0, .bool hb, .int .i64 bn, .string ⟨#[]⟩, .bool false, .int .i64 0] _ (fun W hSw => hSw.1) Tryd.underlying48 rfl sz48) (by assumption) ?_
      try simp (maxSteps := 2000000) only [Act.put, List.getElem_toArray, List.getElem_cons_succ, List.getElem_cons_zero, List.setIfInBounds_toArray, List.set_cons_zero, List.set_cons_succ]
      refine wpAnyH_take (i := 4) (v := ?_) rfl (by kernel_rfl) (by kernel_rfl) (by kernel_rfl) (fun _ _ _ h => h) (Or.inl ⟨by kernel_rfl, ?_⟩) (by assumption) ?_
      rotate_left
      · intro w hSw; go_simp; with_reducible rfl
      try simp (maxSteps := 2000000) only [Act.put, List.getElem_toArray, List.getElem_cons_succ, List.getElem_cons_zero, List.setIfInBounds_toArray, List.set_cons_zero, List.set_cons_succ]
      refine wpAnyH_take (i := 5) (v := ?_) rfl (by kernel_rfl) (by kernel_rfl) (by kernel_rfl) (fun _ _ _ h => h) (Or.inl ⟨by kernel_rfl, ?_⟩) (by assumption) ?_
      rotate_left
      · intro w hSw; go_simp; with_reducible rfl
      try simp (maxSteps := 2000000) only [Act.put, List.getElem_toArray, List.getElem_cons_succ, List.getElem_cons_zero, List.setIfInBounds_toArray, List.set_cons_zero, List.set_cons_succ]
      refine wpAnyH_take (i := 6) (v := ?_) rfl (by kernel_rfl) (by kernel_rfl) (by kernel_rfl) (fun _ _ _ h => h) (Or.inl ⟨by kernel_rfl, ?_⟩) (by assumption) ?_
      rotate_left
      · intro w hSw; go_simp; with_reducible rfl
      try simp (maxSteps := 2000000) only [Act.put, List.getElem_toArray, List.getElem_cons_succ, List.getElem_cons_zero, List.setIfInBounds_toArray, List.set_cons_zero, List.set_cons_succ]
      refine wpAnyH_take (i := 7) (v := _) rfl (by kernel_rfl) (by kernel_rfl) (by kernel_rfl) (fun _ _ _ h => h) (yieldsIf_load_mid (by kernel_rfl) _ _ rfl _ _ rfl [.int .i64 d, .string name, .bool false, .bool kw, .int .u8 op, .string text, .bool false, .bool false, .int .i64 0, .int .u8 0, .bool hb, .int .i64 bn, .string ⟨#[]⟩, .bool false, .int .i64 0] _ (fun W hSw => hSw.2) Tryd.underlying48 rfl sz48) (by assumption) ?_
      try simp (maxSteps := 2000000) only [Act.put, List.getElem_toArray, List.getElem_cons_succ, List.getElem_cons_zero, List.setIfInBounds_toArray, List.set_cons_zero, List.set_cons_succ]
      refine wpAnyH_take (i := 8) (v := ?_) rfl (by kernel_rfl) (by kernel_rfl) (by kernel_rfl) (fun _ _ _ h => h) (Or.inl ⟨by kernel_rfl, ?_⟩) (by assumption) ?_
      rotate_left
      · intro w hSw; go_simp; with_reducible rfl
      try simp (maxSteps := 2000000) only [Act.put, List.getElem_toArray, List.getElem_cons_succ, List.getElem_cons_zero, List.setIfInBounds_toArray, List.set_cons_zero, List.set_cons_succ]
      refine wpAnyH_done (by kernel_rfl) ?_ _
      go_wp2_with fail
      go_roundw
      case rel => exact ⟨k + 1, by omega, by go_num, HB.out.drew⟩
      case measure => simp [intOf]; omega
    · clear hbr
      go_wp2
      go_ret
      exact ⟨rfl, HB.out⟩

/-- The nodes of a command's flat list. -/
def fnd (verb term : ByteArray) (rid n : Nat) (es : Nat → ByteArray × ByteArray) : Nat → ND
  | 0 => ⟨0, verb, true, 61, term, true, 1⟩
  | 1 => ⟨1, obsS, true, 61, dec rid, true, n⟩
  | j + 2 => ⟨2, nm (es j), false, 0, ⟨#[]⟩, false, 0⟩
theorem flatL_row (verb term : ByteArray) (rid N : Nat) (es : Nat → ByteArray × ByteArray) : ∀ k, (nodeV 0 verb true 61 term true 1).toList ++ ((nodeV 1 obsS true 61 (dec rid) true N).toList ++ rows (lch es) k) = rowN (fnd verb term rid N es) (2 + k)
  | 0 => by rw [rows, List.append_nil]; rfl
  | k + 1 => by
    have e : rowN (fnd verb term rid N es) (2 + (k + 1)) = rowN (fnd verb term rid N es) (2 + k) ++ (fnd verb term rid N es (2 + k)).v.toList := rfl
    rw [rows, e, ← flatL_row verb term rid N es k, ← List.append_assoc, ← List.append_assoc, ← List.append_assoc]
    rw [show 2 + k = k + 2 by omega]
    rfl
theorem flatL_eq (verb term : ByteArray) (rid n : Nat) (es : Nat → ByteArray × ByteArray) : flatL verb term rid n es = rowN (fnd verb term rid n es) (2 + n) := flatL_row verb term rid n es n
end Go.Proofs.Qxb6615981aDoor
