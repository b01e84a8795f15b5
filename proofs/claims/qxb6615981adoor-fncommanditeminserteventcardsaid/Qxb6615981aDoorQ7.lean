import Derived.Test.Qxb6615981aDoorQ6
namespace Go.Proofs.Qxb6615981aDoor
open Go.RowKit
set_option linter.unusedSimpArgs false
set_option linter.unusedVariables false

theorem node_lit (b : Nat) (d : Int) (name : ByteArray) (kw : Bool) (op : Int) (text : ByteArray) (ba : Option Addr) (bn bc : Nat) (hb : Bool) (w : World) (h : w.heap[b]? = some (.cells (itV name kw op text (.slice ba bn bc) hb) 66 (0, 0))) :
    Calls Tryd.prog 18 #[.pointer (some ⟨b, 0, none⟩), .int .i64 d] w fun e w' => e = .returned (.agg #[.int .i64 d, .string name, .bool false, .bool kw, .int .u8 op, .string text, .bool false, .bool false, .int .i64 0, .int .u8 0, .bool hb, .int .i64 bn, .string ⟨#[]⟩, .bool false, .int .i64 0]) ∧ Below w.heap.size w w' := node_any b d name kw op text ba bn bc hb w h

theorem grown_of_below {w w' : World} (h : Below w.heap.size w w') (row : Option Nat) : w.grownBy w' row := ⟨h.os, h.tape, h.output, h.size, fun k hk _ => h.block k hk⟩
theorem grown_trans {w w1 w2 : World} {row row' : Option Nat} (h1 : w.grownBy w1 row) (h2 : w1.grownBy w2 row') (hr : row' = row ∨ ∀ g, row' = some g → w.heap.size ≤ g) : w.grownBy w2 row :=
  ⟨h2.os.trans h1.os, h2.tape.trans h1.tape, h2.output.trans h1.output, Nat.le_trans h1.size h2.size, fun k hk hne => (h2.block k (Nat.lt_of_lt_of_le hk h1.size) (by
    rcases hr with rfl | hr
    · exact hne
    · intro e
      have := hr k e.symm
      omega)).trans (h1.block k hk hne)⟩
/-- What is no row of nodes lies as it lay. -/
def Keeps (w W : World) : Prop := ∀ (b : Nat) (C : Array Value) (t : TypeId) (fr : Nat × Nat), t ≠ 48 → w.heap[b]? = some (.cells C t fr) → W.heap[b]? = some (.cells C t fr)
theorem Keeps.trans {A B C : World} (h : Keeps A B) (k : Keeps B C) : Keeps A C := fun b C t fr ht hb => k b C t fr ht (h b C t fr ht hb)
theorem keeps_below {w w' : World} (h : Below w.heap.size w w') : Keeps w w' := fun b C t fr ht hb => (h.block b (heap_lt hb)).trans hb
theorem keeps_grown {w w' : World} {B m : Nat} {v : Value} {xs : List Value} (ho : w.ownsRow B 48 15 v m xs) (hg : w.grownBy w' v.ownBlock) : Keeps w w' := fun b C t fr ht hb => by
  rw [hg.block b (heap_lt hb) (fun e => ?_)]
  · exact hb
  · rcases ho.2 with ⟨rfl, _⟩ | ⟨g, cap, cur, rfl, _, h3, _⟩
    · simp [Value.ownBlock] at e
    · simp only [Value.ownBlock, Option.some.injEq] at e
      subst e
      rw [hb] at h3
      simp at h3
      exact ht h3.2.1
theorem own_keeps {w W : World} {B n : Nat} {v : Value} {xs : List Value} (ho : w.ownsRow B 45 1 v n xs) (hk : Keeps w W) : W.ownsRow B 45 1 v n xs := by
  refine ⟨ho.1, ho.2.imp id ?_⟩
  rintro ⟨g, cap, cur, e1, e2, e3, e4⟩
  exact ⟨g, cap, cur, e1, e2, hk _ _ _ _ (by decide) e3, e4⟩

/-- What flattening leaves: the nodes behind those that were there. -/
def FlRes (B : Nat) (w : World) (v : Value) (m : Nat) (ys : List Value) (e : Ending) (w' : World) : Prop :=
  ∃ v', e = .returned v' ∧ w'.ownsRow B 48 15 v' m ys ∧ (v'.ownBlock = v.ownBlock ∨ ∃ g, v'.ownBlock = some g ∧ w.heap.size ≤ g) ∧ w.grownBy w' v.ownBlock
theorem flRes {B : Nat} {w w' : World} {v v' : Value} {m m' : Nat} {ys ys' : List Value} {e : Ending} (he : e = .returned v') (hm : m' = m) (hy : ys' = ys) (ho : w'.ownsRow B 48 15 v' m' ys') (hv : v'.ownBlock = v.ownBlock ∨ ∃ g, v'.ownBlock = some g ∧ w.heap.size ≤ g) (hg : w.grownBy w' v.ownBlock) : FlRes B w v m ys e w' := by
  subst hm hy
  exact ⟨v', he, ho, hv, hg⟩

/-- The children's nodes so far. -/
def cnt (ch : Nat → Nat × List Value) : Nat → Nat
  | 0 => 0
  | k + 1 => cnt ch k + (ch k).1
def rows (ch : Nat → Nat × List Value) : Nat → List Value
  | 0 => []
  | k + 1 => rows ch k ++ (ch k).2
theorem cnt_le (ch : Nat → Nat × List Value) {k n : Nat} (h : k ≤ n) : cnt ch k ≤ cnt ch n := by
  induction n with
  | zero => rw [show k = 0 by omega]; exact Nat.le_refl _
  | succ n ih =>
    by_cases e : k = n + 1
    · subst e; exact Nat.le_refl _
    · exact Nat.le_trans (ih (by omega)) (Nat.le_add_right _ _)
theorem ptrs_get (p : Nat → Nat) : ∀ n j, j < n → (ptrs p n)[j]? = some (.pointer (some ⟨p j, 0, none⟩))
  | 0, j, h => by omega
  | n + 1, j, h => by
    have hl : ∀ k, (ptrs p k).length = k := fun k => by
      induction k with
      | zero => rfl
      | succ k ih => rw [ptrs, List.length_append, ih]; rfl
    rw [ptrs]
    by_cases e : j = n
    · subst e
      rw [List.getElem?_append_right (by rw [hl]; omega), hl, Nat.sub_self]
      rfl
    · rw [List.getElem?_append_left (by rw [hl]; omega)]
      exact ptrs_get p n j (by omega)

theorem owns_below8 {B : Nat} {e : TypeId} {k : Nat} {v : Value} {n : Nat} {xs : List Value} {w w' : World} (h : w.ownsRow B e k v n xs) (hb : Below w.heap.size w w') : w'.ownsRow B e k v n xs := by
  refine ⟨h.1, h.2.imp id ?_⟩
  rintro ⟨g, cap, cur, e1, e2, e3, e4⟩
  exact ⟨g, cap, cur, e1, e2, (hb.block g (heap_lt e3)).trans e3, e4⟩
/-- What holds between two rounds. -/
structure LIn (B : Nat) (w : World) (nb : Nat) (v o : Value) (wr : World) (N : Array Value) (m : Nat) (ys : List Value) : Prop where
  own : wr.ownsRow B 48 15 o m ys
  blk : o.ownBlock = v.ownBlock ∨ ∃ g, o.ownBlock = some g ∧ w.heap.size ≤ g
  ne : o.ownBlock ≠ some nb
  row : wr.heap[nb]? = some (.cells N 48 (0, 0))
  grown : w.grownBy wr v.ownBlock
  keep : Keeps w wr
theorem lin_start {B : Nat} {w w1 w2 : World} {v : Value} {m : Nat} {xs : List Value} {N : Array Value} {g cap : Nat} {ys : List Value} (ho : w.ownsRow B 48 15 v m xs) (hb : Below w.heap.size w w1)
    (hown : w2.ownsRow B 48 15 (.slice (some ⟨g, 0, none⟩) (m + 1) cap) (m + 1) ys) (hgrow : ((w1.alloc (.cells N 48)).alloc (.cells N 48)).grownBy w2 v.ownBlock) (hg : v.ownBlock = some g ∨ g = ((w1.alloc (.cells N 48)).alloc (.cells N 48)).heap.size) :
    LIn B w w1.heap.size v (.slice (some ⟨g, 0, none⟩) (m + 1) cap) w2 N (m + 1) ys := by
  have hs := hb.size
  have hsz : ((w1.alloc (.cells N 48)).alloc (.cells N 48)).heap.size = w1.heap.size + 2 := by simp
  have hB2 : Below w.heap.size w ((w1.alloc (.cells N 48)).alloc (.cells N 48)) := (hb.alloc hs _).alloc (by simp; omega) _
  have hvl : ∀ j, v.ownBlock = some j → j < w.heap.size := fun j hj => (ho.lt j hj).2
  have hgr := grown_trans (grown_of_below hB2 v.ownBlock) hgrow (.inl rfl)
  refine ⟨hown, ?_, ?_, ?_, hgr, keeps_grown ho hgr⟩
  · rcases hg with e | e
    · exact .inl e.symm
    · exact .inr ⟨g, rfl, by omega⟩
  · intro e
    simp only [Value.ownBlock, Option.some.injEq] at e
    rcases hg with e' | e'
    · have := hvl g e'; omega
    · omega
  · rw [hgrow.block w1.heap.size (by omega) (fun e => by have := hvl _ e.symm; omega)]
    exact heapOld (heap_alloc_new _ _) _
theorem LIn.next {B : Nat} {w wr w5 : World} {nb : Nat} {v o v5 : Value} {N : Array Value} {m m5 : Nat} {ys ys5 : List Value} (h : LIn B w nb v o wr N m ys) (ho5 : w5.ownsRow B 48 15 v5 m5 ys5) (hv5 : v5.ownBlock = o.ownBlock ∨ ∃ g, v5.ownBlock = some g ∧ wr.heap.size ≤ g) (hg5 : wr.grownBy w5 o.ownBlock) :
    LIn B w nb v v5 w5 N m5 ys5 := by
  have hs := h.grown.size
  refine ⟨ho5, ?_, ?_, ?_, grown_trans h.grown hg5 ?_, h.keep.trans (keeps_grown h.own hg5)⟩
  · rcases hv5 with e | ⟨g, e, hg⟩
    · rw [e]; exact h.blk
    · exact .inr ⟨g, e, by omega⟩
  · rcases hv5 with e | ⟨g, e, hg⟩
    · rw [e]; exact h.ne
    · rw [e]
      intro e'
      have := heap_lt h.row
      have : g = nb := Option.some.inj e'
      omega
  · rw [hg5.block nb (heap_lt h.row) (fun e => h.ne e.symm)]
    exact h.row
  · rcases h.blk with e | ⟨g, e, hg⟩
    · exact .inl e
    · right
      intro g' e'
      rw [e] at e'
      cases e'
      exact hg

set_option maxRecDepth 100000 in
set_option maxHeartbeats 4000000 in
theorem flat_node (B B' b : Nat) (d : Int) (hd0 : 0 ≤ d) (hd : d ≤ 8) (name : ByteArray) (kw : Bool) (op : Int) (text : ByteArray) (ba : Option Addr) (bn bc : Nat) (hb : Bool) (p : Nat → Nat) (ch : Nat → Nat × List Value) (v : Value) (m : Nat) (xs : List Value) (w : World)
    (h : w.heap[b]? = some (.cells (itV name kw op text (.slice ba bn bc) hb) 66 (0, 0))) (hp : w.ownsRow B' 45 1 (.slice ba bn bc) bn (ptrs p bn))
    (ho : w.ownsRow B 48 15 v m xs) (hm : m + 1 + cnt ch bn ≤ 140000) (hbn : bn ≤ 70000) (hB : B ≤ w.heap.size)
    (K : ∀ j, j < bn → ∀ W v' m' xs', Keeps w W → W.ownsRow B 48 15 v' m' xs' → m' + (ch j).1 ≤ 140000 → B ≤ W.heap.size → Calls Tryd.prog 13 #[.pointer (some ⟨p j, 0, none⟩), .int .i64 (d + 1), v'] W fun e W' => FlRes B W v' (m' + (ch j).1) (xs' ++ (ch j).2) e W') :
    Calls Tryd.prog 13 #[.pointer (some ⟨b, 0, none⟩), .int .i64 d, v] w fun e w' => FlRes B w v (m + 1 + cnt ch bn) (xs ++ (nodeV d name kw op text hb bn).toList ++ rows ch bn) e w' := by
  obtain ⟨i0, hi, hz0, hz1, hz2⟩ := info_parts info48
  have hdw : IntKind.i64.wrap (d + 1) = d + 1 := by rw [IntKind.wrap_i64]; omega
  have HH := hid h
  have HPT := hid hp
  have HO := hid ho
  have HK := hid K
  clear h hp ho K
  go_enter Tryd.func13, Tryd.ntmps13
  go_wp2_with (first
    | (go_at_call 18; refine (node_lit b d name kw op text ba bn bc hb _ HH.out).mono ?_; rintro e w1 ⟨rfl, hb1⟩; have HB1 := hid hb1; clear hb1)
    | (at_builtin; refine wpList_append_lies _ rfl (.tmp 19) (.tmp 21) 43 rfl B 48 i0 _ 15 112 Tryd.underlying43 hi hz0 hz1 hz2 rfl (by decide) v m xs rfl (((owns_below8 HO.out HB1.out).alloc _).alloc _) ⟨w1.heap.size + 1, 0, none⟩ 1 1 (nodeV d name kw op text hb bn).toList rfl rfl (World.news_of_block (new2 w1 (Obj.cells (nodeV d name kw op text hb bn) 48) (nodeV d name kw op text hb bn) 48)) (node_one _ _ _ _ _ _ _) (by decide) (by unfold maxLen; omega) (by omega) (by have := HB1.out.size; simp; omega) _ rfl ?_; intro g cap w2 hown hgrow hg hlt; have HL0 := hid (lin_start HO.out HB1.out hown hgrow hg); clear hown hgrow hg hlt))
  go_loopw [2, 8] (fun o i wr => ∃ k : Nat, k ≤ bn ∧ i = .int .i64 k ∧ LIn B w w1.heap.size v o wr (nodeV d name kw op text hb bn) (m + 1 + cnt ch k) (xs ++ (nodeV d name kw op text hb bn).toList ++ rows ch k)) (fun _ i _ => bn - (intOf i).toNat)
  case atStart => exact ⟨0, Nat.zero_le _, rfl, by show LIn B w w1.heap.size v _ w2 (nodeV d name kw op text hb bn) (m + 1 + 0) (xs ++ (nodeV d name kw op text hb bn).toList ++ []); rw [List.append_nil]; exact HL0.out⟩
  case round =>
    clear HL0
    obtain ⟨k, hk, rfl, hli⟩ := hrel
    have HL := hid hli
    have e11 : wr.cell? ⟨w1.heap.size, 11, none⟩ = some (.int .i64 bn) := cell_of_row wr w1.heap.size 11 _ 48 (0, 0) hli.row
    clear hli
    by_cases hlt : k < bn
    · obtain ⟨g', e', hc⟩ : ∃ g', ba = some ⟨g', 0, none⟩ ∧ wr.cell? ⟨g', k, none⟩ = some (.pointer (some ⟨p k, 0, none⟩)) := by
        have ho := own_keeps HPT.out HL.out.keep
        rcases ho.2 with ⟨e', h0⟩ | ⟨g', cap', cur, e', _, h3, _⟩
        · omega
        · cases e'
          refine ⟨g', rfl, ?_⟩
          have := ho.cellAt k (by have := ho.1; omega)
          rw [this]
          exact ptrs_get p bn k hlt
      subst e'
      have h9 : wr.cell? ⟨b, 9, none⟩ = some (.slice (some ⟨g', 0, none⟩) bn bc) := cell_of_row wr b 9 _ 66 (0, 0) (HL.out.keep _ _ _ _ (by decide) HH.out)
      have HC := hid hc
      have H9 := hid h9
      have hcm : m + 1 + cnt ch k + (ch k).1 ≤ 140000 := by
        have := cnt_le ch (show k + 1 ≤ bn by omega)
        rw [show cnt ch (k + 1) = cnt ch k + (ch k).1 from rfl] at this
        omega
      have HCM := hid hcm
      clear hc h9 hcm
      go_wp2_with (first
        | (go_at_call 19; refine (blockAt_any b k g' bn bc (p k) _ hlt H9.out HC.out).mono ?_; rintro e w4 ⟨rfl, rfl⟩)
        | (go_at_call 13; refine (HK.out k hlt _ _ _ _ HL.out.keep HL.out.own HCM.out (Nat.le_trans hB HL.out.grown.size)).mono ?_; rintro e w5 ⟨v5, rfl, ho5, hv5, hg5⟩; have HN := hid (HL.out.next ho5 hv5 hg5); clear ho5 hv5 hg5))
      go_roundw
      case rel => exact ⟨k + 1, by omega, by go_num, by rw [show cnt ch (k + 1) = cnt ch k + (ch k).1 from rfl, show rows ch (k + 1) = rows ch k ++ (ch k).2 from rfl, ← Nat.add_assoc, ← List.append_assoc]; exact HN.out⟩
      case measure => simp [intOf]; omega
    · obtain rfl : k = bn := by omega
      go_wp2
      go_ret
      exact flRes rfl rfl rfl HL.out.own HL.out.blk HL.out.grown
end Go.Proofs.Qxb6615981aDoor
