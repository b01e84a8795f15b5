import Derived.Test.Qxb6615981aDoorQ3
import Derived.Deep.AppendLies
import Derived.Deep.CutRange
import Derived.Deep.RegionHeld3
import Derived.Deep.MidRow
import Derived.Maps.AppendAt
import Derived.OwnWalk
namespace Go.Proofs.Qxb6615981aDoor
open Go.RowKit
set_option linter.unusedSimpArgs false
set_option linter.unusedVariables false

theorem info45 : (Tryd.prog.info? 45).map (fun i => (i.zero, i.size, i.bytes)) = some (some (.pointer none), 1, 8) := by kernel_rfl
theorem info48 : (Tryd.prog.info? 48).map (fun i => (i.zero, i.size, i.bytes)) = some (some (.agg #[.int .i64 0, .string ⟨#[]⟩, .bool false, .bool false, .int .u8 0, .string ⟨#[]⟩, .bool false, .bool false, .int .i64 0, .int .u8 0, .bool false, .int .i64 0, .string ⟨#[]⟩, .bool false, .int .i64 0]), 15, 112) := by kernel_rfl
theorem info31 : (Tryd.prog.info? 31).map (fun i => (i.zero, i.size, i.bytes)) = some (some (.agg #[.string ⟨#[]⟩, .string ⟨#[]⟩]), 2, 32) := by kernel_rfl

abbrev obsS : ByteArray := ⟨#[79, 98, 115, 101, 114, 118, 101, 100, 69, 118, 101, 110, 116, 115]⟩
def cmdV (verb : ByteArray) (opt : Bool) (term : ByteArray) (oe : Nat) : Array Value := #[.string verb, .bool opt, .string term, .pointer none, .pointer none, .pointer none, .pointer none, .pointer (some ⟨oe, 0, none⟩), .pointer none]
/-- The events' cells: two strings each. -/
def Evs (W : World) (v : Value) (n : Nat) (es : Nat → ByteArray × ByteArray) : Prop := ∀ i, i < n → ∃ g c, v = .slice (some ⟨g, 0, none⟩) n c ∧ W.cell? ⟨g, i * 2, none⟩ = some (.string (es i).1) ∧ W.cell? ⟨g, i * 2 + 1, none⟩ = some (.string (es i).2)
theorem Evs.below {W V : World} {v : Value} {n : Nat} {es : Nat → ByteArray × ByteArray} (h : Evs W v n es) (hb : Below W.heap.size W V) : Evs V v n es := fun i hi => by
  obtain ⟨g, c, e, h0, h1⟩ := h i hi
  exact ⟨g, c, e, (hb.cell (p := ⟨g, i * 2, none⟩) (block_lt_of_cell (a := ⟨g, i * 2, none⟩) h0)).trans h0, (hb.cell (p := ⟨g, i * 2 + 1, none⟩) (block_lt_of_cell (a := ⟨g, i * 2, none⟩) h0)).trans h1⟩

theorem Tab.below {w w' : World} (h : Tab w) (hb : Below w.heap.size w w') : Tab w' := by
  unfold Tab Lib.TabIs World.var? at *
  cases hg : Tryd.prog.globalNamed "internal/strconv.uint64pow10" with
  | none => simp [hg] at h
  | some g =>
    simp only [hg, Option.bind_some] at h ⊢
    have hlt : g < w.heap.size := by
      rcases Nat.lt_or_ge g w.heap.size with h' | h'
      · exact h'
      · rw [Array.getElem?_eq_none h'] at h; simp at h
    rw [hb.block g hlt]
    exact h
theorem Tab.alloc {w : World} (h : Tab w) (o : Obj) : Tab (w.alloc o) := h.below ((Below.refl _ _).alloc (Nat.le_refl _) o)
/-- A leaf: an event's item. -/
def leafV (x : ByteArray × ByteArray) : Array Value := itV (x.1 ++ ⟨#[47]⟩ ++ x.2) false 0 ⟨#[]⟩ (.slice none 0 0) false
def ptrs (e : Nat → Nat) : Nat → List Value
  | 0 => []
  | k + 1 => ptrs e k ++ [.pointer (some ⟨e k, 0, none⟩)]
/-- The tree so far: the root, the observed item, k leaves. -/
structure Tr (B : Nat) (W : World) (verb term : ByteArray) (rid : Nat) (rb ob : Nat) (OV : Value) (e : Nat → Nat) (k : Nat) (es : Nat → ByteArray × ByteArray) : Prop where
  root : W.heap[rb]? = some (.cells (itV verb true 61 term (.slice none 0 0) false) 66 (0, 0))
  obs : W.heap[ob]? = some (.cells (itV obsS true 61 (dec rid) OV true) 66 (0, 0))
  own : W.ownsRow B 45 1 OV k (ptrs e k)
  leaf : ∀ j, j < k → W.heap[e j]? = some (.cells (leafV (es j)) 66 (0, 0))
theorem own_ne {W : World} {B k b : Nat} {OV : Value} {xs : List Value} {C : Array Value} {fr : Nat × Nat} (h : W.ownsRow B 45 1 OV k xs) (hb : W.heap[b]? = some (.cells C 66 fr)) : some b ≠ OV.ownBlock := fun e => by
  rcases h.2 with ⟨rfl, _⟩ | ⟨g, cap, cur, rfl, _, hg, _⟩
  · simp [Value.ownBlock] at e
  · simp only [Value.ownBlock, Option.some.injEq] at e
    subst e
    rw [hb] at hg
    simp at hg
theorem own_heap {W V : World} {B e s n g cap : Nat} {xs : List Value} (h : W.ownsRow B e s (.slice (some ⟨g, 0, none⟩) n cap) n xs) (hg : V.heap[g]? = W.heap[g]?) : V.ownsRow B e s (.slice (some ⟨g, 0, none⟩) n cap) n xs := by
  refine ⟨h.1, .inr ?_⟩
  rcases h.2 with ⟨h1, _⟩ | ⟨g', cap', cur, h1, h2, h3, h4⟩
  · cases h1
  · cases h1
    exact ⟨g, cap, cur, rfl, h2, hg.trans h3, h4⟩
theorem Tr.below {B : Nat} {W V : World} {verb term : ByteArray} {rid rb ob : Nat} {OV : Value} {e : Nat → Nat} {k : Nat} {es : Nat → ByteArray × ByteArray} (h : Tr B W verb term rid rb ob OV e k es) (hb : Below W.heap.size W V) : Tr B V verb term rid rb ob OV e k es := by
  refine ⟨(hb.block _ (heap_lt h.root)).trans h.root, (hb.block _ (heap_lt h.obs)).trans h.obs, ⟨h.own.1, h.own.2.imp id ?_⟩, fun j hj => (hb.block _ (heap_lt (h.leaf j hj))).trans (h.leaf j hj)⟩
  rintro ⟨g, cap, cur, e1, e2, e3, e4⟩
  exact ⟨g, cap, cur, e1, e2, (hb.block g (heap_lt e3)).trans e3, e4⟩
theorem ptrs_congr {e e' : Nat → Nat} : ∀ k, (∀ j, j < k → e j = e' j) → ptrs e k = ptrs e' k
  | 0, _ => rfl
  | k + 1, h => by rw [ptrs, ptrs, ptrs_congr k (fun j hj => h j (by omega)), h k (by omega)]
theorem tr_next {B : Nat} {wr w' : World} {verb term : ByteArray} {rid rb ob : Nat} {OV : Value} {e : Nat → Nat} {k : Nat} {es : Nat → ByteArray × ByteArray} (h : Tr B wr verb term rid rb ob OV e k es) {g cap : Nat}
    (hown : w'.ownsRow B 45 1 (.slice (some ⟨g, 0, none⟩) (k + 1) cap) (k + 1) (ptrs e k ++ [.pointer (some ⟨wr.heap.size + 1, 0, none⟩)]))
    (hgrow : (((wr.alloc (Obj.cells #[.string (es k).1, .string (es k).2] 31)).drew.alloc (Obj.cells (leafV (es k)) 66)).alloc (Obj.cells #[.pointer (some ⟨wr.heap.size + 1, 0, none⟩)] 45)).grownBy w' OV.ownBlock) :
    Tr B (w'.setCell ⟨ob, 9, none⟩ (.slice (some ⟨g, 0, none⟩) (k + 1) cap)) verb term rid rb ob (.slice (some ⟨g, 0, none⟩) (k + 1) cap) (fun j => if j = k then wr.heap.size + 1 else e j) (k + 1) es := by
  have hB2 : Below wr.heap.size wr (((wr.alloc (Obj.cells #[.string (es k).1, .string (es k).2] 31)).drew.alloc (Obj.cells (leafV (es k)) 66)).alloc (Obj.cells #[.pointer (some ⟨wr.heap.size + 1, 0, none⟩)] 45)) := ((((Below.refl _ _).alloc (Nat.le_refl _) _).drew).alloc (by simp) _).alloc (by simp; omega) _
  have hsz : (((wr.alloc (Obj.cells #[.string (es k).1, .string (es k).2] 31)).drew.alloc (Obj.cells (leafV (es k)) 66)).alloc (Obj.cells #[.pointer (some ⟨wr.heap.size + 1, 0, none⟩)] 45)).heap.size = wr.heap.size + 3 := by simp
  have keep : ∀ (b : Nat) (C : Array Value) (fr : Nat × Nat), wr.heap[b]? = some (Obj.cells C 66 fr) → w'.heap[b]? = some (Obj.cells C 66 fr) := fun b C fr hb => by
    rw [hgrow.block b (by have := heap_lt hb; omega) (own_ne h.own hb), hB2.block b (heap_lt hb)]
    exact hb
  have hnew : w'.heap[wr.heap.size + 1]? = some (.cells (leafV (es k)) 66 (0, 0)) := by
    have h0 : (((wr.alloc (Obj.cells #[.string (es k).1, .string (es k).2] 31)).drew.alloc (Obj.cells (leafV (es k)) 66)).alloc (Obj.cells #[.pointer (some ⟨wr.heap.size + 1, 0, none⟩)] 45)).heap[wr.heap.size + 1]? = some (.cells (leafV (es k)) 66 (0, 0)) := by
      refine heapOld ?_ _
      have := heap_alloc_new (wr.alloc (.cells #[.string (es k).1, .string (es k).2] 31)).drew (.cells (leafV (es k)) 66)
      simpa using this
    rw [hgrow.block _ (by omega) (fun e' => by have := (h.own.lt _ e'.symm).2; omega)]
    exact h0
  have hgob : g ≠ ob := fun e' => by
    subst e'
    exact own_ne hown (keep _ _ _ h.obs) rfl
  have hrow := keep _ _ _ h.obs
  have hne : ∀ (b : Nat) (C : Array Value) (fr : Nat × Nat), w'.heap[b]? = some (Obj.cells C 66 fr) → C ≠ itV obsS true 61 (dec rid) OV true → (w'.setCell ⟨ob, 9, none⟩ (.slice (some ⟨g, 0, none⟩) (k + 1) cap)).heap[b]? = some (.cells C 66 fr) := fun b C fr hb hC => by
    rw [heap_setCell_other]
    · exact hb
    · intro e'
      have e'' : b = ob := e'
      subst e''
      rw [hb] at hrow
      simp at hrow
      exact hC hrow.1
  refine ⟨hne _ _ _ (keep _ _ _ h.root) (fun e' => ?_), heap_setCell_same w' ob 9 _ 66 _ hrow, own_heap ?_ (heap_setCell_other _ _ _ _ hgob), fun j hj => ?_⟩
  · have := congrArg (·[10]?) e'
    simp [itV] at this
  · have e1 : ptrs (fun j => if j = k then wr.heap.size + 1 else e j) (k + 1) = ptrs e k ++ [.pointer (some ⟨wr.heap.size + 1, 0, none⟩)] := by
      rw [ptrs, ptrs_congr k (e' := e) (fun j hj => if_neg (by omega)), if_pos rfl]
    rw [e1]
    exact hown
  · have hC : ∀ x, leafV x ≠ itV obsS true 61 (dec rid) OV true := fun x e' => by
      have := congrArg (·[2]?) e'
      simp [leafV, itV] at this
    show (w'.setCell ⟨ob, 9, none⟩ _).heap[if j = k then wr.heap.size + 1 else e j]? = _
    by_cases hjk : j = k
    · subst hjk
      rw [if_pos rfl]
      exact hne _ _ _ hnew (hC _)
    · rw [if_neg hjk]
      exact hne _ _ _ (keep _ _ _ (h.leaf j (by omega))) (hC _)

/-- What commandItem leaves. -/
structure Tree (B : Nat) (W : World) (v : Value) (verb term : ByteArray) (rid n : Nat) (es : Nat → ByteArray × ByteArray) (rb ob q : Nat) (rc : Nat) (OV : Value) (e : Nat → Nat) : Prop where
  val : v = .pointer (some ⟨rb, 0, none⟩)
  root : W.heap[rb]? = some (.cells (itV verb true 61 term (.slice (some ⟨q, 0, none⟩) 1 rc) true) 66 (0, 0))
  one : W.ownsRow B 45 1 (.slice (some ⟨q, 0, none⟩) 1 rc) 1 [.pointer (some ⟨ob, 0, none⟩)]
  obs : W.heap[ob]? = some (.cells (itV obsS true 61 (dec rid) OV true) 66 (0, 0))
  own : W.ownsRow B 45 1 OV n (ptrs e n)
  leaf : ∀ j, j < n → W.heap[e j]? = some (.cells (leafV (es j)) 66 (0, 0))
def CmdRes (w : World) (verb term : ByteArray) (rid n : Nat) (es : Nat → ByteArray × ByteArray) (e : Ending) (w' : World) : Prop := (∃ v rb ob q rc OV el, e = .returned v ∧ Tree w.heap.size w' v verb term rid n es rb ob q rc OV el) ∧ Below w.heap.size w w'
theorem cmdRes {w w' : World} {verb term : ByteArray} {rid n : Nat} {es : Nat → ByteArray × ByteArray} {e : Ending} {v : Value} {rb ob q rc : Nat} {OV : Value} {el : Nat → Nat} (he : e = .returned v) (ht : Tree w.heap.size w' v verb term rid n es rb ob q rc OV el) (hb : Below w.heap.size w w') : CmdRes w verb term rid n es e w' := ⟨⟨v, rb, ob, q, rc, OV, el, he, ht⟩, hb⟩
theorem tree_done {B : Nat} {wr w6 : World} {verb term : ByteArray} {rid rb ob : Nat} {OV : Value} {e : Nat → Nat} {n : Nat} {es : Nat → ByteArray × ByteArray} (h : Tr B wr verb term rid rb ob OV e n es) {q rc : Nat}
    (hown : w6.ownsRow B 45 1 (.slice (some ⟨q, 0, none⟩) 1 rc) 1 [.pointer (some ⟨ob, 0, none⟩)]) (hgrow : (wr.alloc (Obj.cells #[.pointer (some ⟨ob, 0, none⟩)] 45)).grownBy w6 (Value.slice none 0 0).ownBlock) :
    Tree B ((w6.setCell ⟨rb, 9, none⟩ (.slice (some ⟨q, 0, none⟩) 1 rc)).setCell ⟨rb, 10, none⟩ (.bool true)) (.pointer (some ⟨rb, 0, none⟩)) verb term rid n es rb ob q rc OV e := by
  have keep : ∀ (b : Nat) (o : Obj), wr.heap[b]? = some o → w6.heap[b]? = some o := fun b o hb => (hgrow.block b (by have := heap_lt hb; simp; omega) (by simp [Value.ownBlock])).trans (heapOld hb _)
  have hrow := keep _ _ h.root
  have other : ∀ (b : Nat) (o : Obj), b ≠ rb → w6.heap[b]? = some o → ((w6.setCell ⟨rb, 9, none⟩ (.slice (some ⟨q, 0, none⟩) 1 rc)).setCell ⟨rb, 10, none⟩ (.bool true)).heap[b]? = some o := fun b o hb ho => by
    rw [heap_setCell_other _ ⟨rb, 10, none⟩ b _ hb, heap_setCell_other _ ⟨rb, 9, none⟩ b _ hb]; exact ho
  have hqr : q ≠ rb := fun e' => by
    subst e'
    exact own_ne hown hrow rfl
  have hor : ob ≠ rb := fun e' => by
    have h1 := h.obs
    rw [e', h.root] at h1
    simp [itV] at h1
  refine ⟨rfl, row_set (row_set hrow 9 _) 10 _, ?_, other _ _ hor (keep _ _ h.obs), ?_, fun j hj => other _ _ (fun e' => ?_) (keep _ _ (h.leaf j hj))⟩
  · exact own_heap hown (by rw [heap_setCell_other _ ⟨rb, 10, none⟩ q _ hqr, heap_setCell_other _ ⟨rb, 9, none⟩ q _ hqr])
  · refine ⟨h.own.1, ?_⟩
    rcases h.own.2 with h1 | ⟨g, cap, cur, e1, e2, e3, e4⟩
    · exact .inl h1
    · refine .inr ⟨g, cap, cur, e1, e2, other _ _ (fun e' => ?_) (keep _ _ e3), e4⟩
      rw [e', h.root] at e3
      simp at e3
  · have h1 := h.leaf j hj
    rw [e', h.root] at h1
    simp [leafV, itV] at h1

set_option maxRecDepth 100000 in
set_option maxHeartbeats 4000000 in
theorem commandItem_any (verb term : ByteArray) (opt : Bool) (oe : Nat) (rid : Nat) (hrid : rid < 4294967296) (ea : Option Addr) (n c : Nat) (es : Nat → ByteArray × ByteArray) (w : World) (ht : Tab w) (hn : n ≤ 65537)
    (hsz : ∀ i, i < n → (es i).1.size + (es i).2.size ≤ 2097152)
    (ho : w.heap[oe]? = some (.cells #[.int .u32 rid, .slice ea n c] 35 (0, 0))) (he : Evs w (.slice ea n c) n es) :
    Calls Tryd.prog 20 #[.agg (cmdV verb opt term oe)] w fun e w' => CmdRes w verb term rid n es e w' := by
  have o0 : w.cell? ⟨oe, 0, none⟩ = some (.int .u32 rid) := cell_of_row w oe 0 _ 35 (0, 0) ho
  have o1 : w.cell? ⟨oe, 1, none⟩ = some (.slice ea n c) := cell_of_row w oe 1 _ 35 (0, 0) ho
  have hoe : oe < w.heap.size := heap_lt ho
  have HO := hid ho
  have HT := hid ht
  have HE := hid he
  have HR0 := hid (heap_alloc_new w (.cells (cmdV verb opt term oe) 42))
  have HB0 := hid (show Below w.heap.size w (w.alloc (.cells (cmdV verb opt term oe) 42)) from (Below.refl _ _).alloc (Nat.le_refl _) _)
  clear ho ht he
  unfold cmdV at HB0 HR0 ⊢
  go_enter Tryd.func20, Tryd.ntmps20
  go_wp2_with (first
    | (go_at_call 36; refine (valueItem_any verb term _).mono ?_; rintro e w1 ⟨rfl, hr1, hb1⟩; have hs1 := hb1.size; simp at hs1 hr1; have HRT1 := hid hr1; have HBX1 := hid ((hb1.block w.heap.size (by simp)).trans HR0.out); have HB1 := hid (HB0.out.trans (hb1.mono HB0.out.size)); have q6 : w1.cell? ⟨w.heap.size, 6, none⟩ = some (.pointer none) := cell_of_row w1 _ 6 _ 42 (0, 0) HBX1.out; have q7 : w1.cell? ⟨w.heap.size, 7, none⟩ = some (.pointer (some ⟨oe, 0, none⟩)) := cell_of_row w1 _ 7 _ 42 (0, 0) HBX1.out; have p0 : w1.cell? ⟨oe, 0, none⟩ = some (.int .u32 rid) := (HB1.out.cell (p := ⟨oe, 0, none⟩) hoe).trans o0; clear hr1 hb1)
    | (go_at_call 39; refine (formatUint_any rid (by omega) _ (HT.out.below HB1.out)).mono ?_; rintro e w2 ⟨rfl, hb2⟩; have hs2 := hb2.size; have HRT2 := hid ((hb2.block _ (heap_lt HRT1.out)).trans HRT1.out); have HB2 := hid (HB1.out.trans (hb2.mono HB1.out.size)); clear hb2)
    | (go_at_call 38; refine (blockItem_any obsS (dec rid) _).mono ?_; rintro e w3 ⟨rfl, hr3, hb3⟩; have hs3 := hb3.size; have HRT3 := hid ((hb3.block _ (heap_lt HRT2.out)).trans HRT2.out); have HB3 := hid (HB2.out.trans (hb3.mono HB2.out.size)); have HOB := hid hr3; have p1 : w3.cell? ⟨oe, 1, none⟩ = some (.slice ea n c) := (HB3.out.cell (p := ⟨oe, 1, none⟩) hoe).trans o1; clear hr3 hb3))
  obtain ⟨i0, hi, hz0, hz1, hz2⟩ := info_parts info45
  obtain ⟨rb, hrb⟩ : ∃ rb, w.heap.size + 1 + 1 = rb := ⟨_, rfl⟩
  obtain ⟨ob, hob⟩ : ∃ ob, w2.heap.size + 1 = ob := ⟨_, rfl⟩
  rw [hrb] at HRT3 ⊢
  rw [hob] at HOB ⊢
  have HSZ := hid hsz
  have hrB : w.heap.size ≤ rb := by omega
  have hoB : w.heap.size ≤ ob := by omega
  clear hsz HRT1 HRT2 HB1 HB2 HBX1 HO HT HB0 HR0 q6 q7 p0 p1 o0 o1 hrb hob hs1 hs2 hs3
  go_loopw [82] (fun i wr => ∃ k : Nat, k ≤ n ∧ i = .int .i64 k ∧ ∃ OV e, Tr w.heap.size wr verb term rid rb ob OV e k es ∧ Below w.heap.size w wr) (fun i _ => n - (intOf i).toNat)
  case atStart => exact ⟨0, Nat.zero_le _, rfl, .slice none 0 0, fun _ => 0, ⟨HRT3.out, HOB.out, World.ownsRow_nil _ _ _ _, fun j hj => absurd hj (by omega)⟩, HB3.out⟩
  case round =>
    clear HRT3 HOB HB3
    obtain ⟨k, hk, rfl, OV, e, htr, hbr⟩ := hrel
    have HTR := hid htr
    have HB := hid hbr
    by_cases hlt : k < n
    · obtain ⟨ge, ce, ee, c0, c1⟩ := (HE.out.below hbr) k hlt
      cases ee
      have hs := HSZ.out k hlt
      have hco : wr.cell? ⟨ob, 9, none⟩ = some OV := cell_of_row wr ob 9 _ 66 (0, 0) htr.obs
      have hB2 : Below wr.heap.size wr (((wr.alloc (Obj.cells #[.string (es k).1, .string (es k).2] 31)).drew.alloc (Obj.cells (leafV (es k)) 66)).alloc (Obj.cells #[.pointer (some ⟨wr.heap.size + 1, 0, none⟩)] 45)) := ((((Below.refl _ _).alloc (Nat.le_refl _) _).drew).alloc (by simp) _).alloc (by simp; omega) _
      have HOW := hid (show (((wr.alloc (Obj.cells #[.string (es k).1, .string (es k).2] 31)).drew.alloc (Obj.cells (leafV (es k)) 66)).alloc (Obj.cells #[.pointer (some ⟨wr.heap.size + 1, 0, none⟩)] 45)).ownsRow w.heap.size 45 1 OV k (ptrs e k) from (htr.below hB2).own)
      have hxrow : (((wr.alloc (Obj.cells #[.string (es k).1, .string (es k).2] 31)).drew.alloc (Obj.cells (leafV (es k)) 66)).alloc (Obj.cells #[.pointer (some ⟨wr.heap.size + 1, 0, none⟩)] 45)).heap[wr.heap.size]? = some (.cells #[.string (es k).1, .string (es k).2] 31 (0, 0)) := heapOld (heapOld (heap_alloc_new wr _) _) _
      have hxne : some wr.heap.size ≠ OV.ownBlock := fun e' => by have := (htr.own.lt _ e'.symm).2; omega
      have hobne := own_ne htr.own htr.obs
      have hoblt := heap_lt htr.obs
      have hsz2 : (((wr.alloc (Obj.cells #[.string (es k).1, .string (es k).2] 31)).drew.alloc (Obj.cells (leafV (es k)) 66)).alloc (Obj.cells #[.pointer (some ⟨wr.heap.size + 1, 0, none⟩)] 45)).heap.size = wr.heap.size + 3 := by simp
      have hoc2 : (((wr.alloc (Obj.cells #[.string (es k).1, .string (es k).2] 31)).drew.alloc (Obj.cells (leafV (es k)) 66)).alloc (Obj.cells #[.pointer (some ⟨wr.heap.size + 1, 0, none⟩)] 45)).heap[ob]? = some (.cells (itV obsS true 61 (dec rid) OV true) 66 (0, 0)) := (hB2.block ob hoblt).trans htr.obs
      have HNC := hid (World.news_of_block (w := (((wr.alloc (Obj.cells #[.string (es k).1, .string (es k).2] 31)).drew.alloc (Obj.cells (leafV (es k)) 66)).alloc (Obj.cells #[.pointer (some ⟨wr.heap.size + 1, 0, none⟩)] 45))) (B := wr.heap.size + 1 + 1) (cs := #[.pointer (some ⟨wr.heap.size + 1, 0, none⟩)]) (t := 45) (fr := (0, 0)) (by have := heap_alloc_new ((wr.alloc (Obj.cells #[.string (es k).1, .string (es k).2] 31)).drew.alloc (Obj.cells (leafV (es k)) 66)) (.cells #[.pointer (some ⟨wr.heap.size + 1, 0, none⟩)] 45); simpa using this))
      have HBS := hid (show w.heap.size ≤ (((wr.alloc (Obj.cells #[.string (es k).1, .string (es k).2] 31)).drew.alloc (Obj.cells (leafV (es k)) 66)).alloc (Obj.cells #[.pointer (some ⟨wr.heap.size + 1, 0, none⟩)] 45)).heap.size by have := hbr.size; omega)
      have HS0 := hid (show (wr.alloc (.cells #[.string (es k).1, .string (es k).2] 31)).drew.cell? ⟨wr.heap.size, 0, none⟩ = some (.string (es k).1) ∧ (wr.alloc (.cells #[.string (es k).1, .string (es k).2] 31)).drew.cell? ⟨wr.heap.size, 1, none⟩ = some (.string (es k).2) from
        ⟨cell_of_row _ _ 0 _ 31 (0, 0) (show (wr.alloc (.cells #[.string (es k).1, .string (es k).2] 31)).heap[wr.heap.size]? = _ from heap_alloc_new wr _), cell_of_row _ _ 1 _ 31 (0, 0) (show (wr.alloc (.cells #[.string (es k).1, .string (es k).2] 31)).heap[wr.heap.size]? = _ from heap_alloc_new wr _)⟩)
      have HKC := hid (fun w5 (hg : (((wr.alloc (Obj.cells #[.string (es k).1, .string (es k).2] 31)).drew.alloc (Obj.cells (leafV (es k)) 66)).alloc (Obj.cells #[.pointer (some ⟨wr.heap.size + 1, 0, none⟩)] 45)).grownBy w5 OV.ownBlock) => show w5.cell? ⟨wr.heap.size, 0, none⟩ = some (.string (es k).1) ∧ w5.cell? ⟨wr.heap.size, 1, none⟩ = some (.string (es k).2) from
        have hr : w5.heap[wr.heap.size]? = _ := (hg.block wr.heap.size (by omega) hxne).trans hxrow
        ⟨cell_of_row _ _ 0 _ 31 (0, 0) hr, cell_of_row _ _ 1 _ 31 (0, 0) hr⟩)
      have HOBC := hid (fun w5 (hg : (((wr.alloc (Obj.cells #[.string (es k).1, .string (es k).2] 31)).drew.alloc (Obj.cells (leafV (es k)) 66)).alloc (Obj.cells #[.pointer (some ⟨wr.heap.size + 1, 0, none⟩)] 45)).grownBy w5 OV.ownBlock) => show w5.cell? ⟨ob, 9, none⟩ = some OV ∧ w5.frozen? ⟨ob, 9, none⟩ = false from
        have hr : w5.heap[ob]? = _ := (hg.block ob (by omega) hobne).trans hoc2
        ⟨cell_of_row _ _ 9 _ 66 (0, 0) hr, frozen_of_row _ _ 9 _ 66 hr⟩)
      have HSC := hid (fun w5 (hg : (((wr.alloc (Obj.cells #[.string (es k).1, .string (es k).2] 31)).drew.alloc (Obj.cells (leafV (es k)) 66)).alloc (Obj.cells #[.pointer (some ⟨wr.heap.size + 1, 0, none⟩)] 45)).grownBy w5 OV.ownBlock) (v : Value) => show (w5.setCell ⟨ob, 9, none⟩ v).cell? ⟨wr.heap.size, 0, none⟩ = some (.string (es k).1) ∧ (w5.setCell ⟨ob, 9, none⟩ v).cell? ⟨wr.heap.size, 1, none⟩ = some (.string (es k).2) from
        have hr : (w5.setCell ⟨ob, 9, none⟩ v).heap[wr.heap.size]? = _ := (heap_setCell_other w5 ⟨ob, 9, none⟩ wr.heap.size v (by show wr.heap.size ≠ ob; omega)).trans ((hg.block wr.heap.size (by omega) hxne).trans hxrow)
        ⟨cell_of_row _ _ 0 _ 31 (0, 0) hr, cell_of_row _ _ 1 _ 31 (0, 0) hr⟩)
      have HBN := hid (fun w5 (hg : (((wr.alloc (Obj.cells #[.string (es k).1, .string (es k).2] 31)).drew.alloc (Obj.cells (leafV (es k)) 66)).alloc (Obj.cells #[.pointer (some ⟨wr.heap.size + 1, 0, none⟩)] 45)).grownBy w5 OV.ownBlock) (v : Value) => show Below w.heap.size w (w5.setCell ⟨ob, 9, none⟩ v) from
        ((hbr.trans (hB2.mono hbr.size)).grown hg (by have := hbr.size; omega) (fun j e' => (htr.own.lt j e').1)).setCell (p := ⟨ob, 9, none⟩) hoB _)
      have hco3 : ∀ o1 o2 o3, (((wr.alloc o1).alloc o2).alloc o3).drew.cell? ⟨ob, 9, none⟩ = some OV := fun o1 o2 o3 => (((((Below.refl wr.heap.size wr).alloc (Nat.le_refl _) o1).alloc (by simp) o2).alloc (by simp; omega) o3).drew.cell (p := ⟨ob, 9, none⟩) hoblt).trans hco
      clear htr hbr hB2 hxrow hxne hobne hsz2 hoc2
      go_wp2
      refine wp_region_held_drew (S := fun W => W.cell? ⟨wr.heap.size, 0, none⟩ = some (.string (es k).1) ∧ W.cell? ⟨wr.heap.size, 1, none⟩ = some (.string (es k).2)) (by kernel_rfl) HS0.out (fun hHeld => ?_)
      refine wpAnyH_take (i := 0) (v := ?_) rfl (by kernel_rfl) (by kernel_rfl) (by kernel_rfl) (fun _ _ _ h => h) (Or.inl ⟨by kernel_rfl, ?_⟩) (by assumption) ?_
      rotate_left
      · intro w hSw; go_simp; with_reducible rfl
      try simp (maxSteps := 2000000) only [Act.put, List.getElem_toArray, List.getElem_cons_succ, List.getElem_cons_zero, List.setIfInBounds_toArray, List.set_cons_zero, List.set_cons_succ]
      refine wpAnyH_take (i := 1) (v := ?_) rfl (by kernel_rfl) (by kernel_rfl) (by kernel_rfl) (fun _ _ _ h => h) (Or.inl ⟨by kernel_rfl, ?_⟩) (by assumption) ?_
      rotate_left
      · intro w hSw; go_simp; with_reducible rfl
      try simp (maxSteps := 2000000) only [Act.put, List.getElem_toArray, List.getElem_cons_succ, List.getElem_cons_zero, List.setIfInBounds_toArray, List.set_cons_zero, List.set_cons_succ]
      refine wpAnyH_take (i := 2) (v := ?_) rfl (by kernel_rfl) (by kernel_rfl) (by kernel_rfl) (fun _ _ _ h => h) (Or.inl ⟨by kernel_rfl, ?_⟩) (by assumption) ?_
      rotate_left
      · intro w hSw; go_simp; with_reducible rfl
      try simp (maxSteps := 2000000) only [Act.put, List.getElem_toArray, List.getElem_cons_succ, List.getElem_cons_zero, List.setIfInBounds_toArray, List.set_cons_zero, List.set_cons_succ]
      refine wpAnyH_take (i := 3) (v := ?_) rfl (by kernel_rfl) (by kernel_rfl) (by kernel_rfl) (fun _ _ _ h => h) (Or.inl ⟨by kernel_rfl, ?_⟩) (by assumption) ?_
      rotate_left
      · intro w hSw; go_simp; with_reducible rfl
      try simp (maxSteps := 2000000) only [Act.put, List.getElem_toArray, List.getElem_cons_succ, List.getElem_cons_zero, List.setIfInBounds_toArray, List.set_cons_zero, List.set_cons_succ]
      refine wpAnyH_take (i := 5) (v := ?_) rfl (by kernel_rfl) (by kernel_rfl) (by kernel_rfl) (fun _ _ _ h => h) (Or.inl ⟨by kernel_rfl, ?_⟩) (by assumption) ?_
      rotate_left
      · intro w hSw; go_simp; with_reducible rfl
      try simp (maxSteps := 2000000) only [Act.put, List.getElem_toArray, List.getElem_cons_succ, List.getElem_cons_zero, List.setIfInBounds_toArray, List.set_cons_zero, List.set_cons_succ]
      refine wpAnyH_take (i := 6) (v := ?_) rfl (by kernel_rfl) (by kernel_rfl) (by kernel_rfl) (fun _ _ _ h => h) (Or.inl ⟨by kernel_rfl, ?_⟩) (by assumption) ?_
      rotate_left
      · intro w hSw; have hcl := hSw.1; go_simp; with_reducible rfl
      try simp (maxSteps := 2000000) only [Act.put, List.getElem_toArray, List.getElem_cons_succ, List.getElem_cons_zero, List.setIfInBounds_toArray, List.set_cons_zero, List.set_cons_succ]
      refine wpAnyH_take (i := 7) (v := ?_) rfl (by kernel_rfl) (by kernel_rfl) (by kernel_rfl) (fun _ _ _ h => h) (Or.inl ⟨by kernel_rfl, ?_⟩) (by assumption) ?_
      rotate_left
      · intro w hSw; go_simp; rw [if_neg (by omega)]
      try simp (maxSteps := 2000000) only [Act.put, List.getElem_toArray, List.getElem_cons_succ, List.getElem_cons_zero, List.setIfInBounds_toArray, List.set_cons_zero, List.set_cons_succ]
      refine wpAnyH_take (i := 8) (v := ?_) rfl (by kernel_rfl) (by kernel_rfl) (by kernel_rfl) (fun _ _ _ h => h) (Or.inl ⟨by kernel_rfl, ?_⟩) (by assumption) ?_
      rotate_left
      · intro w hSw; go_simp; with_reducible rfl
      try simp (maxSteps := 2000000) only [Act.put, List.getElem_toArray, List.getElem_cons_succ, List.getElem_cons_zero, List.setIfInBounds_toArray, List.set_cons_zero, List.set_cons_succ]
      refine wpAnyH_take (i := 9) (v := ?_) rfl (by kernel_rfl) (by kernel_rfl) (by kernel_rfl) (fun _ _ _ h => h) (Or.inl ⟨by kernel_rfl, ?_⟩) (by assumption) ?_
      rotate_left
      · intro w hSw; have hcl := hSw.2; go_simp; with_reducible rfl
      try simp (maxSteps := 2000000) only [Act.put, List.getElem_toArray, List.getElem_cons_succ, List.getElem_cons_zero, List.setIfInBounds_toArray, List.set_cons_zero, List.set_cons_succ]
      refine wpAnyH_take (i := 10) (v := ?_) rfl (by kernel_rfl) (by kernel_rfl) (by kernel_rfl) (fun _ _ _ h => h) (Or.inl ⟨by kernel_rfl, ?_⟩) (by assumption) ?_
      rotate_left
      · intro w hSw; go_simp; rw [if_neg (by simp; omega)]
      try simp (maxSteps := 2000000) only [Act.put, List.getElem_toArray, List.getElem_cons_succ, List.getElem_cons_zero, List.setIfInBounds_toArray, List.set_cons_zero, List.set_cons_succ]
      refine wpAnyH_take (i := 11) (v := ?_) rfl (by kernel_rfl) (by kernel_rfl) (by kernel_rfl) (fun _ _ _ h => h) (Or.inl ⟨by kernel_rfl, ?_⟩) (by assumption) ?_
      rotate_left
      · intro w hSw; go_simp; with_reducible rfl
      try simp (maxSteps := 2000000) only [Act.put, List.getElem_toArray, List.getElem_cons_succ, List.getElem_cons_zero, List.setIfInBounds_toArray, List.set_cons_zero, List.set_cons_succ]
      refine wpAnyH_ready (rs := [4, 12]) (by kernel_rfl) (by simp) ?_
      refine AllReadyH.cons rfl (fun K hK => ?_) (AllReadyH.cons rfl (fun K hK => ?_) AllReadyH.nil)
      · go_simp
        refine hK.out _ _ hHeld (fun hHeld => ?_)
        clear hK K
        try simp (maxSteps := 2000000) only [Act.put, List.getElem_toArray, List.getElem_cons_succ, List.getElem_cons_zero, List.setIfInBounds_toArray, List.set_cons_zero, List.set_cons_succ]
        refine wpAnyH_ready (rs := [12]) (by kernel_rfl) (by simp) ?_
        refine AllReadyH.cons rfl (fun K hK => ?_) AllReadyH.nil
        go_simp
        refine hK.out _ _ ⟨cell?_alloc_old _ hHeld.1, cell?_alloc_old _ hHeld.2⟩ (fun hHeld => ?_)
        clear hK K
        try simp (maxSteps := 2000000) only [Act.put, List.getElem_toArray, List.getElem_cons_succ, List.getElem_cons_zero, List.setIfInBounds_toArray, List.set_cons_zero, List.set_cons_succ]
        refine wpAnyH_ready (rs := [13]) (by kernel_rfl) (by simp) ?_
        refine AllReadyH.cons rfl (fun K hK => ?_) AllReadyH.nil
        go_simp
        refine hK.out _ _ ⟨cell?_alloc_old _ hHeld.1, cell?_alloc_old _ hHeld.2⟩ (fun hHeld => ?_)
        clear hK K
        try simp (maxSteps := 2000000) only [Act.put, List.getElem_toArray, List.getElem_cons_succ, List.getElem_cons_zero, List.setIfInBounds_toArray, List.set_cons_zero, List.set_cons_succ]
        refine wpAnyH_ready (rs := [14]) (by kernel_rfl) (by simp) ?_
        refine AllReadyH.cons rfl (fun K hK => ?_) AllReadyH.nil
        refine step_append_lies _ rfl (.tmp 90) (.tmp 99) 64 rfl w.heap.size 45 i0 (.pointer none) 1 8 Tryd.underlying64 hi hz0 hz1 hz2 rfl (by decide) OV k (ptrs e k) rfl HOW.out ⟨wr.heap.size + 1 + 1, 0, none⟩ 1 1 [.pointer (some ⟨wr.heap.size + 1, 0, none⟩)] rfl rfl HNC.out (by simp [Value.oneCell']) (by decide) (by unfold maxLen; omega) (by omega) HBS.out _ rfl ?_
        intro g cap w5 hown hgrow _ _
        have HW5 := hid hown
        have HG5 := hid hgrow
        have hS5 := HKC.out w5 hgrow
        clear hown hgrow
        refine hK.out _ _ hS5 (fun hHeld => ?_)
        clear hK K
        try simp (maxSteps := 2000000) only [Act.put, List.getElem_toArray, List.getElem_cons_succ, List.getElem_cons_zero, List.setIfInBounds_toArray, List.set_cons_zero, List.set_cons_succ]
        refine wpAnyH_take (i := 15) (v := ?_) rfl (by kernel_rfl) (by kernel_rfl) (by kernel_rfl) (fun _ _ _ h => h) (Or.inl ⟨by kernel_rfl, ?_⟩) (by assumption) ?_
        rotate_left
        · intro w hSw; go_simp; with_reducible rfl
        try simp (maxSteps := 2000000) only [Act.put, List.getElem_toArray, List.getElem_cons_succ, List.getElem_cons_zero, List.setIfInBounds_toArray, List.set_cons_zero, List.set_cons_succ]
        refine wpAnyH_take (i := 16) (v := ?_) rfl (by kernel_rfl) (by kernel_rfl) (by kernel_rfl) (fun _ _ _ h => h) (Or.inl ⟨by kernel_rfl, ?_⟩) (by assumption) ?_
        rotate_left
        · intro w hSw; go_simp; with_reducible rfl
        try simp (maxSteps := 2000000) only [Act.put, List.getElem_toArray, List.getElem_cons_succ, List.getElem_cons_zero, List.setIfInBounds_toArray, List.set_cons_zero, List.set_cons_succ]
        refine wpAnyH_ready (rs := [17]) (by kernel_rfl) (by simp) ?_
        refine AllReadyH.cons rfl (fun K hK => ?_) AllReadyH.nil
        have hcc := HOBC.out w5 HG5.out
        obtain ⟨hcc, hcf⟩ := hcc
        go_simp
        refine hK.out _ _ (HSC.out w5 HG5.out _) (fun hHeld => ?_)
        clear hK K
        try simp (maxSteps := 2000000) only [Act.put, List.getElem_toArray, List.getElem_cons_succ, List.getElem_cons_zero, List.setIfInBounds_toArray, List.set_cons_zero, List.set_cons_succ]
        refine wpAnyH_done (by kernel_rfl) ?_ _
        go_wp2_with fail
        go_roundw
        case rel => exact ⟨k + 1, by omega, by go_num, _, _, tr_next HTR.out HW5.out HG5.out, HBN.out w5 HG5.out _⟩
        case measure => simp [intOf]; omega
      · go_simp
        refine hK.out _ _ ⟨cell?_alloc_old _ hHeld.1, cell?_alloc_old _ hHeld.2⟩ (fun hHeld => ?_)
        clear hK K
        try simp (maxSteps := 2000000) only [Act.put, List.getElem_toArray, List.getElem_cons_succ, List.getElem_cons_zero, List.setIfInBounds_toArray, List.set_cons_zero, List.set_cons_succ]
        refine wpAnyH_ready (rs := [4, 13]) (by kernel_rfl) (by simp) ?_
        refine AllReadyH.cons rfl (fun K hK => ?_) (AllReadyH.cons rfl (fun K hK => ?_) AllReadyH.nil)
        · go_simp
          refine hK.out _ _ hHeld (fun hHeld => ?_)
          clear hK K
          try simp (maxSteps := 2000000) only [Act.put, List.getElem_toArray, List.getElem_cons_succ, List.getElem_cons_zero, List.setIfInBounds_toArray, List.set_cons_zero, List.set_cons_succ]
          refine wpAnyH_ready (rs := [13]) (by kernel_rfl) (by simp) ?_
          refine AllReadyH.cons rfl (fun K hK => ?_) AllReadyH.nil
          go_simp
          refine hK.out _ _ ⟨cell?_alloc_old _ hHeld.1, cell?_alloc_old _ hHeld.2⟩ (fun hHeld => ?_)
          clear hK K
          try simp (maxSteps := 2000000) only [Act.put, List.getElem_toArray, List.getElem_cons_succ, List.getElem_cons_zero, List.setIfInBounds_toArray, List.set_cons_zero, List.set_cons_succ]
          refine wpAnyH_ready (rs := [14]) (by kernel_rfl) (by simp) ?_
          refine AllReadyH.cons rfl (fun K hK => ?_) AllReadyH.nil
          refine step_append_lies _ rfl (.tmp 90) (.tmp 99) 64 rfl w.heap.size 45 i0 (.pointer none) 1 8 Tryd.underlying64 hi hz0 hz1 hz2 rfl (by decide) OV k (ptrs e k) rfl HOW.out ⟨wr.heap.size + 1 + 1, 0, none⟩ 1 1 [.pointer (some ⟨wr.heap.size + 1, 0, none⟩)] rfl rfl HNC.out (by simp [Value.oneCell']) (by decide) (by unfold maxLen; omega) (by omega) HBS.out _ rfl ?_
          intro g cap w5 hown hgrow _ _
          have HW5 := hid hown
          have HG5 := hid hgrow
          have hS5 := HKC.out w5 hgrow
          clear hown hgrow
          refine hK.out _ _ hS5 (fun hHeld => ?_)
          clear hK K
          try simp (maxSteps := 2000000) only [Act.put, List.getElem_toArray, List.getElem_cons_succ, List.getElem_cons_zero, List.setIfInBounds_toArray, List.set_cons_zero, List.set_cons_succ]
          refine wpAnyH_take (i := 15) (v := ?_) rfl (by kernel_rfl) (by kernel_rfl) (by kernel_rfl) (fun _ _ _ h => h) (Or.inl ⟨by kernel_rfl, ?_⟩) (by assumption) ?_
          rotate_left
          · intro w hSw; go_simp; with_reducible rfl
          try simp (maxSteps := 2000000) only [Act.put, List.getElem_toArray, List.getElem_cons_succ, List.getElem_cons_zero, List.setIfInBounds_toArray, List.set_cons_zero, List.set_cons_succ]
          refine wpAnyH_take (i := 16) (v := ?_) rfl (by kernel_rfl) (by kernel_rfl) (by kernel_rfl) (fun _ _ _ h => h) (Or.inl ⟨by kernel_rfl, ?_⟩) (by assumption) ?_
          rotate_left
          · intro w hSw; go_simp; with_reducible rfl
          try simp (maxSteps := 2000000) only [Act.put, List.getElem_toArray, List.getElem_cons_succ, List.getElem_cons_zero, List.setIfInBounds_toArray, List.set_cons_zero, List.set_cons_succ]
          refine wpAnyH_ready (rs := [17]) (by kernel_rfl) (by simp) ?_
          refine AllReadyH.cons rfl (fun K hK => ?_) AllReadyH.nil
          have hcc := HOBC.out w5 HG5.out
          obtain ⟨hcc, hcf⟩ := hcc
          go_simp
          refine hK.out _ _ (HSC.out w5 HG5.out _) (fun hHeld => ?_)
          clear hK K
          try simp (maxSteps := 2000000) only [Act.put, List.getElem_toArray, List.getElem_cons_succ, List.getElem_cons_zero, List.setIfInBounds_toArray, List.set_cons_zero, List.set_cons_succ]
          refine wpAnyH_done (by kernel_rfl) ?_ _
          go_wp2_with fail
          go_roundw
          case rel => exact ⟨k + 1, by omega, by go_num, _, _, tr_next HTR.out HW5.out HG5.out, HBN.out w5 HG5.out _⟩
          case measure => simp [intOf]; omega
        · go_simp
          refine hK.out _ _ ⟨cell?_alloc_old _ hHeld.1, cell?_alloc_old _ hHeld.2⟩ (fun hHeld => ?_)
          clear hK K
          try simp (maxSteps := 2000000) only [Act.put, List.getElem_toArray, List.getElem_cons_succ, List.getElem_cons_zero, List.setIfInBounds_toArray, List.set_cons_zero, List.set_cons_succ]
          refine wpAnyH_ready (rs := [4]) (by kernel_rfl) (by simp) ?_
          refine AllReadyH.cons rfl (fun K hK => ?_) AllReadyH.nil
          go_simp
          refine hK.out _ _ hHeld (fun hHeld => ?_)
          clear hK K
          try simp (maxSteps := 2000000) only [Act.put, List.getElem_toArray, List.getElem_cons_succ, List.getElem_cons_zero, List.setIfInBounds_toArray, List.set_cons_zero, List.set_cons_succ]
          refine wpAnyH_ready (rs := [14]) (by kernel_rfl) (by simp) ?_
          refine AllReadyH.cons rfl (fun K hK => ?_) AllReadyH.nil
          refine step_append_lies _ rfl (.tmp 90) (.tmp 99) 64 rfl w.heap.size 45 i0 (.pointer none) 1 8 Tryd.underlying64 hi hz0 hz1 hz2 rfl (by decide) OV k (ptrs e k) rfl HOW.out ⟨wr.heap.size + 1 + 1, 0, none⟩ 1 1 [.pointer (some ⟨wr.heap.size + 1, 0, none⟩)] rfl rfl HNC.out (by simp [Value.oneCell']) (by decide) (by unfold maxLen; omega) (by omega) HBS.out _ rfl ?_
          intro g cap w5 hown hgrow _ _
          have HW5 := hid hown
          have HG5 := hid hgrow
          have hS5 := HKC.out w5 hgrow
          clear hown hgrow
          refine hK.out _ _ hS5 (fun hHeld => ?_)
          clear hK K
          try simp (maxSteps := 2000000) only [Act.put, List.getElem_toArray, List.getElem_cons_succ, List.getElem_cons_zero, List.setIfInBounds_toArray, List.set_cons_zero, List.set_cons_succ]
          refine wpAnyH_take (i := 15) (v := ?_) rfl (by kernel_rfl) (by kernel_rfl) (by kernel_rfl) (fun _ _ _ h => h) (Or.inl ⟨by kernel_rfl, ?_⟩) (by assumption) ?_
          rotate_left
          · intro w hSw; go_simp; with_reducible rfl
          try simp (maxSteps := 2000000) only [Act.put, List.getElem_toArray, List.getElem_cons_succ, List.getElem_cons_zero, List.setIfInBounds_toArray, List.set_cons_zero, List.set_cons_succ]
          refine wpAnyH_take (i := 16) (v := ?_) rfl (by kernel_rfl) (by kernel_rfl) (by kernel_rfl) (fun _ _ _ h => h) (Or.inl ⟨by kernel_rfl, ?_⟩) (by assumption) ?_
          rotate_left
          · intro w hSw; go_simp; with_reducible rfl
          try simp (maxSteps := 2000000) only [Act.put, List.getElem_toArray, List.getElem_cons_succ, List.getElem_cons_zero, List.setIfInBounds_toArray, List.set_cons_zero, List.set_cons_succ]
          refine wpAnyH_ready (rs := [17]) (by kernel_rfl) (by simp) ?_
          refine AllReadyH.cons rfl (fun K hK => ?_) AllReadyH.nil
          have hcc := HOBC.out w5 HG5.out
          obtain ⟨hcc, hcf⟩ := hcc
          go_simp
          refine hK.out _ _ (HSC.out w5 HG5.out _) (fun hHeld => ?_)
          clear hK K
          try simp (maxSteps := 2000000) only [Act.put, List.getElem_toArray, List.getElem_cons_succ, List.getElem_cons_zero, List.setIfInBounds_toArray, List.set_cons_zero, List.set_cons_succ]
          refine wpAnyH_done (by kernel_rfl) ?_ _
          go_wp2_with fail
          go_roundw
          case rel => exact ⟨k + 1, by omega, by go_num, _, _, tr_next HTR.out HW5.out HG5.out, HBN.out w5 HG5.out _⟩
          case measure => simp [intOf]; omega
    · obtain rfl : k = n := by omega
      have r9 : ∀ o, (wr.alloc o).cell? ⟨rb, 9, none⟩ = some (.slice none 0 0) := fun o => cell?_alloc_old o (cell_of_row wr rb 9 _ 66 (0, 0) htr.root)
      have r9' : wr.cell? ⟨rb, 9, none⟩ = some (.slice none 0 0) := cell_of_row wr rb 9 _ 66 (0, 0) htr.root
      have HNW := hid (World.news_of_block (w := wr.alloc (Obj.cells #[.pointer (some ⟨ob, 0, none⟩)] 45)) (B := wr.heap.size) (cs := #[.pointer (some ⟨ob, 0, none⟩)]) (t := 45) (fr := (0, 0)) (heap_alloc_new _ _))
      have HBS := hid hbr.size
      clear htr hbr
      go_wp2_with (at_builtin; refine wpList_append_lies _ rfl (.tmp 108) (.tmp 110) 64 rfl w.heap.size 45 i0 (.pointer none) 1 8 Tryd.underlying64 hi hz0 hz1 hz2 rfl (by decide) (.slice none 0 0) 0 [] rfl (World.ownsRow_nil _ _ _ _) ⟨wr.heap.size, 0, none⟩ 1 1 [.pointer (some ⟨ob, 0, none⟩)] rfl rfl HNW.out (by simp [Value.oneCell']) (by decide) (by unfold maxLen; omega) (by omega) (by have := HBS.out; simp; omega) _ rfl ?_; intro q rc w6 hown hgrow _ _; rw [Nat.zero_add, List.nil_append] at hown; have HW6 := hid hown; have HG6 := hid hgrow; have hrr : w6.heap[rb]? = _ := (hgrow.block rb (by have := heap_lt HTR.out.root; simp; omega) (by simp [Value.ownBlock])).trans (heapOld HTR.out.root _); have HRR := hid hrr; have t9 : w6.cell? ⟨rb, 9, none⟩ = some (.slice none 0 0) := cell_of_row w6 rb 9 _ 66 (0, 0) hrr; have t10 : w6.cell? ⟨rb, 10, none⟩ = some (.bool false) := cell_of_row w6 rb 10 _ 66 (0, 0) hrr; have f9 := frozen_of_row w6 rb 9 _ 66 hrr; have f10 := frozen_of_row w6 rb 10 _ 66 hrr; clear hown hgrow hrr)
      go_ret
      exact cmdRes rfl (tree_done HTR.out HW6.out HG6.out) ((((HB.out.alloc HB.out.size _).grown HG6.out (by have := HB.out.size; simp; omega) (by simp [Value.ownBlock])).setCell (p := ⟨rb, 9, none⟩) hrB _).setCell (p := ⟨rb, 10, none⟩) hrB _)
end Go.Proofs.Qxb6615981aDoor
