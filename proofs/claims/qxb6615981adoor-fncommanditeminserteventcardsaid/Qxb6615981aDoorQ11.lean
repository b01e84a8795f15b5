import Derived.Test.Qxb6615981aDoorQU
import Derived.BigQuiet
import Derived.Deep.QuietTactic
import Derived.Deep.DrawnRows
namespace Go.Proofs.Qxb6615981aDoor
open Go.RowKit
set_option linter.unusedSimpArgs false
set_option linter.unusedVariables false
attribute [local go_sem ↓] Go.wp_at_zero Go.wp_at_succ

/-- Draws turn nothing. -/
theorem below_drewN {B : Nat} {a w : World} (h : Below B a w) (q : Nat) : Below B a (w.drewN q) := ⟨h.os, h.tape, h.output, h.size, h.block⟩
def IsEv (a : Option Addr) (n c : Nat) : Prop := (a = none ∧ n = 0 ∧ c = 0) ∨ ∃ ad, a = some ad
theorem toObs_all (a : Option Addr) (n c : Nat) (es : Nat → ByteArray × ByteArray) (w : World) (hn : n ≤ 70000) (ha : IsEv a n c) (hs : Zev w a n es) :
    Calls Tryd.prog 12 #[.slice a n c] w fun e w' => (∃ ea ec, e = .returned (.slice ea n ec) ∧ Evs w' (.slice ea n ec) n es) ∧ Below w.heap.size w w' := by
  rcases ha with ⟨rfl, rfl, rfl⟩ | ⟨ad, rfl⟩
  · refine (toObs_nil w).mono ?_
    rintro e w' ⟨rfl, hb⟩
    exact ⟨⟨none, 0, rfl, fun i hi => absurd hi (by omega)⟩, hb⟩
  · refine (toObs_any ad n c es w hn hs).mono ?_
    rintro e w' ⟨⟨xs, rfl, ho, hu⟩, hb⟩
    exact ⟨⟨_, _, rfl, evs_own ho hu⟩, hb⟩
theorem rowE_congr {es es' : Nat → ByteArray × ByteArray} : ∀ k, (∀ j, j < k → es j = es' j) → rowE es k = rowE es' k
  | 0, _ => rfl
  | k + 1, h => by rw [rowE, rowE, rowE_congr k (fun j hj => h j (by omega)), h k (by omega)]
theorem evs_row {W : World} {B n : Nat} {o : Value} {es : Nat → ByteArray × ByteArray} (ho : W.ownsRow B 31 2 o n (rowE es n)) : ∃ ea ec, o = .slice ea n ec ∧ Evs W o n es := by
  rcases ho.2 with ⟨rfl, rfl⟩ | ⟨g, cap, cur, rfl, _⟩
  · exact ⟨none, 0, rfl, fun i hi => absurd hi (by omega)⟩
  · exact ⟨_, cap, rfl, evs_own ho (fun i hi => rowE_get es n i hi)⟩
theorem sz42 : (Tryd.prog.info? 42).map (·.size) = some 9 := by kernel_rfl
theorem below_of_grown {w w' : World} (h : w.grownBy w' (Value.slice none 0 0).ownBlock) : Below w.heap.size w w' := (Below.refl _ _).grown h (Nat.le_refl _) (by simp [Value.ownBlock])
theorem small_sz {n : Nat} {es : Nat → ByteArray × ByteArray} (h : Small n es) : ∀ i, i < n → (es i).1.size + (es i).2.size ≤ 2097152 := fun i hi => by have := h i hi; omega
theorem small_ins {n k : Nat} {es : Nat → ByteArray × ByteArray} {pkg ev : ByteArray} (h : Small n es) (hk : k ≤ n) (h1 : pkg.size ≤ 1048576) (h2 : ev.size ≤ 1048576) : ∀ i, i < n + 1 → (insE es k (pkg, ev) i).1.size + (insE es k (pkg, ev) i).2.size ≤ 2097152 := fun i hi => by
  unfold insE
  split
  · have := h i (by omega); omega
  · split
    · show pkg.size + ev.size ≤ 2097152; omega
    · have := h (i - 1) (by omega); omega
theorem four_new (w : World) (a b c d : Array Value) : Below w.heap.size w ((((w.alloc (.cells a 35)).alloc (.cells b 42)).alloc (.cells c 35)).alloc (.cells d 42)) ∧ ((((w.alloc (.cells a 35)).alloc (.cells b 42)).alloc (.cells c 35)).alloc (.cells d 42)).heap.size = w.heap.size + 4 ∧
    ((((w.alloc (.cells a 35)).alloc (.cells b 42)).alloc (.cells c 35)).alloc (.cells d 42)).heap[w.heap.size]? = some (.cells a 35 (0, 0)) ∧ ((((w.alloc (.cells a 35)).alloc (.cells b 42)).alloc (.cells c 35)).alloc (.cells d 42)).heap[w.heap.size + 1]? = some (.cells b 42 (0, 0)) ∧
    ((((w.alloc (.cells a 35)).alloc (.cells b 42)).alloc (.cells c 35)).alloc (.cells d 42)).heap[w.heap.size + 2]? = some (.cells c 35 (0, 0)) ∧ ((((w.alloc (.cells a 35)).alloc (.cells b 42)).alloc (.cells c 35)).alloc (.cells d 42)).heap[w.heap.size + 3]? = some (.cells d 42 (0, 0)) := by
  refine ⟨((((Below.refl _ _).alloc (Nat.le_refl _) _).alloc (by simp) _).alloc (by simp; omega) _).alloc (by simp; omega) _, by simp, heapOld (heapOld (heapOld (heap_alloc_new _ _) _) _) _, heapOld (heapOld (new2 _ _ _ _) _) _, ?_, ?_⟩
  · have := heap_alloc_new ((w.alloc (.cells a 35)).alloc (.cells b 42)) (.cells c 35)
    rw [World.size_alloc, World.size_alloc] at this
    exact heapOld this _
  · have := heap_alloc_new (((w.alloc (.cells a 35)).alloc (.cells b 42)).alloc (.cells c 35)) (.cells d 42)
    rw [World.size_alloc, World.size_alloc, World.size_alloc] at this
    exact this

set_option maxRecDepth 100000 in
set_option maxHeartbeats 20000000 in
theorem law_in (verb term : ByteArray) (rid : Nat) (a : Option Addr) (n c k : Nat) (pkg ev : ByteArray) (opt : Bool) (es : Nat → ByteArray × ByteArray) (w : World) (ht : Tab w) (hrid : rid < 4294967296) (ha : IsEv a n c) (h1 : verb.size ≤ 65536) (h2 : term.size ≤ 65536) (h4 : pkg.size ≤ 65536) (h5 : ev.size ≤ 65536) (hn : n ≤ 65536) (hk : k ≤ n) (hs : Zev w a n es) (hm : ∀ i, i < n → (es i).1.size ≤ maxLen ∧ (es i).2.size ≤ maxLen) :
    Calls Tryd.prog 5 #[.string verb, .string term, .int .u32 rid, .slice a n c, .int .i64 k, .string pkg, .string ev, .bool opt] w fun e w' => e = .returned (.bool true) ∧ Below w.heap.size w w' := by
  have hd1 : decide (65536 < (verb.size : Int)) = false := decide_eq_false (by omega)
  have hd2 : decide (65536 < (term.size : Int)) = false := decide_eq_false (by omega)
  have hd3 : decide (65536 < (pkg.size : Int)) = false := decide_eq_false (by omega)
  have hd4 : decide (65536 < (ev.size : Int)) = false := decide_eq_false (by omega)
  have hd5 : decide (65536 < (n : Int)) = false := decide_eq_false (by omega)
  have hd6 : decide ((k : Int) < 0) = false := decide_eq_false (by omega)
  have hd7 : decide ((n : Int) < (k : Int)) = false := decide_eq_false (by omega)
  have hd8 : decide (n < k) = false := decide_eq_false (by omega)
  have HTB := hid ht
  have HA := hid ha
  have HS := hid hs
  have HM := hid hm
  clear ht ha hs hm
  go_enter Tryd.func5, Tryd.ntmps5
  go_wp2_with (go_at_call 11; refine (bytes11_any verb term rid a n c k pkg ev opt es _ (by unfold maxLen; omega) (by unfold maxLen; omega) (by unfold maxLen; omega) (by unfold maxLen; omega) (by unfold maxLen; omega) HS.out HM.out).mono ?_; rintro e w1 ⟨bb, rfl, hsm, rfl⟩; have HSM0 := hid hsm; clear hsm; cases bb)
  · go_ret
    exact ⟨rfl, Below.refl _ _⟩
  have HSM := hid (HSM0.out (by trivial))
  clear HSM0 HM
  go_loopw [17, 18] (fun t i wr => ∃ (j : Nat) (z : Int), j ≤ n ∧ i = .int .i64 j ∧ t = .int .i64 z ∧ 0 ≤ z ∧ z ≤ 1048576 ∧ Below w1.heap.size w1 wr) (fun _ i _ => n - (intOf i).toNat)
  case atStart => exact ⟨0, _, Nat.zero_le _, rfl, rfl, by omega, by omega, Below.refl _ _⟩
  case round =>
    obtain ⟨j, z, hj, rfl, rfl, hz0, hz1, hbr⟩ := hrel
    have HB := hid hbr
    by_cases hlt : j < n
    · obtain ⟨b, off, rfl, c0, c1⟩ := (HS.out.below hbr) j hlt
      obtain ⟨m0, m1⟩ := HSM.out j hlt
      obtain ⟨x, hxe⟩ : ∃ x, es j = x := ⟨_, rfl⟩
      rw [hxe] at c0 c1 m0 m1
      clear hxe hbr
      by_cases q1 : 1048576 < z + ((x.1.size : Int) + (x.2.size : Int))
      · go_wp2
        go_quiet (fail)
        go_wp2
        go_ret
        exact ⟨rfl, below_drewN HB.out _⟩
      · go_wp2
        go_quiet (fail)
        go_wp2
        go_roundw
        case rel => exact ⟨j + 1, _, by omega, by go_num, rfl, by omega, by omega, below_drewN HB.out _⟩
        case measure => simp [intOf]; omega
    · clear hbr
      obtain ⟨i1, hi1, hy0, hy1, hy2⟩ := info_parts info31
      go_upto_region 17 with (first
        | (go_at_call 12; refine (toObs_all a n c es _ (by omega) HA.out (HS.out.below HB.out)).mono ?_; rintro e w2 ⟨⟨ea, ec, rfl, hev⟩, hb2⟩; have HEV := hid hev; have HB2 := hid (HB.out.trans (hb2.mono HB.out.size)); clear hev hb2)
        | (at_make; refine wpList_make_own _ rfl _ _ 29 rfl w2.heap.size 31 i1 _ 2 Tryd.underlying29 hi1 hy0 hy1 _ _ _ (n + 1) rfl rfl (by push_cast; rfl) (by rw [hy2]; omega) (by unfold maxLen; omega) (Nat.le_refl _) ?_; intro w3 hown hgrow; have HO3 := hid hown; have HB3 := hid ((Below.refl w2.heap.size w2).grown hgrow (Nat.le_refl _) (by simp)); clear hown hgrow))
      have HS2 := hid (HS.out.below HB2.out)
      clear HB
      go_loopw [20, 21] (fun o i wr => ∃ j : Nat, j ≤ k ∧ i = .int .i64 j ∧ wr.ownsRow w2.heap.size 31 2 o j (rowE es j) ∧ Below w2.heap.size w2 wr) (fun _ i _ => k - (intOf i).toNat)
      case atStart => exact ⟨0, Nat.zero_le _, rfl, HO3.out, HB3.out⟩
      case round =>
        clear HO3 HB3
        obtain ⟨j, hj, rfl, ho, hbr⟩ := hrel
        have HO := hid ho
        have HB := hid hbr
        by_cases hlt : j < k
        · have hjn : j < n := by omega
          obtain ⟨b, off, rfl, c0, c1⟩ := HS2.out j (by omega)
          obtain ⟨x, hxe⟩ : ∃ x, es j = x := ⟨_, rfl⟩
          rw [hxe] at c0 c1
          have HXE := hid hxe
          clear hxe
          have hlb : b < w2.heap.size := block_lt_of_cell (a := ⟨b, off + j * 2, none⟩) c0
          have d0 := (hbr.cell (p := ⟨b, off + j * 2, none⟩) hlb).trans c0
          have d1 := (hbr.cell (p := ⟨b, off + j * 2 + 1, none⟩) hlb).trans c1
          have HS0 := hid (show wr.drew.cell? ⟨b, off + j * 2, none⟩ = some (.string x.1) ∧ wr.drew.cell? ⟨b, off + j * 2 + 1, none⟩ = some (.string x.2) from ⟨d0, d1⟩)
          have hba : Below w2.heap.size w2 (wr.drew.alloc (Obj.cells #[.string x.1, .string x.2] 31)) := hbr.drew.alloc hbr.size _
          have HOA := hid (show (wr.drew.alloc (Obj.cells #[.string x.1, .string x.2] 31)).ownsRow w2.heap.size 31 2 _ _ _ from (owns_below8 ho (Below.refl _ _).drew).alloc _)
          have HBS := hid (show w2.heap.size ≤ (wr.drew.alloc (Obj.cells #[.string x.1, .string x.2] 31)).heap.size from hba.size)
          have HNC := hid (World.news_of_block (w := wr.drew.alloc (Obj.cells #[.string x.1, .string x.2] 31)) (B := wr.heap.size) (cs := #[.string x.1, .string x.2]) (t := 31) (fr := (0, 0)) (heap_alloc_new wr.drew _))
          have HBN := hid (fun w5 (hg : (wr.drew.alloc (Obj.cells #[.string x.1, .string x.2] 31)).grownBy w5 (Value.ownBlock _)) => show Below w2.heap.size w2 w5 from hba.grown hg hba.size (fun i e => (ho.lt i e).1))
          have HKC := hid (fun w5 (hg : (wr.drew.alloc (Obj.cells #[.string x.1, .string x.2] 31)).grownBy w5 (Value.ownBlock _)) => show w5.cell? ⟨b, off + j * 2, none⟩ = some (.string x.1) ∧ w5.cell? ⟨b, off + j * 2 + 1, none⟩ = some (.string x.2) from ⟨((HBN.out w5 hg).cell (p := ⟨b, off + j * 2, none⟩) hlb).trans c0, ((HBN.out w5 hg).cell (p := ⟨b, off + j * 2 + 1, none⟩) hlb).trans c1⟩)
          clear ho hbr c0 c1 d0 d1 hba
          go_wp2
          refine wp_region_held_drew (S := fun W => W.cell? ⟨b, off + j * 2, none⟩ = some (.string x.1) ∧ W.cell? ⟨b, off + j * 2 + 1, none⟩ = some (.string x.2)) (by kernel_rfl) HS0.out (fun hHeld => ?_)
          refine wpAnyH_take (i := 0) (v := ?_) rfl (by kernel_rfl) (by kernel_rfl) (by kernel_rfl) (fun _ _ _ h => h) (Or.inl ⟨by kernel_rfl, ?_⟩) (by assumption) ?_
          rotate_left
          · intro w hSw; go_simp; with_reducible rfl
          try simp (maxSteps := 2000000) only [Act.put, List.getElem_toArray, List.getElem_cons_succ, List.getElem_cons_zero, List.setIfInBounds_toArray, List.set_cons_zero, List.set_cons_succ]
          refine wpAnyH_take (i := 1) (v := ?_) rfl (by kernel_rfl) (by kernel_rfl) (by kernel_rfl) (fun _ _ _ h => h) (Or.inl ⟨by kernel_rfl, ?_⟩) (by assumption) ?_
          rotate_left
          · intro w hSw; go_simp; with_reducible rfl
          try simp (maxSteps := 2000000) only [Act.put, List.getElem_toArray, List.getElem_cons_succ, List.getElem_cons_zero, List.setIfInBounds_toArray, List.set_cons_zero, List.set_cons_succ]
          refine wpAnyH_take (i := 2) (v := ?_) rfl (by kernel_rfl) (by kernel_rfl) (by kernel_rfl) (fun _ _ _ h => h) (Or.inl ⟨by kernel_rfl, ?_⟩) (by assumption) ?_
          rotate_left
          · intro w hSw; go_simp; with_reducible rfl
          try simp (maxSteps := 2000000) only [Act.put, List.getElem_toArray, List.getElem_cons_succ, List.getElem_cons_zero, List.setIfInBounds_toArray, List.set_cons_zero, List.set_cons_succ]
          refine wpAnyH_take (i := 3) (v := ?_) rfl (by kernel_rfl) (by kernel_rfl) (by kernel_rfl) (fun _ _ _ h => h) (Or.inl ⟨by kernel_rfl, ?_⟩) (by assumption) ?_
          rotate_left
          · intro w hSw; go_simp; with_reducible rfl
          try simp (maxSteps := 2000000) only [Act.put, List.getElem_toArray, List.getElem_cons_succ, List.getElem_cons_zero, List.setIfInBounds_toArray, List.set_cons_zero, List.set_cons_succ]
          refine wpAnyH_take (i := 4) (v := ?_) rfl (by kernel_rfl) (by kernel_rfl) (by kernel_rfl) (fun _ _ _ h => h) (Or.inl ⟨by kernel_rfl, ?_⟩) (by assumption) ?_
          rotate_left
          · intro w hSw; go_simp; with_reducible rfl
          try simp (maxSteps := 2000000) only [Act.put, List.getElem_toArray, List.getElem_cons_succ, List.getElem_cons_zero, List.setIfInBounds_toArray, List.set_cons_zero, List.set_cons_succ]
          refine wpAnyH_take (i := 5) (v := ?_) rfl (by kernel_rfl) (by kernel_rfl) (by kernel_rfl) (fun _ _ _ h => h) (Or.inl ⟨by kernel_rfl, ?_⟩) (by assumption) ?_
          rotate_left
          · intro w hSw; have hcl := hSw.1; go_simp; with_reducible rfl
          try simp (maxSteps := 2000000) only [Act.put, List.getElem_toArray, List.getElem_cons_succ, List.getElem_cons_zero, List.setIfInBounds_toArray, List.set_cons_zero, List.set_cons_succ]
          refine wpAnyH_take (i := 6) (v := ?_) rfl (by kernel_rfl) (by kernel_rfl) (by kernel_rfl) (fun _ _ _ h => h) (Or.inl ⟨by kernel_rfl, ?_⟩) (by assumption) ?_
          rotate_left
          · intro w hSw; go_simp; with_reducible rfl
          try simp (maxSteps := 2000000) only [Act.put, List.getElem_toArray, List.getElem_cons_succ, List.getElem_cons_zero, List.setIfInBounds_toArray, List.set_cons_zero, List.set_cons_succ]
          refine wpAnyH_take (i := 7) (v := ?_) rfl (by kernel_rfl) (by kernel_rfl) (by kernel_rfl) (fun _ _ _ h => h) (Or.inl ⟨by kernel_rfl, ?_⟩) (by assumption) ?_
          rotate_left
          · intro w hSw; go_simp; with_reducible rfl
          try simp (maxSteps := 2000000) only [Act.put, List.getElem_toArray, List.getElem_cons_succ, List.getElem_cons_zero, List.setIfInBounds_toArray, List.set_cons_zero, List.set_cons_succ]
          refine wpAnyH_take (i := 8) (v := ?_) rfl (by kernel_rfl) (by kernel_rfl) (by kernel_rfl) (fun _ _ _ h => h) (Or.inl ⟨by kernel_rfl, ?_⟩) (by assumption) ?_
          rotate_left
          · intro w hSw; go_simp; with_reducible rfl
          try simp (maxSteps := 2000000) only [Act.put, List.getElem_toArray, List.getElem_cons_succ, List.getElem_cons_zero, List.setIfInBounds_toArray, List.set_cons_zero, List.set_cons_succ]
          refine wpAnyH_take (i := 9) (v := ?_) rfl (by kernel_rfl) (by kernel_rfl) (by kernel_rfl) (fun _ _ _ h => h) (Or.inl ⟨by kernel_rfl, ?_⟩) (by assumption) ?_
          rotate_left
          · intro w hSw; go_simp; with_reducible rfl
          try simp (maxSteps := 2000000) only [Act.put, List.getElem_toArray, List.getElem_cons_succ, List.getElem_cons_zero, List.setIfInBounds_toArray, List.set_cons_zero, List.set_cons_succ]
          refine wpAnyH_take (i := 10) (v := ?_) rfl (by kernel_rfl) (by kernel_rfl) (by kernel_rfl) (fun _ _ _ h => h) (Or.inl ⟨by kernel_rfl, ?_⟩) (by assumption) ?_
          rotate_left
          · intro w hSw; have hcl := hSw.2; go_simp; with_reducible rfl
          try simp (maxSteps := 2000000) only [Act.put, List.getElem_toArray, List.getElem_cons_succ, List.getElem_cons_zero, List.setIfInBounds_toArray, List.set_cons_zero, List.set_cons_succ]
          refine wpAnyH_take (i := 11) (v := ?_) rfl (by kernel_rfl) (by kernel_rfl) (by kernel_rfl) (fun _ _ _ h => h) (Or.inl ⟨by kernel_rfl, ?_⟩) (by assumption) ?_
          rotate_left
          · intro w hSw; go_simp; with_reducible rfl
          try simp (maxSteps := 2000000) only [Act.put, List.getElem_toArray, List.getElem_cons_succ, List.getElem_cons_zero, List.setIfInBounds_toArray, List.set_cons_zero, List.set_cons_succ]
          refine wpAnyH_ready (rs := [12]) (by kernel_rfl) (by simp) ?_
          refine AllReadyH.cons rfl (fun K hK => ?_) AllReadyH.nil
          go_simp
          refine hK.out _ _ ⟨cell?_alloc_old _ hHeld.1, cell?_alloc_old _ hHeld.2⟩ (fun hHeld => ?_)
          clear hK K
          try simp (maxSteps := 2000000) only [Act.put, List.getElem_toArray, List.getElem_cons_succ, List.getElem_cons_zero, List.setIfInBounds_toArray, List.set_cons_zero, List.set_cons_succ]
          refine wpAnyH_ready (rs := [13]) (by kernel_rfl) (by simp) ?_
          refine AllReadyH.cons rfl (fun K hK => ?_) AllReadyH.nil
          refine step_append_lies _ rfl (.tmp 120) (.tmp 132) 29 rfl w2.heap.size 31 i1 _ 2 32 Tryd.underlying29 hi1 hy0 hy1 hy2 rfl (by decide) _ _ _ rfl HOA.out ⟨wr.heap.size, 0, none⟩ 1 1 [.string x.1, .string x.2] rfl rfl HNC.out (by simp [Value.oneCell']) (by decide) (by unfold maxLen; omega) (by omega) HBS.out _ rfl ?_
          intro g cap w5 hown hgrow _ _
          have HW5 := hid hown
          have HB5 := hid (HBN.out w5 hgrow)
          have hS5 := HKC.out w5 hgrow
          clear hown hgrow
          refine hK.out _ _ hS5 (fun hHeld => ?_)
          clear hK K
          try simp (maxSteps := 2000000) only [Act.put, List.getElem_toArray, List.getElem_cons_succ, List.getElem_cons_zero, List.setIfInBounds_toArray, List.set_cons_zero, List.set_cons_succ]
          refine wpAnyH_take (i := 14) (v := ?_) rfl (by kernel_rfl) (by kernel_rfl) (by kernel_rfl) (fun _ _ _ h => h) (Or.inl ⟨by kernel_rfl, ?_⟩) (by assumption) ?_
          rotate_left
          · intro w hSw; go_simp; with_reducible rfl
          try simp (maxSteps := 2000000) only [Act.put, List.getElem_toArray, List.getElem_cons_succ, List.getElem_cons_zero, List.setIfInBounds_toArray, List.set_cons_zero, List.set_cons_succ]
          refine wpAnyH_done (by kernel_rfl) ?_ _
          go_wp2_with fail
          go_roundw
          case rel => exact ⟨j + 1, by omega, by go_num, by rw [rowE, HXE.out]; exact HW5.out, HB5.out⟩
          case measure => simp [intOf]; omega
        · obtain rfl : k = j := by omega
          clear ho hbr
          go_upto_region 22 with (at_builtin; refine wpList_append_lies _ rfl (.tmp 134) (.tmp 138) 29 rfl w2.heap.size 31 i1 _ 2 32 Tryd.underlying29 hi1 hy0 hy1 hy2 rfl (by decide) _ k (rowE es k) rfl (HO.out.alloc _) ⟨wr.heap.size, 0, none⟩ 1 1 [.string pkg, .string ev] rfl rfl (World.news_of_block (w := wr.alloc (Obj.cells #[.string pkg, .string ev] 31)) (cs := #[.string pkg, .string ev]) (heap_alloc_new _ _)) (by simp [Value.oneCell']) (by decide) (by unfold maxLen; omega) (by omega) (by have := HB.out.size; simp; omega) _ rfl ?_; intro g cap w4 hown hgrow _ _; have HO4 := hid hown; have HB4 := hid ((HB.out.alloc HB.out.size _).grown hgrow (by have := HB.out.size; simp; omega) (fun i e => (HO.out.lt i e).1)); clear hown hgrow)
          go_loopw [20, 22] (fun o i wr => ∃ j : Nat, k ≤ j ∧ j ≤ n ∧ i = .int .i64 j ∧ wr.ownsRow w2.heap.size 31 2 o (j + 1) (rowE (insE es k (pkg, ev)) (j + 1)) ∧ Below w2.heap.size w2 wr) (fun _ i _ => n - (intOf i).toNat)
          case atStart => exact ⟨k, Nat.le_refl _, hk, rfl, by rw [rowE, insE_at, rowE_congr k (es' := es) (fun i hi => insE_lt es _ hi)]; exact HO4.out, HB4.out⟩
          case round =>
            clear HO HB HO4 HB4
            obtain ⟨j, hkj, hj, rfl, ho, hbr⟩ := hrel
            have HO := hid ho
            have HB := hid hbr
            by_cases hlt : j < n
            · obtain ⟨b, off, rfl, c0, c1⟩ := HS2.out j (by omega)
              obtain ⟨x, hxe⟩ : ∃ x, es j = x := ⟨_, rfl⟩
              rw [hxe] at c0 c1
              have HXE := hid hxe
              clear hxe
              have hlb : b < w2.heap.size := block_lt_of_cell (a := ⟨b, off + j * 2, none⟩) c0
              have d0 := (hbr.cell (p := ⟨b, off + j * 2, none⟩) hlb).trans c0
              have d1 := (hbr.cell (p := ⟨b, off + j * 2 + 1, none⟩) hlb).trans c1
              have HS0 := hid (show wr.drew.cell? ⟨b, off + j * 2, none⟩ = some (.string x.1) ∧ wr.drew.cell? ⟨b, off + j * 2 + 1, none⟩ = some (.string x.2) from ⟨d0, d1⟩)
              have hba : Below w2.heap.size w2 (wr.drew.alloc (Obj.cells #[.string x.1, .string x.2] 31)) := hbr.drew.alloc hbr.size _
              have HOA := hid (show (wr.drew.alloc (Obj.cells #[.string x.1, .string x.2] 31)).ownsRow w2.heap.size 31 2 _ _ _ from (owns_below8 ho (Below.refl _ _).drew).alloc _)
              have HBS := hid (show w2.heap.size ≤ (wr.drew.alloc (Obj.cells #[.string x.1, .string x.2] 31)).heap.size from hba.size)
              have HNC := hid (World.news_of_block (w := wr.drew.alloc (Obj.cells #[.string x.1, .string x.2] 31)) (B := wr.heap.size) (cs := #[.string x.1, .string x.2]) (t := 31) (fr := (0, 0)) (heap_alloc_new wr.drew _))
              have HBN := hid (fun w5 (hg : (wr.drew.alloc (Obj.cells #[.string x.1, .string x.2] 31)).grownBy w5 (Value.ownBlock _)) => show Below w2.heap.size w2 w5 from hba.grown hg hba.size (fun i e => (ho.lt i e).1))
              have HKC := hid (fun w5 (hg : (wr.drew.alloc (Obj.cells #[.string x.1, .string x.2] 31)).grownBy w5 (Value.ownBlock _)) => show w5.cell? ⟨b, off + j * 2, none⟩ = some (.string x.1) ∧ w5.cell? ⟨b, off + j * 2 + 1, none⟩ = some (.string x.2) from ⟨((HBN.out w5 hg).cell (p := ⟨b, off + j * 2, none⟩) hlb).trans c0, ((HBN.out w5 hg).cell (p := ⟨b, off + j * 2 + 1, none⟩) hlb).trans c1⟩)
              clear ho hbr c0 c1 d0 d1 hba
              go_wp2
              refine wp_region_held_drew (S := fun W => W.cell? ⟨b, off + j * 2, none⟩ = some (.string x.1) ∧ W.cell? ⟨b, off + j * 2 + 1, none⟩ = some (.string x.2)) (by kernel_rfl) HS0.out (fun hHeld => ?_)
              refine wpAnyH_take (i := 0) (v := ?_) rfl (by kernel_rfl) (by kernel_rfl) (by kernel_rfl) (fun _ _ _ h => h) (Or.inl ⟨by kernel_rfl, ?_⟩) (by assumption) ?_
              rotate_left
              · intro w hSw; go_simp; with_reducible rfl
              try simp (maxSteps := 2000000) only [Act.put, List.getElem_toArray, List.getElem_cons_succ, List.getElem_cons_zero, List.setIfInBounds_toArray, List.set_cons_zero, List.set_cons_succ]
              refine wpAnyH_take (i := 1) (v := ?_) rfl (by kernel_rfl) (by kernel_rfl) (by kernel_rfl) (fun _ _ _ h => h) (Or.inl ⟨by kernel_rfl, ?_⟩) (by assumption) ?_
              rotate_left
              · intro w hSw; go_simp; with_reducible rfl
              try simp (maxSteps := 2000000) only [Act.put, List.getElem_toArray, List.getElem_cons_succ, List.getElem_cons_zero, List.setIfInBounds_toArray, List.set_cons_zero, List.set_cons_succ]
              refine wpAnyH_take (i := 2) (v := ?_) rfl (by kernel_rfl) (by kernel_rfl) (by kernel_rfl) (fun _ _ _ h => h) (Or.inl ⟨by kernel_rfl, ?_⟩) (by assumption) ?_
              rotate_left
              · intro w hSw; go_simp; with_reducible rfl
              try simp (maxSteps := 2000000) only [Act.put, List.getElem_toArray, List.getElem_cons_succ, List.getElem_cons_zero, List.setIfInBounds_toArray, List.set_cons_zero, List.set_cons_succ]
              refine wpAnyH_take (i := 3) (v := ?_) rfl (by kernel_rfl) (by kernel_rfl) (by kernel_rfl) (fun _ _ _ h => h) (Or.inl ⟨by kernel_rfl, ?_⟩) (by assumption) ?_
              rotate_left
              · intro w hSw; go_simp; with_reducible rfl
              try simp (maxSteps := 2000000) only [Act.put, List.getElem_toArray, List.getElem_cons_succ, List.getElem_cons_zero, List.setIfInBounds_toArray, List.set_cons_zero, List.set_cons_succ]
              refine wpAnyH_take (i := 4) (v := ?_) rfl (by kernel_rfl) (by kernel_rfl) (by kernel_rfl) (fun _ _ _ h => h) (Or.inl ⟨by kernel_rfl, ?_⟩) (by assumption) ?_
              rotate_left
              · intro w hSw; go_simp; with_reducible rfl
              try simp (maxSteps := 2000000) only [Act.put, List.getElem_toArray, List.getElem_cons_succ, List.getElem_cons_zero, List.setIfInBounds_toArray, List.set_cons_zero, List.set_cons_succ]
              refine wpAnyH_take (i := 5) (v := ?_) rfl (by kernel_rfl) (by kernel_rfl) (by kernel_rfl) (fun _ _ _ h => h) (Or.inl ⟨by kernel_rfl, ?_⟩) (by assumption) ?_
              rotate_left
              · intro w hSw; have hcl := hSw.1; go_simp; with_reducible rfl
              try simp (maxSteps := 2000000) only [Act.put, List.getElem_toArray, List.getElem_cons_succ, List.getElem_cons_zero, List.setIfInBounds_toArray, List.set_cons_zero, List.set_cons_succ]
              refine wpAnyH_take (i := 6) (v := ?_) rfl (by kernel_rfl) (by kernel_rfl) (by kernel_rfl) (fun _ _ _ h => h) (Or.inl ⟨by kernel_rfl, ?_⟩) (by assumption) ?_
              rotate_left
              · intro w hSw; go_simp; with_reducible rfl
              try simp (maxSteps := 2000000) only [Act.put, List.getElem_toArray, List.getElem_cons_succ, List.getElem_cons_zero, List.setIfInBounds_toArray, List.set_cons_zero, List.set_cons_succ]
              refine wpAnyH_take (i := 7) (v := ?_) rfl (by kernel_rfl) (by kernel_rfl) (by kernel_rfl) (fun _ _ _ h => h) (Or.inl ⟨by kernel_rfl, ?_⟩) (by assumption) ?_
              rotate_left
              · intro w hSw; go_simp; with_reducible rfl
              try simp (maxSteps := 2000000) only [Act.put, List.getElem_toArray, List.getElem_cons_succ, List.getElem_cons_zero, List.setIfInBounds_toArray, List.set_cons_zero, List.set_cons_succ]
              refine wpAnyH_take (i := 8) (v := ?_) rfl (by kernel_rfl) (by kernel_rfl) (by kernel_rfl) (fun _ _ _ h => h) (Or.inl ⟨by kernel_rfl, ?_⟩) (by assumption) ?_
              rotate_left
              · intro w hSw; go_simp; with_reducible rfl
              try simp (maxSteps := 2000000) only [Act.put, List.getElem_toArray, List.getElem_cons_succ, List.getElem_cons_zero, List.setIfInBounds_toArray, List.set_cons_zero, List.set_cons_succ]
              refine wpAnyH_take (i := 9) (v := ?_) rfl (by kernel_rfl) (by kernel_rfl) (by kernel_rfl) (fun _ _ _ h => h) (Or.inl ⟨by kernel_rfl, ?_⟩) (by assumption) ?_
              rotate_left
              · intro w hSw; go_simp; with_reducible rfl
              try simp (maxSteps := 2000000) only [Act.put, List.getElem_toArray, List.getElem_cons_succ, List.getElem_cons_zero, List.setIfInBounds_toArray, List.set_cons_zero, List.set_cons_succ]
              refine wpAnyH_take (i := 10) (v := ?_) rfl (by kernel_rfl) (by kernel_rfl) (by kernel_rfl) (fun _ _ _ h => h) (Or.inl ⟨by kernel_rfl, ?_⟩) (by assumption) ?_
              rotate_left
              · intro w hSw; have hcl := hSw.2; go_simp; with_reducible rfl
              try simp (maxSteps := 2000000) only [Act.put, List.getElem_toArray, List.getElem_cons_succ, List.getElem_cons_zero, List.setIfInBounds_toArray, List.set_cons_zero, List.set_cons_succ]
              refine wpAnyH_take (i := 11) (v := ?_) rfl (by kernel_rfl) (by kernel_rfl) (by kernel_rfl) (fun _ _ _ h => h) (Or.inl ⟨by kernel_rfl, ?_⟩) (by assumption) ?_
              rotate_left
              · intro w hSw; go_simp; with_reducible rfl
              try simp (maxSteps := 2000000) only [Act.put, List.getElem_toArray, List.getElem_cons_succ, List.getElem_cons_zero, List.setIfInBounds_toArray, List.set_cons_zero, List.set_cons_succ]
              refine wpAnyH_ready (rs := [12]) (by kernel_rfl) (by simp) ?_
              refine AllReadyH.cons rfl (fun K hK => ?_) AllReadyH.nil
              go_simp
              refine hK.out _ _ ⟨cell?_alloc_old _ hHeld.1, cell?_alloc_old _ hHeld.2⟩ (fun hHeld => ?_)
              clear hK K
              try simp (maxSteps := 2000000) only [Act.put, List.getElem_toArray, List.getElem_cons_succ, List.getElem_cons_zero, List.setIfInBounds_toArray, List.set_cons_zero, List.set_cons_succ]
              refine wpAnyH_ready (rs := [13]) (by kernel_rfl) (by simp) ?_
              refine AllReadyH.cons rfl (fun K hK => ?_) AllReadyH.nil
              refine step_append_lies _ rfl (.tmp 147) (.tmp 159) 29 rfl w2.heap.size 31 i1 _ 2 32 Tryd.underlying29 hi1 hy0 hy1 hy2 rfl (by decide) _ _ _ rfl HOA.out ⟨wr.heap.size, 0, none⟩ 1 1 [.string x.1, .string x.2] rfl rfl HNC.out (by simp [Value.oneCell']) (by decide) (by unfold maxLen; omega) (by omega) HBS.out _ rfl ?_
              intro g cap w5 hown hgrow _ _
              have HW5 := hid hown
              have HB5 := hid (HBN.out w5 hgrow)
              have hS5 := HKC.out w5 hgrow
              clear hown hgrow
              refine hK.out _ _ hS5 (fun hHeld => ?_)
              clear hK K
              try simp (maxSteps := 2000000) only [Act.put, List.getElem_toArray, List.getElem_cons_succ, List.getElem_cons_zero, List.setIfInBounds_toArray, List.set_cons_zero, List.set_cons_succ]
              refine wpAnyH_take (i := 14) (v := ?_) rfl (by kernel_rfl) (by kernel_rfl) (by kernel_rfl) (fun _ _ _ h => h) (Or.inl ⟨by kernel_rfl, ?_⟩) (by assumption) ?_
              rotate_left
              · intro w hSw; go_simp; with_reducible rfl
              try simp (maxSteps := 2000000) only [Act.put, List.getElem_toArray, List.getElem_cons_succ, List.getElem_cons_zero, List.setIfInBounds_toArray, List.set_cons_zero, List.set_cons_succ]
              refine wpAnyH_done (by kernel_rfl) ?_ _
              go_wp2_with fail
              go_roundw
              case rel => exact ⟨j + 1, by omega, by omega, by go_num, by rw [rowE, insE_gt es _ hkj, HXE.out]; exact HW5.out, HB5.out⟩
              case measure => simp [intOf]; omega
            · obtain rfl : n = j := by omega
              clear ho hbr
              obtain ⟨ea2, ec2, rfl, hev2⟩ := evs_row HO.out
              have HEV2 := hid hev2
              have HEVr := hid (HEV.out.below HB.out)
              have HTr := hid ((HTB.out.below HB2.out).below HB.out)
              have HBW := hid (HB2.out.trans (HB.out.mono HB2.out.size))
              clear hev2 HO HEV HTB HB HB2 HS2 HS HA
              go_upto_region 27 with fail
              have HSZ1 := hid (small_sz HSM.out)
              have HSZ2 := hid (small_ins HSM.out (k := k) (pkg := pkg) (ev := ev) hk (by omega) (by omega))
              clear HSM
              obtain ⟨W4, hW4⟩ : ∃ W4, ((((wr.alloc (Obj.cells #[.int .u32 rid, .slice ea n ec] 35)).alloc (Obj.cells #[.string verb, .bool opt, .string term, .pointer none, .pointer none, .pointer none, .pointer none, .pointer (some ⟨wr.heap.size, 0, none⟩), .pointer none] 42)).alloc (Obj.cells #[.int .u32 rid, .slice ea2 (n + 1) ec2] 35)).alloc (Obj.cells #[.string verb, .bool (!opt), .string term, .pointer none, .pointer none, .pointer none, .pointer none, .pointer (some ⟨wr.heap.size + 1 + 1, 0, none⟩), .pointer none] 42)) = W4 := ⟨_, rfl⟩
              obtain ⟨wb, hwb⟩ : ∃ wb, wr.heap.size = wb := ⟨_, rfl⟩
              have hC := four_new wr #[.int .u32 rid, .slice ea n ec] (cmdV verb opt term wr.heap.size) #[.int .u32 rid, .slice ea2 (n + 1) ec2] (cmdV verb (!opt) term (wr.heap.size + 2))
              obtain ⟨hb4, hsz4, hr0, hr1, hr2, hr3⟩ := hC
              have hW4' : (((wr.alloc (.cells #[.int .u32 rid, .slice ea n ec] 35)).alloc (.cells (cmdV verb opt term wr.heap.size) 42)).alloc (.cells #[.int .u32 rid, .slice ea2 (n + 1) ec2] 35)).alloc (.cells (cmdV verb (!opt) term (wr.heap.size + 2)) 42) = W4 := hW4
              rw [hW4'] at hb4 hsz4 hr0 hr1 hr2 hr3
              have HE1 := hid (HEVr.out.below hb4)
              have HE2 := hid (HEV2.out.below hb4)
              have HT4 := hid (HTr.out.below hb4)
              have HBW4 := hid (HBW.out.trans (hb4.mono HBW.out.size))
              have HR1 := hid hr1
              have HR3 := hid hr3
              have HR0 := hid hr0
              have HR2 := hid hr2
              rw [hW4]
              clear HEVr HEV2 HTr HBW hb4 hW4 hW4' hr0 hr1 hr2 hr3 hwb
              have HC1 := hid (zzcmd_any verb term opt wr.heap.size rid hrid ea n ec es W4 HT4.out (by omega) HSZ1.out HR0.out HE1.out)
              go_upto_region 29 with (first
                | (go_at_call 13; refine (flat_tree HTR2.out (by omega)).mono ?_; rintro e x4 ⟨f2, rfl, ho2, -, hg2⟩; rw [flatL_eq] at ho2; obtain ⟨g2, c2, rfl⟩ := fl_form ho2 (by omega); have HF2 := hid ho2; have hb4' := below_of_grown hg2; have HF1 := hid (owns_below8 HF1b.out hb4'); have HBX := hid (HBX3.out.trans (hb4'.mono HBX3.out.size)); clear ho2 hg2 hb4' HTR2 HF1b HBX3)
                | (go_at_call 14; refine HC2.out.mono ?_; rintro e x3 ⟨⟨v2, rb2, ob2, q2, rc2, OV2, el2, rfl, htr2⟩, hb3⟩; have HTR2 := hid htr2; have HF1b := hid (owns_below8 HF1a.out hb3); have HBX3 := hid (HBX2.out.trans (hb3.mono HBX2.out.size)); clear htr2 hb3 HC2 HF1a HBX2)
                | (go_at_call 13; refine (flat_tree HTR1.out (by omega)).mono ?_; rintro e x2 ⟨f1, rfl, ho1, -, hg1⟩; rw [flatL_eq] at ho1; obtain ⟨g1, c1, rfl⟩ := fl_form ho1 (by omega); have HF1a := hid ho1; have hb2' := below_of_grown hg1; have HX2 := hid (HX1.out.trans (hb2'.mono HX1.out.size)); have HBX2 := hid (HBW4.out.trans (HX2.out.mono HBW4.out.size)); have HR3x := hid ((HX2.out.block _ (heap_lt HR3.out)).trans HR3.out); have HC2 := hid (zzcmd_any verb term (!opt) (wr.heap.size + 2) rid hrid ea2 (n + 1) ec2 (insE es k (pkg, ev)) x2 (HT4.out.below HX2.out) (by omega) HSZ2.out ((HX2.out.block _ (heap_lt HR2.out)).trans HR2.out) (HE2.out.below HX2.out)); clear ho1 hg1 hb2' HTR1 HX1)
                | (go_at_call 14; refine HC1.out.mono ?_; rintro e x1 ⟨⟨v1, rb1, ob1, q1, rc1, OV1, el1, rfl, htr1⟩, hb1⟩; have HTR1 := hid htr1; have HX1 := hid hb1; clear htr1 hb1 HC1)
                | (refine wpList_load_on (by kernel_rfl) 42 (.tmp 24) rfl (wr.heap.size + 3) 0 rfl (cmdV verb (!opt) term (wr.heap.size + 2)).toList _ (range_row8 (o := 0) (n := 9) HR3x.out rfl) Tryd.underlying42 rfl sz42 ?_)
                | (refine wpList_load_on (by kernel_rfl) 42 (.tmp 23) rfl (wr.heap.size + 1) 0 rfl (cmdV verb opt term wr.heap.size).toList _ (range_row8 (o := 0) (n := 9) HR1.out rfl) Tryd.underlying42 rfl sz42 ?_))
              rename_i K1 hK1 K0 hK0
              have HKK := hid hK1
              clear hK1
              go_wp2_with fail
              try simp only [Exit.then]
              refine HKK.out _ _ ?_
              exact tail31 rfl verb term pkg ev rid n k a c es g1 c1 g2 c2 _ _ w1 x4 hrid hn hk h4 h5 HF1.out HF2.out HBX.out _ _ _ _ _ _ _ _ _ _ _ _ _ _ _ _ _ _ _ _ _ _ _ _ _ _ _ _ _ _ _ _ _ _ _ _ _ _ _ _ _ _ _ _ _ _ _ _ _ _ _ _ _ _ _ _ _ _ _ _ _ _ _ _ _ _ _ _ _ _ _ _ _ _ _ _ _ _ _ _ _ _ _ _ _ _ _ _ _ _ _ _ _ _ _ _ _ _ _ _ _ _ _ _ _ _ _ _ _ _ _ _ _ _ _ _ _ _ _ _ _ _ _ _ _ _ _ _ _ _ _ _ _ _ _ _ _ _ _ _ _ _ _ _ _ _ _ _ _ _ _ _ _ _ _ _ _ _ _ _ _ _ _ _ _ _ _ _ _ _ _ _ _ _ _ _ _ _ _ _ _ _ _ _ _ _ _ _ _ _ _ _ _ _ _ _ _ _ _ _ _ _ _ _ _ _ _ _ _ _ _ _ _ _ _ _ _ _ _ _ _ _ _ _ _ _ _ _ _ _ _ _ _ _ _ _ _ _ _ _ _ _ _ _ _ _ _ _ _ _ _ _ _ _ _ _ _ _
end Go.Proofs.Qxb6615981aDoor
