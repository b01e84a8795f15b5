import Derived.Test.Qxb6615875aDoorN6
import Derived.Test.Qxb6615875aDoorM3
import Derived.OwnWalk
namespace Go.Proofs.Qxb6615875aDoor
open Go.RowKit
set_option linter.unusedSimpArgs false
set_option linter.unusedVariables false
attribute [local go_sem ↓] Go.wp_at_zero Go.wp_at_succ

theorem range_below4 {W W' : World} {q o B : Nat} {cs : List Value} (h : W.rangeAt q o cs) (hq : q < B) (hb : Below B W W') : W'.rangeAt q o cs := fun j v hv => (hb.cell (p := ⟨q, o + j, none⟩) hq).trans (h j v hv)

/-- What memory says of the law's list. -/
def Lst (W : World) (a : Option Addr) (n : Nat) (ps : Nat → LP) : Prop := ∀ i, i < n → ∃ g off, a = some ⟨g, off, none⟩ ∧ W.rangeAt g (off + i * 18) (ps i).v.toList
theorem lp_lt {W : World} {g o : Nat} {x : LP} (h : W.rangeAt g o x.v.toList) : g < W.heap.size := block_lt_of_cell (a := ⟨g, o + 0, none⟩) (h 0 (.bool x.is4) rfl)
theorem Lst.below {W W' : World} {a : Option Addr} {n : Nat} {ps : Nat → LP} (h : Lst W a n ps) (hb : Below W.heap.size W W') : Lst W' a n ps := fun i hi => by
  obtain ⟨g, off, e, hr⟩ := h i hi
  exact ⟨g, off, e, range_below4 hr (lp_lt hr) hb⟩

def anyH (n : Nat) (ps : Nat → LP) (is4 : Bool) (a : Nat → UInt8) : Bool := (List.range n).any fun i => (ps i).holds is4 a
theorem anyH_yes {n k : Nat} {ps : Nat → LP} {is4 : Bool} {a : Nat → UInt8} (hk : k < n) (h : (ps k).holds is4 a = true) : anyH n ps is4 a = true := List.any_eq_true.2 ⟨k, List.mem_range.2 hk, h⟩
theorem anyH_no {n : Nat} {ps : Nat → LP} {is4 : Bool} {a : Nat → UInt8} (h : ∀ j, j < n → (ps j).holds is4 a = false) : anyH n ps is4 a = false := List.any_eq_false.2 fun j hj => by rw [h j (List.mem_range.1 hj)]; simp

set_option maxRecDepth 100000 in
set_option maxHeartbeats 2000000 in
theorem zzany_any (ad : Option Addr) (n c : Nat) (ps : Nat → LP) (is4 : Bool) (a : Nat → UInt8) (w : World) (hm : n ≤ 4096) (hl : Lst w ad n ps) :
    Calls Tryd.prog 14 #[.slice ad n c, .bool is4, .agg (cells16 a)] w fun e w' => e = .returned (.bool (anyH n ps is4 a)) ∧ Below w.heap.size w w' := by
  have HL0 := hid (hl.below ((Below.refl _ _).alloc (Nat.le_refl _) (.cells (cells16 a) 22)))
  clear hl
  go_enter Tryd.func14, Tryd.ntmps14
  go_upto_region 2 with fail
  obtain ⟨W0, hW0⟩ : ∃ W0, w.alloc (.cells (cells16 a) 22) = W0 := ⟨_, rfl⟩
  obtain ⟨pb, hpb⟩ : ∃ pb, w.heap.size = pb := ⟨_, rfl⟩
  rw [hW0, hpb]
  rw [hW0] at HL0
  have HA := hid (show W0.heap[pb]? = some (.cells (cells16 a) 22 (0, 0)) by rw [← hW0, ← hpb]; exact heap_alloc_new _ _)
  have HB := hid (show Below w.heap.size w W0 by rw [← hW0]; exact (Below.refl _ _).alloc (Nat.le_refl _) _)
  have HLT := hid (heap_lt HA.out)
  clear hW0
  go_loopw [7] (fun i wr => ∃ k : Nat, k ≤ n ∧ i = .int .i64 k ∧ (∀ j, j < k → (ps j).holds is4 a = false) ∧ Below W0.heap.size W0 wr) (fun i _ => n - (intOf i).toNat)
  case atStart => exact ⟨0, Nat.zero_le _, rfl, fun j hj => absurd hj (by omega), Below.refl _ _⟩
  case round =>
    obtain ⟨k, hk, rfl, hag, hbr⟩ := hrel
    have HG := hid hag
    have HR := hid hbr
    clear hag hbr
    by_cases hlt : k < n
    · obtain ⟨g, off, rfl, hx⟩ := HL0.out k hlt
      have HX0 := hid hx
      have HLX := hid (lp_lt hx)
      clear hx
      obtain ⟨x, hxe⟩ : ∃ x, ps k = x := ⟨_, rfl⟩
      have HX := hid (show W0.rangeAt g (off + k * 18) x.v.toList by rw [← hxe]; exact HX0.out)
      rcases Bool.eq_false_or_eq_true (x.holds is4 a) with hh | hh
      · have HY := hid (anyH_yes (ps := ps) hlt (by rw [hxe]; exact hh))
        clear hxe HX0
        go_wp2
        refine wp_region_held_drew (S := fun W => Below W0.heap.size W0 W) (by kernel_rfl) (HR.out.drew) (fun hHeld => ?_)
        refine wpAnyH_take (i := 0) (v := ?_) rfl (by kernel_rfl) (by kernel_rfl) (by kernel_rfl) (fun _ _ _ h => h) (Or.inl ⟨by kernel_rfl, ?_⟩) (by assumption) ?_
        rotate_left
        · intro w hSw; go_simp; with_reducible rfl
        try simp (maxSteps := 2000000) only [Act.put, List.getElem_toArray, List.getElem_cons_succ, List.getElem_cons_zero, List.setIfInBounds_toArray, List.set_cons_zero, List.set_cons_succ]
        refine wpAnyH_take (i := 1) (v := ?_) rfl (by kernel_rfl) (by kernel_rfl) (by kernel_rfl) (fun _ _ _ h => h) (Or.inl ⟨by kernel_rfl, ?_⟩) (by assumption) ?_
        rotate_left
        · intro w hSw; go_simp; with_reducible rfl
        try simp (maxSteps := 2000000) only [Act.put, List.getElem_toArray, List.getElem_cons_succ, List.getElem_cons_zero, List.setIfInBounds_toArray, List.set_cons_zero, List.set_cons_succ]
        refine wpAnyH_take (i := 2) (v := ?_) rfl (by kernel_rfl) (by kernel_rfl) (by kernel_rfl) (fun _ _ _ h => h) (Or.inl ⟨by kernel_rfl, ?_⟩) (by assumption) ?_
        rotate_left
        · intro w hSw; go_simp; with_reducible rfl
        try simp (maxSteps := 2000000) only [Act.put, List.getElem_toArray, List.getElem_cons_succ, List.getElem_cons_zero, List.setIfInBounds_toArray, List.set_cons_zero, List.set_cons_succ]
        refine wpAnyH_take (i := 3) (v := _) rfl (by kernel_rfl) (by kernel_rfl) (by kernel_rfl) (fun _ _ _ h => h) (yieldsIf_load_mid (by kernel_rfl) _ _ rfl _ _ rfl x.v.toList _ (fun W hSw => (range_below4 HX.out HLX.out hSw)) Tryd.underlying55 rfl sz55) (by assumption) ?_
        try simp (maxSteps := 2000000) only [Act.put, List.getElem_toArray, List.getElem_cons_succ, List.getElem_cons_zero, List.setIfInBounds_toArray, List.set_cons_zero, List.set_cons_succ]
        refine wpAnyH_take (i := 4) (v := ?_) rfl (by kernel_rfl) (by kernel_rfl) (by kernel_rfl) (fun _ _ _ h => h) (Or.inl ⟨by kernel_rfl, ?_⟩) (by assumption) ?_
        rotate_left
        · intro w hSw; go_simp; with_reducible rfl
        try simp (maxSteps := 2000000) only [Act.put, List.getElem_toArray, List.getElem_cons_succ, List.getElem_cons_zero, List.setIfInBounds_toArray, List.set_cons_zero, List.set_cons_succ]
        refine wpAnyH_take (i := 5) (v := _) rfl (by kernel_rfl) (by kernel_rfl) (by kernel_rfl) (fun _ _ _ h => h) (yieldsIf_load_mid (by kernel_rfl) _ _ rfl _ _ rfl (cells16 a).toList _ (fun W hSw => range_row' (o := 0) (n := 16) ((hSw.block pb HLT.out).trans HA.out) rfl) Tryd.underlying22 rfl sz22) (by assumption) ?_
        try simp (maxSteps := 2000000) only [Act.put, List.getElem_toArray, List.getElem_cons_succ, List.getElem_cons_zero, List.setIfInBounds_toArray, List.set_cons_zero, List.set_cons_succ]
        refine wpAnyH_ready (rs := [6]) (by kernel_rfl) (by simp) ?_
        refine AllReadyH.cons rfl (fun K hK => ?_) AllReadyH.nil
        go_simp
        refine (zzc_any x is4 a _).mono ?_
        rintro e w3 ⟨rfl, hbc⟩
        rw [hh]
        go_wp2_with fail
        refine hK.out _ _ (hHeld.trans (hbc.mono hHeld.size)) (fun hHeld => ?_)
        clear hK K hbc
        try simp (maxSteps := 2000000) only [Act.put, List.getElem_toArray, List.getElem_cons_succ, List.getElem_cons_zero, List.setIfInBounds_toArray, List.set_cons_zero, List.set_cons_succ]
        refine wpAnyH_done (by kernel_rfl) ?_ _
        go_wp2_with fail
        go_ret
        exact ⟨by rw [HY.out]; rfl, HB.out.trans (hHeld.mono HB.out.size)⟩
      · have HN := hid (show (ps k).holds is4 a = false by rw [hxe]; exact hh)
        clear hxe HX0
        go_wp2
        refine wp_region_held_drew (S := fun W => Below W0.heap.size W0 W) (by kernel_rfl) (HR.out.drew) (fun hHeld => ?_)
        refine wpAnyH_take (i := 0) (v := ?_) rfl (by kernel_rfl) (by kernel_rfl) (by kernel_rfl) (fun _ _ _ h => h) (Or.inl ⟨by kernel_rfl, ?_⟩) (by assumption) ?_
        rotate_left
        · intro w hSw; go_simp; with_reducible rfl
        try simp (maxSteps := 2000000) only [Act.put, List.getElem_toArray, List.getElem_cons_succ, List.getElem_cons_zero, List.setIfInBounds_toArray, List.set_cons_zero, List.set_cons_succ]
        refine wpAnyH_take (i := 1) (v := ?_) rfl (by kernel_rfl) (by kernel_rfl) (by kernel_rfl) (fun _ _ _ h => h) (Or.inl ⟨by kernel_rfl, ?_⟩) (by assumption) ?_
        rotate_left
        · intro w hSw; go_simp; with_reducible rfl
        try simp (maxSteps := 2000000) only [Act.put, List.getElem_toArray, List.getElem_cons_succ, List.getElem_cons_zero, List.setIfInBounds_toArray, List.set_cons_zero, List.set_cons_succ]
        refine wpAnyH_take (i := 2) (v := ?_) rfl (by kernel_rfl) (by kernel_rfl) (by kernel_rfl) (fun _ _ _ h => h) (Or.inl ⟨by kernel_rfl, ?_⟩) (by assumption) ?_
        rotate_left
        · intro w hSw; go_simp; with_reducible rfl
        try simp (maxSteps := 2000000) only [Act.put, List.getElem_toArray, List.getElem_cons_succ, List.getElem_cons_zero, List.setIfInBounds_toArray, List.set_cons_zero, List.set_cons_succ]
        refine wpAnyH_take (i := 3) (v := _) rfl (by kernel_rfl) (by kernel_rfl) (by kernel_rfl) (fun _ _ _ h => h) (yieldsIf_load_mid (by kernel_rfl) _ _ rfl _ _ rfl x.v.toList _ (fun W hSw => (range_below4 HX.out HLX.out hSw)) Tryd.underlying55 rfl sz55) (by assumption) ?_
        try simp (maxSteps := 2000000) only [Act.put, List.getElem_toArray, List.getElem_cons_succ, List.getElem_cons_zero, List.setIfInBounds_toArray, List.set_cons_zero, List.set_cons_succ]
        refine wpAnyH_take (i := 4) (v := ?_) rfl (by kernel_rfl) (by kernel_rfl) (by kernel_rfl) (fun _ _ _ h => h) (Or.inl ⟨by kernel_rfl, ?_⟩) (by assumption) ?_
        rotate_left
        · intro w hSw; go_simp; with_reducible rfl
        try simp (maxSteps := 2000000) only [Act.put, List.getElem_toArray, List.getElem_cons_succ, List.getElem_cons_zero, List.setIfInBounds_toArray, List.set_cons_zero, List.set_cons_succ]
        refine wpAnyH_take (i := 5) (v := _) rfl (by kernel_rfl) (by kernel_rfl) (by kernel_rfl) (fun _ _ _ h => h) (yieldsIf_load_mid (by kernel_rfl) _ _ rfl _ _ rfl (cells16 a).toList _ (fun W hSw => range_row' (o := 0) (n := 16) ((hSw.block pb HLT.out).trans HA.out) rfl) Tryd.underlying22 rfl sz22) (by assumption) ?_
        try simp (maxSteps := 2000000) only [Act.put, List.getElem_toArray, List.getElem_cons_succ, List.getElem_cons_zero, List.setIfInBounds_toArray, List.set_cons_zero, List.set_cons_succ]
        refine wpAnyH_ready (rs := [6]) (by kernel_rfl) (by simp) ?_
        refine AllReadyH.cons rfl (fun K hK => ?_) AllReadyH.nil
        go_simp
        refine (zzc_any x is4 a _).mono ?_
        rintro e w3 ⟨rfl, hbc⟩
        rw [hh]
        go_wp2_with fail
        refine hK.out _ _ (hHeld.trans (hbc.mono hHeld.size)) (fun hHeld => ?_)
        clear hK K hbc
        try simp (maxSteps := 2000000) only [Act.put, List.getElem_toArray, List.getElem_cons_succ, List.getElem_cons_zero, List.setIfInBounds_toArray, List.set_cons_zero, List.set_cons_succ]
        refine wpAnyH_done (by kernel_rfl) ?_ _
        go_wp2_with fail
        go_roundw
        case rel => exact ⟨k + 1, by omega, by go_num, fun j hj => if h : j = k then by rw [h]; exact HN.out else HG.out j (by omega), hHeld⟩
        case measure => simp [intOf]; omega
    · have HY := hid (anyH_no (n := n) (ps := ps) (is4 := is4) (a := a) (fun j hj => HG.out j (by omega)))
      go_wp2
      go_ret
      exact ⟨by rw [HY.out]; rfl, HB.out.trans (HR.out.mono HB.out.size)⟩

/-- Four cells, as built. -/
def pfv (p4 p6 : Addr) (x : LP) : Array Value := #[.int .u64 (ahi x.is4 x.b), .int .u64 (alo x.is4 x.b), .pointer (some (zp p4 p6 x.is4)), .int .u8 (bpo x.is4 x.n)]
/-- The first k built prefixes lie in the row. -/
def PUp (p4 p6 : Addr) (xs : List Value) (k : Nat) (ps : Nat → LP) : Prop := ∀ i, i < k → xs[i * 4]? = some (.int .u64 (ahi (ps i).is4 (ps i).b)) ∧ xs[i * 4 + 1]? = some (.int .u64 (alo (ps i).is4 (ps i).b)) ∧ xs[i * 4 + 2]? = some (.pointer (some (zp p4 p6 (ps i).is4))) ∧ xs[i * 4 + 3]? = some (.int .u8 (bpo (ps i).is4 (ps i).n))
theorem PUp.next {p4 p6 : Addr} {xs : List Value} {k : Nat} {ps : Nat → LP} (h : PUp p4 p6 xs k ps) (hl : xs.length = k * 4) : PUp p4 p6 (xs ++ (pfv p4 p6 (ps k)).toList) (k + 1) ps := fun i hi => by
  by_cases e : i = k
  · subst e
    refine ⟨?_, ?_, ?_, ?_⟩
    all_goals rw [List.getElem?_append_right (by omega)]
    · rw [show i * 4 - xs.length = 0 by omega]; rfl
    · rw [show i * 4 + 1 - xs.length = 1 by omega]; rfl
    · rw [show i * 4 + 2 - xs.length = 2 by omega]; rfl
    · rw [show i * 4 + 3 - xs.length = 3 by omega]; rfl
  · obtain ⟨h0, h1, h2, h3⟩ := h i (by omega)
    refine ⟨?_, ?_, ?_, ?_⟩
    all_goals rw [List.getElem?_append_left (by omega)]
    · exact h0
    · exact h1
    · exact h2
    · exact h3

theorem owns_below4 {B : Nat} {e : TypeId} {k : Nat} {v : Value} {n : Nat} {xs : List Value} {w w' : World} (h : w.ownsRow B e k v n xs) (hb : Below w.heap.size w w') : w'.ownsRow B e k v n xs := by
  refine ⟨h.1, h.2.imp id ?_⟩
  rintro ⟨g, cap, cur, e1, e2, e3, e4⟩
  exact ⟨g, cap, cur, e1, e2, (hb.block g (heap_lt e3)).trans e3, e4⟩
theorem owns_lt4 {w : World} {base : Nat} {e : TypeId} {size n g cap : Nat} {xs : List Value} (h : w.ownsRow base e size (.slice (some ⟨g, 0, none⟩) n cap) n xs) : g < w.heap.size := (h.lt g rfl).2

set_option maxRecDepth 100000 in
set_option maxHeartbeats 2000000 in
theorem inprefixes_any (g n c B : Nat) (xs : List Value) (ps : Nat → LP) (is4 : Bool) (a : Nat → UInt8) (p4 p6 : Addr) (w : World) (hz : Z3 w p4 p6) (hm : n ≤ 5000) (ho : w.ownsRow B 75 4 (.slice (some ⟨g, 0, none⟩) n c) n xs) (hu : PUp p4 p6 xs n ps) :
    Calls Tryd.prog 31 #[.slice (some ⟨g, 0, none⟩) n c, .agg #[.int .u64 (ahi is4 a), .int .u64 (alo is4 a), .pointer (some (zp p4 p6 is4))]] w fun e w' => e = .returned (.bool (anyH n ps is4 a)) ∧ Below w.heap.size w w' := by
  have hn := fun w => Lib.run_eql_slice_nil (P := Tryd.prog) w 48 75 (some ⟨g, 0, none⟩) n c 0 0 Tryd.underlying48
  have HO := hid (ho.alloc (.cells #[.int .u64 (ahi is4 a), .int .u64 (alo is4 a), .pointer (some (zp p4 p6 is4))] 32))
  have HU := hid hu
  have HZ := hid (hz.alloc (.cells #[.int .u64 (ahi is4 a), .int .u64 (alo is4 a), .pointer (some (zp p4 p6 is4))] 32))
  clear ho hu hz
  go_enter Tryd.func31, Tryd.ntmps31
  go_wp2
  obtain ⟨W0, hW0⟩ : ∃ W0, w.alloc (.cells #[.int .u64 (ahi is4 a), .int .u64 (alo is4 a), .pointer (some (zp p4 p6 is4))] 32) = W0 := ⟨_, rfl⟩
  obtain ⟨pb, hpb⟩ : ∃ pb, w.heap.size = pb := ⟨_, rfl⟩
  rw [hW0, hpb]
  rw [hW0] at HO HZ
  have HA := hid (show W0.heap[pb]? = some (.cells #[.int .u64 (ahi is4 a), .int .u64 (alo is4 a), .pointer (some (zp p4 p6 is4))] 32 (0, 0)) by rw [← hW0, ← hpb]; exact heap_alloc_new _ _)
  have HB := hid (show Below w.heap.size w W0 by rw [← hW0]; exact (Below.refl _ _).alloc (Nat.le_refl _) _)
  have HLT := hid (heap_lt HA.out)
  clear hW0 hn
  go_loopw [11] (fun i wr => ∃ k : Nat, k ≤ n ∧ i = .int .i64 k ∧ (∀ j, j < k → (ps j).holds is4 a = false) ∧ Below W0.heap.size W0 wr) (fun i _ => n - (intOf i).toNat)
  case atStart => exact ⟨0, Nat.zero_le _, rfl, fun j hj => absurd hj (by omega), Below.refl _ _⟩
  case round =>
    obtain ⟨k, hk, rfl, hag, hbr⟩ := hrel
    have HG := hid hag
    have HR := hid hbr
    by_cases hlt : k < n
    · obtain ⟨y0, y1, y2, y3⟩ := HU.out k hlt
      have HOR := owns_below4 HO.out hbr
      have c0 := (HOR.cellAt (k * 4) (by omega)).trans y0
      have c1 := (HOR.cellAt (k * 4 + 1) (by omega)).trans y1
      have c2 := (HOR.cellAt (k * 4 + 2) (by omega)).trans y2
      have c3 := (HOR.cellAt (k * 4 + 3) (by omega)).trans y3
      obtain ⟨b0, b1, b2, _⟩ := cells3 ((hbr.block pb HLT.out).trans HA.out)
      have d0 : ∀ o, (wr.alloc o).cell? ⟨pb, 0, none⟩ = _ := fun o => cell?_alloc_old o b0
      have d1 : ∀ o, (wr.alloc o).cell? ⟨pb, 1, none⟩ = _ := fun o => cell?_alloc_old o b1
      have d2 : ∀ o, (wr.alloc o).cell? ⟨pb, 2, none⟩ = _ := fun o => cell?_alloc_old o b2
      have HZR := hid (HZ.out.below hbr)
      clear HOR y0 y1 y2 y3 b0 b1 b2 hag hbr
      obtain ⟨x, hxe⟩ : ∃ x, ps k = x := ⟨_, rfl⟩
      rw [hxe] at c0 c1 c2 c3
      rcases Bool.eq_false_or_eq_true (x.holds is4 a) with hh | hh
      · have HY := hid (anyH_yes (ps := ps) hlt (by rw [hxe]; exact hh))
        have HH := hid (show hold x.is4 x.b x.n is4 a = true from hh)
        clear hxe hh
        go_wp2_with (go_at_call 38; refine (contains_any x.is4 is4 x.b a x.n p4 p6 _ (HZR.out.alloc _)).mono ?_; rw [HH.out]; rintro e w3 ⟨rfl, hb3⟩; have HR3 := hid ((HR.out.alloc HR.out.size _).trans (hb3.mono (by have := HR.out.size; simp; omega))); clear hb3)
        go_ret
        exact ⟨by rw [HY.out]; rfl, HB.out.trans (HR3.out.mono HB.out.size)⟩
      · have HN := hid (show (ps k).holds is4 a = false by rw [hxe]; exact hh)
        have HH := hid (show hold x.is4 x.b x.n is4 a = false from hh)
        clear hxe hh
        go_wp2_with (go_at_call 38; refine (contains_any x.is4 is4 x.b a x.n p4 p6 _ (HZR.out.alloc _)).mono ?_; rw [HH.out]; rintro e w3 ⟨rfl, hb3⟩; have HR3 := hid ((HR.out.alloc HR.out.size _).trans (hb3.mono (by have := HR.out.size; simp; omega))); clear hb3)
        go_roundw
        case rel => exact ⟨k + 1, by omega, by go_num, fun j hj => if h : j = k then by rw [h]; exact HN.out else HG.out j (by omega), HR3.out⟩
        case measure => simp [intOf]; omega
    · have HY := hid (anyH_no (n := n) (ps := ps) (is4 := is4) (a := a) (fun j hj => HG.out j (by omega)))
      clear hag hbr
      go_wp2
      go_ret
      exact ⟨by rw [HY.out]; rfl, HB.out.trans (HR.out.mono HB.out.size)⟩
end Go.Proofs.Qxb6615875aDoor
