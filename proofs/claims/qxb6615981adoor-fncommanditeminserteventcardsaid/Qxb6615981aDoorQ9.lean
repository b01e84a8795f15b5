import Derived.Test.Qxb6615981aDoorQ8
import Derived.Lib.SliceRun
namespace Go.Proofs.Qxb6615981aDoor
open Go.RowKit
set_option linter.unusedSimpArgs false
set_option linter.unusedVariables false

/-- What memory says of the law's events: two strings each. -/
def Zev (W : World) (a : Option Addr) (n : Nat) (es : Nat → ByteArray × ByteArray) : Prop := ∀ i, i < n → ∃ b off, a = some ⟨b, off, none⟩ ∧ W.cell? ⟨b, off + i * 2, none⟩ = some (.string (es i).1) ∧ W.cell? ⟨b, off + i * 2 + 1, none⟩ = some (.string (es i).2)
theorem Zev.below {W V : World} {a : Option Addr} {n : Nat} {es : Nat → ByteArray × ByteArray} (h : Zev W a n es) (hb : Below W.heap.size W V) : Zev V a n es := fun i hi => by
  obtain ⟨b, off, e, h0, h1⟩ := h i hi
  have hlt : b < W.heap.size := block_lt_of_cell (a := ⟨b, off + i * 2, none⟩) h0
  exact ⟨b, off, e, (hb.cell (p := ⟨b, off + i * 2, none⟩) hlt).trans h0, (hb.cell (p := ⟨b, off + i * 2 + 1, none⟩) hlt).trans h1⟩
def Small (n : Nat) (es : Nat → ByteArray × ByteArray) : Prop := ∀ i, i < n → (es i).1.size ≤ 1048576 ∧ (es i).2.size ≤ 1048576
def Res11 (n : Nat) (es : Nat → ByteArray × ByteArray) (w : World) (e : Ending) (w' : World) : Prop := ∃ b, e = .returned (.bool b) ∧ (b = true → Small n es) ∧ w' = w
theorem res11_no {n : Nat} {es : Nat → ByteArray × ByteArray} {w : World} {e : Ending} (h : e = .returned (.bool false)) : Res11 n es w e w := ⟨false, h, fun h => (by cases h), rfl⟩
theorem res11_yes {n : Nat} {es : Nat → ByteArray × ByteArray} {w : World} {e : Ending} (h : e = .returned (.bool true)) (hs : Small n es) : Res11 n es w e w := ⟨true, h, fun _ => hs, rfl⟩

set_option maxRecDepth 100000 in
set_option maxHeartbeats 4000000 in
theorem bytes11_any (verb term : ByteArray) (rid : Int) (a : Option Addr) (n c : Nat) (at_ : Int) (pkg ev : ByteArray) (opt : Bool) (es : Nat → ByteArray × ByteArray) (w : World) (h1 : verb.size ≤ maxLen) (h2 : term.size ≤ maxLen) (h3 : n ≤ maxLen) (h4 : pkg.size ≤ maxLen) (h5 : ev.size ≤ maxLen) (hs : Zev w a n es) (hm : ∀ i, i < n → (es i).1.size ≤ maxLen ∧ (es i).2.size ≤ maxLen) :
    Calls Tryd.prog 11 #[.string verb, .string term, .int .u32 rid, .slice a n c, .int .i64 at_, .string pkg, .string ev, .bool opt] w fun e w' => Res11 n es w e w' := by
  have HS := hid hs
  have HM := hid hm
  clear hs hm
  unfold maxLen at h1 h2 h3 h4 h5
  by_cases g1 : 1048576 < verb.size
  · go_enter Tryd.func11, Tryd.ntmps11
    go_wp2
    go_ret
    exact res11_no rfl
  by_cases g2 : 1048576 < term.size
  · go_enter Tryd.func11, Tryd.ntmps11
    go_wp2
    go_ret
    exact res11_no rfl
  by_cases g3 : 1048576 < verb.size + term.size
  · go_enter Tryd.func11, Tryd.ntmps11
    go_wp2
    go_ret
    exact res11_no rfl
  by_cases g4 : 1048576 < n
  · go_enter Tryd.func11, Tryd.ntmps11
    go_wp2
    go_ret
    exact res11_no rfl
  by_cases g5 : 1048576 < verb.size + term.size + n
  · go_enter Tryd.func11, Tryd.ntmps11
    go_wp2
    go_ret
    exact res11_no rfl
  go_enter Tryd.func11, Tryd.ntmps11
  go_wp2
  go_loop [17, 18] (fun t i => ∃ (k : Nat) (z : Int), k ≤ n ∧ i = .int .i64 k ∧ t = .int .i64 z ∧ 0 ≤ z ∧ z ≤ 1048576 ∧ Small k es) (fun _ i => n - (intOf i).toNat)
  case atStart => exact ⟨0, _, Nat.zero_le _, rfl, rfl, by omega, by omega, fun i hi => absurd hi (by omega)⟩
  case round =>
    obtain ⟨k, z, hk, rfl, rfl, hn0, hn1, hsm⟩ := hrel
    have HA := hid hsm
    clear hsm
    by_cases hlt : k < n
    · obtain ⟨b, off, rfl, c0, c1⟩ := HS.out k hlt
      obtain ⟨m0, m1⟩ := HM.out k hlt
      unfold maxLen at m0 m1
      obtain ⟨x, hxe⟩ : ∃ x, es k = x := ⟨_, rfl⟩
      rw [hxe] at c0 c1 m0 m1
      have HX := hid hxe
      clear hxe
      by_cases q1 : 1048576 < x.1.size
      · go_wp2
        go_ret
        exact res11_no rfl
      by_cases q2 : 1048576 < z + (x.1.size : Int)
      · go_wp2
        go_ret
        exact res11_no rfl
      by_cases q3 : 1048576 < x.2.size
      · go_wp2
        go_ret
        exact res11_no rfl
      by_cases q4 : 1048576 < z + (x.1.size : Int) + (x.2.size : Int)
      · go_wp2
        go_ret
        exact res11_no rfl
      go_wp2
      go_round
      case rel => exact ⟨k + 1, _, by omega, by go_num, rfl, by omega, by omega, fun i hi => if h : i = k then by rw [h, HX.out]; exact ⟨by omega, by omega⟩ else HA.out i (by omega)⟩
      case measure => simp [intOf]; omega
    · obtain rfl : k = n := by omega
      by_cases q1 : 1048576 < pkg.size
      · go_wp2
        go_ret
        exact res11_no rfl
      by_cases q2 : 1048576 < z + (pkg.size : Int)
      · go_wp2
        go_ret
        exact res11_no rfl
      by_cases q3 : 1048576 < ev.size
      · go_wp2
        go_ret
        exact res11_no rfl
      by_cases q4 : 1048576 < z + (pkg.size : Int) + (ev.size : Int)
      · go_wp2
        go_ret
        exact res11_no rfl
      go_wp2
      go_ret
      exact res11_yes rfl HA.out

/-- The events' cells in a row of the call's own. -/
def rowE (es : Nat → ByteArray × ByteArray) : Nat → List Value
  | 0 => []
  | k + 1 => rowE es k ++ [.string (es k).1, .string (es k).2]
theorem rowE_len (es : Nat → ByteArray × ByteArray) (k : Nat) : (rowE es k).length = k * 2 := by
  induction k with
  | zero => rfl
  | succ k ih => rw [rowE, List.length_append, ih]; simp; omega
theorem rowE_get (es : Nat → ByteArray × ByteArray) (k : Nat) : ∀ i, i < k → (rowE es k)[i * 2]? = some (.string (es i).1) ∧ (rowE es k)[i * 2 + 1]? = some (.string (es i).2) := by
  induction k with
  | zero => intro i hi; omega
  | succ k ih =>
    intro i hi
    rw [rowE]
    by_cases h : i = k
    · subst h
      rw [List.getElem?_append_right (by rw [rowE_len]; omega), List.getElem?_append_right (by rw [rowE_len]; omega), rowE_len, Nat.sub_self, show i * 2 + 1 - i * 2 = 1 by omega]
      exact ⟨rfl, rfl⟩
    · rw [List.getElem?_append_left (by rw [rowE_len]; omega), List.getElem?_append_left (by rw [rowE_len]; omega)]
      exact ih i (by omega)
/-- The first k of the row are the events. -/
def EUp (xs : List Value) (k : Nat) (es : Nat → ByteArray × ByteArray) : Prop := ∀ i, i < k → xs[i * 2]? = some (.string (es i).1) ∧ xs[i * 2 + 1]? = some (.string (es i).2)
theorem EUp.next {xs : List Value} {k n : Nat} {es : Nat → ByteArray × ByteArray} (h : EUp xs k es) (hl : xs.length = n * 2) (hk : k < n) : EUp ((xs.set (k * 2) (.string (es k).1)).set (k * 2 + 1) (.string (es k).2)) (k + 1) es := fun i hi => by
  by_cases e : i = k
  · subst e
    rw [List.getElem?_set_ne (by omega), List.getElem?_set_self (by omega), List.getElem?_set_self (by simp; omega)]
    exact ⟨rfl, rfl⟩
  · rw [List.getElem?_set_ne (by omega), List.getElem?_set_ne (by omega), List.getElem?_set_ne (by omega), List.getElem?_set_ne (by omega)]
    exact h i (by omega)
theorem evs_own {W : World} {B n c g : Nat} {xs : List Value} {es : Nat → ByteArray × ByteArray} (ho : W.ownsRow B 31 2 (.slice (some ⟨g, 0, none⟩) n c) n xs) (hu : EUp xs n es) : Evs W (.slice (some ⟨g, 0, none⟩) n c) n es := fun i hi => by
  have hl := ho.1
  exact ⟨g, c, rfl, (ho.cellAt (i * 2) (by omega)).trans (hu i hi).1, (ho.cellAt (i * 2 + 1) (by omega)).trans (hu i hi).2⟩

set_option maxRecDepth 100000 in
set_option maxHeartbeats 2000000 in
theorem toObs_any (ad : Addr) (n c : Nat) (es : Nat → ByteArray × ByteArray) (w : World) (hn : n ≤ 70000) (hs : Zev w (some ad) n es) :
    Calls Tryd.prog 12 #[.slice (some ad) n c] w fun e w' => (∃ xs, e = .returned (.slice (some ⟨w.heap.size, 0, none⟩) n n) ∧ w'.ownsRow w.heap.size 31 2 (.slice (some ⟨w.heap.size, 0, none⟩) n n) n xs ∧ EUp xs n es) ∧ Below w.heap.size w w' := by
  obtain ⟨i0, hi, hz0, hz1, hz2⟩ := info_parts info31
  have hnil := fun w => Lib.run_eql_slice_nil (P := Tryd.prog) w 25 28 (some ad) n c 0 0 Tryd.underlying25
  have HS := hid hs
  clear hs
  go_enter Tryd.func12, Tryd.ntmps12
  go_wp2_with (at_make; refine wpList_make_full _ rfl _ _ 29 rfl w.heap.size 31 i0 _ 2 Tryd.underlying29 hi hz0 hz1 _ _ _ _ n rfl rfl rfl rfl (by rw [hz2]; omega) (by unfold maxLen; omega) (Nat.le_refl _) ?_; intro w1 hown hgrow; have HO1 := hid hown; have HG1 := hid hgrow; clear hown hgrow)
  go_loopw [4] (fun i wr => ∃ k : Nat, k ≤ n ∧ i = .int .i64 k ∧ (∃ xs, wr.ownsRow w.heap.size 31 2 (.slice (some ⟨w.heap.size, 0, none⟩) n n) n xs ∧ EUp xs k es) ∧ Below w.heap.size w wr) (fun i _ => n - (intOf i).toNat)
  case atStart => exact ⟨0, Nat.zero_le _, rfl, ⟨_, HO1.out, fun _ h => absurd h (by omega)⟩, (Below.refl _ _).grown HG1.out (Nat.le_refl _) (by simp)⟩
  case round =>
    clear HO1 HG1 hnil
    obtain ⟨k, hk, rfl, ⟨xs, ho, hu⟩, hbr⟩ := hrel
    have HO := hid ho
    have HU := hid hu
    have HB := hid hbr
    by_cases hlt : k < n
    · obtain ⟨b, off, e, c0, c1⟩ := HS.out k hlt
      obtain rfl := Option.some.inj e
      clear e
      obtain ⟨x, hxe⟩ : ∃ x, es k = x := ⟨_, rfl⟩
      rw [hxe] at c0 c1
      have HX := hid hxe
      have hlb : b < w.heap.size := block_lt_of_cell (a := ⟨b, off + k * 2, none⟩) c0
      have d0 := (hbr.cell (p := ⟨b, off + k * 2, none⟩) hlb).trans c0
      have d1 := (hbr.cell (p := ⟨b, off + k * 2 + 1, none⟩) hlb).trans c1
      have HSC := hid (fun V (hV : Below w.heap.size wr V) => show V.cell? ⟨b, off + k * 2, none⟩ = some (.string x.1) ∧ V.cell? ⟨b, off + k * 2 + 1, none⟩ = some (.string x.2) from ⟨(hV.cell (p := ⟨b, off + k * 2, none⟩) hlb).trans d0, (hV.cell (p := ⟨b, off + k * 2 + 1, none⟩) hlb).trans d1⟩)
      have HS0 := hid (HSC.out wr.drew (Below.refl _ _).drew)
      have HOD := hid (owns_below8 ho (Below.refl _ _).drew)
      clear hxe ho hu hbr c0 c1 d0 d1
      go_wp2
      refine wp_region_held_drew (S := fun W => W.cell? ⟨b, off + k * 2, none⟩ = some (.string x.1) ∧ W.cell? ⟨b, off + k * 2 + 1, none⟩ = some (.string x.2)) (by kernel_rfl) HS0.out (fun hHeld => ?_)
      refine wpAnyH_take (i := 0) (v := ?_) rfl (by kernel_rfl) (by kernel_rfl) (by kernel_rfl) (fun _ _ _ h => h) (Or.inl ⟨by kernel_rfl, ?_⟩) (by assumption) ?_
      rotate_left
      · intro w hSw; go_simp; with_reducible rfl
      try simp (maxSteps := 2000000) only [Act.put, List.getElem_toArray, List.getElem_cons_succ, List.getElem_cons_zero, List.setIfInBounds_toArray, List.set_cons_zero, List.set_cons_succ]
      refine wpAnyH_take (i := 1) (v := ?_) rfl (by kernel_rfl) (by kernel_rfl) (by kernel_rfl) (fun _ _ _ h => h) (Or.inl ⟨by kernel_rfl, ?_⟩) (by assumption) ?_
      rotate_left
      · intro w hSw; go_simp; with_reducible rfl
      try simp (maxSteps := 2000000) only [Act.put, List.getElem_toArray, List.getElem_cons_succ, List.getElem_cons_zero, List.setIfInBounds_toArray, List.set_cons_zero, List.set_cons_succ]
      refine wpAnyH_take (i := 2) (v := ?_) rfl (by kernel_rfl) (by kernel_rfl) (by kernel_rfl) (fun _ _ _ h => h) (Or.inl ⟨by kernel_rfl, ?_⟩) (by assumption) ?_
      rotate_left
      · intro w hSw; go_simp; with_reducible rfl
      try simp (maxSteps := 2000000) only [Act.put, List.getElem_toArray, List.getElem_cons_succ, List.getElem_cons_zero, List.setIfInBounds_toArray, List.set_cons_zero, List.set_cons_succ]
      refine wpAnyH_take (i := 3) (v := ?_) rfl (by kernel_rfl) (by kernel_rfl) (by kernel_rfl) (fun _ _ _ h => h) (Or.inl ⟨by kernel_rfl, ?_⟩) (by assumption) ?_
      rotate_left
      · intro w hSw; go_simp; with_reducible rfl
      try simp (maxSteps := 2000000) only [Act.put, List.getElem_toArray, List.getElem_cons_succ, List.getElem_cons_zero, List.setIfInBounds_toArray, List.set_cons_zero, List.set_cons_succ]
      refine wpAnyH_take (i := 4) (v := ?_) rfl (by kernel_rfl) (by kernel_rfl) (by kernel_rfl) (fun _ _ _ h => h) (Or.inl ⟨by kernel_rfl, ?_⟩) (by assumption) ?_
      rotate_left
      · intro w hSw; go_simp; with_reducible rfl
      try simp (maxSteps := 2000000) only [Act.put, List.getElem_toArray, List.getElem_cons_succ, List.getElem_cons_zero, List.setIfInBounds_toArray, List.set_cons_zero, List.set_cons_succ]
      refine wpAnyH_take (i := 5) (v := ?_) rfl (by kernel_rfl) (by kernel_rfl) (by kernel_rfl) (fun _ _ _ h => h) (Or.inl ⟨by kernel_rfl, ?_⟩) (by assumption) ?_
      rotate_left
      · intro w hSw; go_simp; with_reducible rfl
      try simp (maxSteps := 2000000) only [Act.put, List.getElem_toArray, List.getElem_cons_succ, List.getElem_cons_zero, List.setIfInBounds_toArray, List.set_cons_zero, List.set_cons_succ]
      refine wpAnyH_take (i := 6) (v := ?_) rfl (by kernel_rfl) (by kernel_rfl) (by kernel_rfl) (fun _ _ _ h => h) (Or.inl ⟨by kernel_rfl, ?_⟩) (by assumption) ?_
      rotate_left
      · intro w hSw; have hcl := hSw.1; go_simp; with_reducible rfl
      try simp (maxSteps := 2000000) only [Act.put, List.getElem_toArray, List.getElem_cons_succ, List.getElem_cons_zero, List.setIfInBounds_toArray, List.set_cons_zero, List.set_cons_succ]
      refine wpAnyH_take (i := 7) (v := ?_) rfl (by kernel_rfl) (by kernel_rfl) (by kernel_rfl) (fun _ _ _ h => h) (Or.inl ⟨by kernel_rfl, ?_⟩) (by assumption) ?_
      rotate_left
      · intro w hSw; go_simp; with_reducible rfl
      try simp (maxSteps := 2000000) only [Act.put, List.getElem_toArray, List.getElem_cons_succ, List.getElem_cons_zero, List.setIfInBounds_toArray, List.set_cons_zero, List.set_cons_succ]
      refine wpAnyH_take (i := 8) (v := ?_) rfl (by kernel_rfl) (by kernel_rfl) (by kernel_rfl) (fun _ _ _ h => h) (Or.inl ⟨by kernel_rfl, ?_⟩) (by assumption) ?_
      rotate_left
      · intro w hSw; go_simp; with_reducible rfl
      try simp (maxSteps := 2000000) only [Act.put, List.getElem_toArray, List.getElem_cons_succ, List.getElem_cons_zero, List.setIfInBounds_toArray, List.set_cons_zero, List.set_cons_succ]
      refine wpAnyH_take (i := 9) (v := ?_) rfl (by kernel_rfl) (by kernel_rfl) (by kernel_rfl) (fun _ _ _ h => h) (Or.inl ⟨by kernel_rfl, ?_⟩) (by assumption) ?_
      rotate_left
      · intro w hSw; go_simp; with_reducible rfl
      try simp (maxSteps := 2000000) only [Act.put, List.getElem_toArray, List.getElem_cons_succ, List.getElem_cons_zero, List.setIfInBounds_toArray, List.set_cons_zero, List.set_cons_succ]
      refine wpAnyH_take (i := 10) (v := ?_) rfl (by kernel_rfl) (by kernel_rfl) (by kernel_rfl) (fun _ _ _ h => h) (Or.inl ⟨by kernel_rfl, ?_⟩) (by assumption) ?_
      rotate_left
      · intro w hSw; go_simp; with_reducible rfl
      try simp (maxSteps := 2000000) only [Act.put, List.getElem_toArray, List.getElem_cons_succ, List.getElem_cons_zero, List.setIfInBounds_toArray, List.set_cons_zero, List.set_cons_succ]
      refine wpAnyH_take (i := 11) (v := ?_) rfl (by kernel_rfl) (by kernel_rfl) (by kernel_rfl) (fun _ _ _ h => h) (Or.inl ⟨by kernel_rfl, ?_⟩) (by assumption) ?_
      rotate_left
      · intro w hSw; have hcl := hSw.2; go_simp; with_reducible rfl
      try simp (maxSteps := 2000000) only [Act.put, List.getElem_toArray, List.getElem_cons_succ, List.getElem_cons_zero, List.setIfInBounds_toArray, List.set_cons_zero, List.set_cons_succ]
      refine wpAnyH_take (i := 12) (v := ?_) rfl (by kernel_rfl) (by kernel_rfl) (by kernel_rfl) (fun _ _ _ h => h) (Or.inl ⟨by kernel_rfl, ?_⟩) (by assumption) ?_
      rotate_left
      · intro w hSw; go_simp; with_reducible rfl
      try simp (maxSteps := 2000000) only [Act.put, List.getElem_toArray, List.getElem_cons_succ, List.getElem_cons_zero, List.setIfInBounds_toArray, List.set_cons_zero, List.set_cons_succ]
      refine wpAnyH_take (i := 13) (v := ?_) rfl (by kernel_rfl) (by kernel_rfl) (by kernel_rfl) (fun _ _ _ h => h) (Or.inl ⟨by kernel_rfl, ?_⟩) (by assumption) ?_
      rotate_left
      · intro w hSw; go_simp; with_reducible rfl
      try simp (maxSteps := 2000000) only [Act.put, List.getElem_toArray, List.getElem_cons_succ, List.getElem_cons_zero, List.setIfInBounds_toArray, List.set_cons_zero, List.set_cons_succ]
      refine wpAnyH_ready (rs := [14]) (by kernel_rfl) (by simp) ?_
      refine AllReadyH.cons rfl (fun K hK => ?_) AllReadyH.nil
      have hl := HO.out.1
      have o0 : wr.cell? ⟨w.heap.size, k * 2, none⟩ = some xs[k * 2] := (HO.out.cellAt (k * 2) (by omega)).trans (List.getElem?_eq_getElem (by omega))
      have o1 : wr.cell? ⟨w.heap.size, k * 2 + 1, none⟩ = some xs[k * 2 + 1] := (HO.out.cellAt (k * 2 + 1) (by omega)).trans (List.getElem?_eq_getElem (by omega))
      have f0 := HO.out.frozenAt (k * 2)
      have f1 := HO.out.frozenAt (k * 2 + 1)
      go_simp
      refine hK.out _ _ ?_ (fun hHeld => ?_)
      · exact ⟨HSC.out _ (((Below.refl w.heap.size wr).setCell (p := ⟨w.heap.size, k * 2, none⟩) (Nat.le_refl _) _).setCell (p := ⟨w.heap.size, k * 2 + 1, none⟩) (Nat.le_refl _) _).drew |>.1, HSC.out _ (((Below.refl w.heap.size wr).setCell (p := ⟨w.heap.size, k * 2, none⟩) (Nat.le_refl _) _).setCell (p := ⟨w.heap.size, k * 2 + 1, none⟩) (Nat.le_refl _) _).drew |>.2⟩
      clear hK K
      try simp (maxSteps := 2000000) only [Act.put, List.getElem_toArray, List.getElem_cons_succ, List.getElem_cons_zero, List.setIfInBounds_toArray, List.set_cons_zero, List.set_cons_succ]
      refine wpAnyH_done (by kernel_rfl) ?_ _
      go_wp2_with fail
      go_roundw
      case rel => exact ⟨k + 1, by omega, by go_num, ⟨_, owns_below8 ((HO.out.stored (k * 2) _).1.stored (k * 2 + 1) _).1 (Below.refl _ _).drew, by rw [← HX.out]; exact HU.out.next hl hlt⟩, ((HB.out.setCell (p := ⟨w.heap.size, k * 2, none⟩) (Nat.le_refl _) _).setCell (p := ⟨w.heap.size, k * 2 + 1, none⟩) (Nat.le_refl _) _).drew⟩
      case measure => simp [intOf]; omega
    · obtain rfl : k = n := by omega
      clear ho hu hbr
      go_wp2
      go_ret
      exact ⟨⟨_, rfl, HO.out, HU.out⟩, HB.out⟩
set_option maxHeartbeats 1000000 in
theorem toObs_nil (w : World) : Calls Tryd.prog 12 #[.slice none 0 0] w fun e w' => e = .returned (.slice none 0 0) ∧ Below w.heap.size w w' := by
  have hn := fun w => Lib.run_eql_slice_nil (P := Tryd.prog) w 25 28 none 0 0 0 0 Tryd.underlying25
  go_enter Tryd.func12, Tryd.ntmps12
  go_wp2
  go_ret
  exact ⟨rfl, Below.refl _ _⟩
end Go.Proofs.Qxb6615981aDoor
