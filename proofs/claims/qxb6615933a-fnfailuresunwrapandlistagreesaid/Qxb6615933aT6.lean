import Derived.Test.Qxb6615933aS9
import Derived.Stop.LaidErr
namespace Go.Proofs.Qxb6615933a
open Go.RowKit
set_option linter.unusedSimpArgs false
set_option linter.unusedVariables false

theorem unwrap_as (d : D) (ts : Nat → D) (E : Value) (hE : er d = E) (g n B : Nat) (xs : List Value) (w : World) (hm : n ≤ 1048576) (hr : w.ownsRow B 29 3 (.slice (some ⟨g, 0, none⟩) n n) n xs) (hu : Up xs n ts) :
    Calls Try.prog 17 #[.agg #[.string d.p, .string d.m, E, .slice (some ⟨g, 0, none⟩) n n]] w fun e w' => (∃ v, e = .returned v ∧ Es w w' v (n + 1) (pick d ts)) ∧ Below w.heap.size w w' := by
  subst hE
  exact unwrap_any d ts g n B xs w hm hr hu
theorem mk_as (d : D) (E : Value) (hE : er d = E) (w : World) : Calls Try.prog 15 #[.agg (dv d)] w fun e w' => e = .returned (.agg #[.string d.p, .string d.m, E]) ∧ Below w.heap.size w w' := by
  subst hE
  exact mk_any d w

theorem dataAt_as (d : D) (a : Option Addr) (n c : Nat) (ts : Nat → D) (i : Nat) (x : D) (hx : pick d ts i = x) (w : World) (hm : n ≤ 1048576) (hi : i ≤ n) (ht : Tl w a n ts) :
    Calls Try.prog 19 #[.agg (dv d), .slice a n c, .int .i64 i] w fun e w' => e = .returned (.agg #[.string x.p, .string x.m, .bool x.h, .string x.ep, .string x.em]) ∧ Below w.heap.size w w' := by
  subst hx
  exact dataAt_any d a n c ts i w hm hi ht

/-- The five cells of a box. -/
theorem box5 {w : World} {b : Nat} {d : D} (h : w.heap[b]? = some (.cells (dv d) 35 (0, 0))) :
    w.cell? ⟨b, 0, none⟩ = some (.string d.p) ∧ w.cell? ⟨b, 1, none⟩ = some (.string d.m) ∧ w.cell? ⟨b, 2, none⟩ = some (.bool d.h) ∧ w.cell? ⟨b, 3, none⟩ = some (.string d.ep) ∧ w.cell? ⟨b, 4, none⟩ = some (.string d.em) :=
  ⟨cell_of_row w b 0 _ 35 (0, 0) h, cell_of_row w b 1 _ 35 (0, 0) h, cell_of_row w b 2 _ 35 (0, 0) h, cell_of_row w b 3 _ 35 (0, 0) h, cell_of_row w b 4 _ 35 (0, 0) h⟩

theorem box5o {w : World} {b : Nat} (d : D) (h : w.heap[b]? = some (.cells (dv d) 35 (0, 0))) :
    (∀ o, (w.alloc o).cell? ⟨b, 0, none⟩ = some (.string d.p)) ∧ (∀ o, (w.alloc o).cell? ⟨b, 1, none⟩ = some (.string d.m)) ∧ (∀ o, (w.alloc o).cell? ⟨b, 2, none⟩ = some (.bool d.h)) ∧ (∀ o, (w.alloc o).cell? ⟨b, 3, none⟩ = some (.string d.ep)) ∧ (∀ o, (w.alloc o).cell? ⟨b, 4, none⟩ = some (.string d.em)) := by
  obtain ⟨h0, h1, h2, h3, h4⟩ := box5 h
  exact ⟨fun o => cell?_alloc_old o h0, fun o => cell?_alloc_old o h1, fun o => cell?_alloc_old o h2, fun o => cell?_alloc_old o h3, fun o => cell?_alloc_old o h4⟩
theorem heapOld {w : World} {k : Nat} {o : Obj} (h : w.heap[k]? = some o) (x : Obj) : (w.alloc x).heap[k]? = some o := by
  rw [Below.heap_alloc _ _ _ (Array.getElem?_eq_some_iff.1 h).1]; exact h

/-- The law's own world: her box, and the arguments as they were. -/
structure Wd6 (w w' : World) (d : D) : Prop where
  bel : Below w.heap.size w w'
  box : w'.heap[w.heap.size]? = some (.cells (dv d) 35 (0, 0))
  lt : w.heap.size < w'.heap.size
theorem Wd6.below {w w1 w2 : World} {d : D} (h : Wd6 w w1 d) (hb : Below w1.heap.size w1 w2) : Wd6 w w2 d :=
  ⟨h.bel.trans (hb.mono h.bel.size), (hb.block _ h.lt).trans h.box, Nat.lt_of_lt_of_le h.lt hb.size⟩
theorem wd6_new (w : World) (d : D) : Wd6 w (w.alloc (.cells (dv d) 35)) d := ⟨(Below.refl _ _).alloc (Nat.le_refl _) _, heap_alloc_new _ _, by simp⟩
theorem Wd6.alloc {w w1 : World} {d : D} (h : Wd6 w w1 d) (o : Obj) : Wd6 w (w1.alloc o) d := h.below ((Below.refl _ _).alloc (Nat.le_refl _) _)

theorem size35 : (Try.prog.info? 35).map (·.size) = some 5 := by kernel_rfl

set_option maxRecDepth 100000 in
set_option maxHeartbeats 2000000 in
theorem law6 (d : D) (a : Option Addr) (n c : Nat) (ts : Nat → D) (w : World) (hm : n ≤ maxLen) (ht : Tl w a n ts) :
    Calls Try.prog 6 #[.agg (dv d), .slice a n c] w fun e w' => e = .returned (.bool true) ∧ Below w.heap.size w w' := by
  have H0 := hid (wd6_new w d)
  have HT := hid ht
  have HM := hid hm
  clear ht hm
  obtain ⟨E, hE⟩ : ∃ E, er d = E := ⟨_, rfl⟩
  have HE := hid hE
  have hf := er_form d
  rw [hE] at hf
  clear hE
  rcases hf with rfl | ⟨v, rfl⟩
  all_goals
    go_enter Try.func6, Try.ntmps6
    go_wp2_with (first
      | (refine wpList_load_row rfl 35 (.tmp 2) rfl w.heap.size rfl 35 (dv d) (0, 0) _ H0.out.box Try.underlying35 rfl size35 ?_)
      | (refine wpList_load_row rfl 35 (.tmp 2) rfl w.heap.size rfl 35 (dv d) (0, 0) _ H1.out.box Try.underlying35 rfl size35 ?_)
      | (refine wpList_load_row rfl 35 (.tmp 2) rfl w.heap.size rfl 35 (dv d) (0, 0) _ H2.out.box Try.underlying35 rfl size35 ?_)
      | (go_at_call 22; refine (bytes22_any d a n c ts _ HM.out (HT.out.below H0.out.bel)).mono ?_; rintro e w1 ⟨⟨b1, rfl, hn1⟩, hb1⟩; have H1 := hid (H0.out.below hb1); have HN := hid hn1; clear hb1 hn1; cases b1)
      | (go_at_call 13; refine (fits_any d a n c ts _ (HN.out (by trivial)) (HT.out.below H1.out.bel)).mono ?_; rintro e w2 ⟨⟨b2, rfl⟩, hb2⟩; have H2 := hid (H1.out.below hb2); clear hb2; cases b2)
      | (go_at_call 15; refine (mk_as d _ HE.out _).mono ?_; rintro e w3 ⟨rfl, hb3⟩; have H3 := hid (H2.out.below hb3); clear hb3)
      | (go_at_call 16; refine (tail_any a n c ts _ (HN.out (by trivial)) (HT.out.below H3.out.bel)).mono ?_; rintro e w4 ⟨⟨v4, rfl, ⟨g, xs, rfl, hg, hu⟩⟩, hb4⟩; have H4 := hid (H3.out.below hb4); have HG := hid hg; have HU := hid hu; clear hb4 hg hu)
      | (go_at_call 14; refine (newFailures_any d.p d.m _ (by first | exact .inl rfl | exact .inr ⟨_, rfl⟩) g n _ (HN.out (by trivial))).mono ?_; rintro e w5 ⟨rfl, hb5⟩; have H5 := hid (H4.out.below hb5); have HG5 := hid (owns_below HG.out hb5); clear hb5 HG)
      | (go_at_call 17; refine (unwrap_as d ts _ HE.out g n _ xs _ (HN.out (by trivial)) (HG5.out.alloc _) HU.out).mono ?_; rintro e w6 ⟨⟨v6, rfl, ⟨u, zs, rfl, hz, hzz⟩⟩, hb6⟩; have H6 := hid ((H5.out.alloc _).below hb6); have HZ := hid (owns_mono (B' := w.heap.size) hz (by have := H5.out.bel.size; simp; omega)); have HZZ := hid hzz; clear hb6 hz hzz; have hnn := HN.out (by trivial); have hne : ((n : Int) + 1 != 1 + (n : Int)) = false := by simp [Int.add_comm]))
    · go_ret
      exact ⟨rfl, H1.out.bel⟩
    · go_ret
      exact ⟨rfl, H2.out.bel⟩
    have HNN := hid (HN.out (by trivial))
    clear HN HM H0 H1 H2 H3 H4 H5 HG5 HU
    go_loopw [8] (fun i wr => ∃ k : Nat, k ≤ n + 1 ∧ i = .int .i64 k ∧ wr.ownsRow w.heap.size 27 1 (.slice (some ⟨u, 0, none⟩) (n + 1) (n + 1)) (n + 1) zs ∧ Wd6 w wr d) (fun i _ => n + 1 - (intOf i).toNat)
    case atStart => exact ⟨0, Nat.zero_le _, rfl, HZ.out, H6.out⟩
    case round =>
      clear H6 HZ
      obtain ⟨k, hk, rfl, hzr, hwr⟩ := hrel
      have HZ := hid hzr
      have HW := hid hwr
      clear hzr hwr
      by_cases hlt : k < n + 1
      · have HC := hid ((HZ.out.cellAt k (by omega)).trans (HZZ.out k hlt))
        obtain ⟨x, hx⟩ : ∃ x, pick d ts k = x := ⟨_, rfl⟩
        have HX := hid (fun W h2 => dataAt_as d a n c ts k x hx W HNN.out (by omega) h2)
        rw [hx] at HC
        clear hx
        obtain ⟨xp, xm, xh, xep, xem⟩ := x
        rcases xh with _ | _
        all_goals
          simp only [fv, er, if_true, Bool.false_eq_true, if_false] at HC
          go_wp2_with (first
            | (refine wpList_load_row rfl 35 (.tmp 2) rfl w.heap.size rfl 35 (dv d) (0, 0) _ HW.out.box Try.underlying35 rfl size35 ?_)
            | (go_at_call 19; refine (HX.out _ (HT.out.below HW.out.bel)).mono ?_; rintro e w1 ⟨rfl, hb1⟩; have HW1 := hid (HW.out.below hb1); have HZ1 := hid (owns_below HZ.out hb1); have hu1 := owns_lt HZ1.out; have hcu : ∀ o, (w1.alloc o).cell? ⟨u, k, none⟩ = _ := fun o => cell?_alloc_old o ((hb1.cell (p := ⟨u, k, none⟩) (owns_lt HZ.out)).trans HC.out); clear hb1)
            | (go_at_call 11; refine (as_any _ _ _ (by first | exact .inl rfl | exact .inr ⟨_, _, rfl⟩) _).mono ?_; rintro e w2 ⟨rfl, hb2⟩; first
              | (have HW4 := hid (HW3.out.below hb2); have HZ4 := hid (owns_below HZ3.out hb2); have HD4 := hid ((hb2.block w1.heap.size (by omega)).trans HD3.out); clear d0 d1 d2 d3 d4; obtain ⟨d0, d1, d2, d3, d4⟩ := box5o ⟨xp, xm, _, xep, xem⟩ HD4.out; clear hb2)
              | (have HW2 := hid ((HW1.out.alloc _).below hb2); have HZ2 := hid (owns_below (HZ1.out.alloc _) hb2); have hs2 := hb2.size; simp at hs2; have HD2 := hid ((hb2.block w1.heap.size (by simp)).trans (heap_alloc_new w1 _)); obtain ⟨d0, d1, d2, d3, d4⟩ := box5o ⟨xp, xm, _, xep, xem⟩ HD2.out; clear hb2))
            | (go_at_call 10; refine (unwrap1_any xp xm _ (by first | exact .inl rfl | exact .inr ⟨_, _, rfl⟩) _).mono ?_; rintro e w3 ⟨rfl, hb3⟩; have HW3 := hid ((HW2.out.alloc _).below hb3); have HZ3 := hid (owns_below (HZ2.out.alloc _) hb3); have hs3 := hb3.size; simp at hs3; have HD3 := hid ((hb3.block w1.heap.size (by simp; omega)).trans (heapOld HD2.out _)); clear d0 d1 d2 d3 d4; obtain ⟨d0, d1, d2, d3, d4⟩ := box5 (d := ⟨xp, xm, _, xep, xem⟩) HD3.out; clear hb3))
          go_roundw
          case rel => first | exact ⟨k + 1, by omega, by go_num, HZ4.out.alloc _, HW4.out.alloc _⟩ | exact ⟨k + 1, by omega, by go_num, HZ3.out, HW3.out⟩
          case measure => simp [intOf]; omega
      · go_wp2
        go_ret
        exact ⟨rfl, HW.out.bel⟩

end Go.Proofs.Qxb6615933a
