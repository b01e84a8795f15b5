import Derived.Test.Qxb6615933aT4a
import Derived.Deep.CutRange
import Derived.Deep.RegionHeld3
import Derived.Deep.MidRow
namespace Go.Proofs.Qxb6615933a
open Go.RowKit
set_option linter.unusedSimpArgs false
set_option linter.unusedVariables false

theorem size29 : (Try.prog.info? 29).map (·.size) = some 3 := by kernel_rfl
theorem matches_f (p m ep em : ByteArray) (w : World) : Calls Try.prog 20 #[.agg #[.string p, .string m, .nilIface], .agg #[.string p, .string m, .bool false, .string ep, .string em]] w fun e w' => e = .returned (.bool true) ∧ Below w.heap.size w w' :=
  matches_any ⟨p, m, false, ep, em⟩ w
theorem matches_t (p m ep em : ByteArray) (w : World) : Calls Try.prog 20 #[.agg #[.string p, .string m, .iface 29 (.agg #[.string ep, .string em, .nilIface])], .agg #[.string p, .string m, .bool true, .string ep, .string em]] w fun e w' => e = .returned (.bool true) ∧ Below w.heap.size w w' :=
  matches_any ⟨p, m, true, ep, em⟩ w

/-- The three cells of the list's k-th failure. -/
theorem range_owns {W : World} {B q n k : Nat} {ys : List Value} {fs : Nat → D} (h : W.ownsRow B 29 3 (.slice (some ⟨q, 0, none⟩) n n) n ys) (hu : Up ys n fs) (hk : k < n) : W.rangeAt q (k * 3) (fv (fs k)).toList := by
  intro j v hv
  obtain ⟨y0, y1, y2⟩ := hu k hk
  have hl := h.1
  rcases j with _ | _ | _ | j
  · have := (h.cellAt (k * 3) (by omega)).trans y0; simp [fv] at hv; subst hv; exact this
  · have := (h.cellAt (k * 3 + 1) (by omega)).trans y1; simp [fv] at hv; subst hv; exact this
  · have := (h.cellAt (k * 3 + 2) (by omega)).trans y2; simp [fv] at hv; subst hv; exact this
  · simp [fv] at hv
theorem range_below {W W' : World} {q o B : Nat} {cs : List Value} (h : W.rangeAt q o cs) (hq : q < B) (hb : Below B W W') : W'.rangeAt q o cs := fun j v hv => (hb.cell (p := ⟨q, o + j, none⟩) hq).trans (h j v hv)
theorem range_alloc {W : World} {q o : Nat} {cs : List Value} (h : W.rangeAt q o cs) (x : Obj) : (W.alloc x).rangeAt q o cs := fun j v hv => cell?_alloc_old x (h j v hv)

set_option maxRecDepth 100000 in
set_option maxHeartbeats 2000000 in
theorem law4 (d : D) (a : Option Addr) (n c : Nat) (ts : Nat → D) (w : World) (hm : n ≤ maxLen) (ht : Tl w a n ts) :
    Calls Try.prog 4 #[.agg (dv d), .slice a n c] w fun e w' => e = .returned (.bool true) ∧ Below w.heap.size w w' := by
  have H0 := hid (wd6_new w d)
  have HT := hid ht
  have HM := hid hm
  clear ht hm
  obtain ⟨E, hE⟩ : ∃ E, er d = E := ⟨_, rfl⟩
  have HE := hid hE
  have hf := er_form d
  rw [hE] at hf
  clear hE
  rcases hf with rfl | ⟨v, rfl⟩
  all_goals
    go_enter Try.func4, Try.ntmps4
    go_wp2_with (first
      | (refine wpList_load_row rfl 35 (.tmp 2) rfl w.heap.size rfl 35 (dv d) (0, 0) _ H0.out.box Try.underlying35 rfl size35 ?_)
      | (refine wpList_load_row rfl 35 (.tmp 2) rfl w.heap.size rfl 35 (dv d) (0, 0) _ H1.out.box Try.underlying35 rfl size35 ?_)
      | (refine wpList_load_row rfl 35 (.tmp 2) rfl w.heap.size rfl 35 (dv d) (0, 0) _ H2.out.box Try.underlying35 rfl size35 ?_)
      | (refine wpList_load_row rfl 40 (.tmp 5) rfl w5.heap.size rfl 40 _ (0, 0) _ HF.out Try.underlying40 rfl size40 ?_)
      | (go_at_call 12; refine (bytes12_any d a n c ts _ HM.out (HT.out.below H0.out.bel)).mono ?_; rintro e w1 ⟨⟨b1, rfl, hn1⟩, hb1⟩; have H1 := hid (H0.out.below hb1); have HN := hid hn1; clear hb1 hn1; cases b1)
      | (go_at_call 13; refine (fits_any d a n c ts _ (HN.out (by trivial)) (HT.out.below H1.out.bel)).mono ?_; rintro e w2 ⟨⟨b2, rfl⟩, hb2⟩; have H2 := hid (H1.out.below hb2); clear hb2; cases b2)
      | (go_at_call 15; refine (mk_as d _ HE.out _).mono ?_; rintro e w3 ⟨rfl, hb3⟩; have H3 := hid (H2.out.below hb3); clear hb3)
      | (go_at_call 16; refine (tail_any a n c ts _ (HN.out (by trivial)) (HT.out.below H3.out.bel)).mono ?_; rintro e w4 ⟨⟨v4, rfl, ⟨g, xs, rfl, hg, hu⟩⟩, hb4⟩; have H4 := hid (H3.out.below hb4); have HG := hid hg; have HU := hid hu; clear hb4 hg hu)
      | (go_at_call 14; refine (newFailures_any d.p d.m _ (by first | exact .inl rfl | exact .inr ⟨_, rfl⟩) g n _ (HN.out (by trivial))).mono ?_; rintro e w5 ⟨rfl, hb5⟩; have H5 := hid (H4.out.below hb5); have HG5 := hid (owns_below HG.out hb5); clear hb5 HG)
      | (go_at_call 17; refine (unwrap_as d ts _ HE.out g n _ xs _ (HN.out (by trivial)) (HG5.out.alloc _) HU.out).mono ?_; rintro e w6 ⟨⟨v6, rfl, ⟨u, zs, rfl, hz, hzz⟩⟩, hb6⟩; have H6 := hid ((H5.out.alloc _).below hb6); have HZ := hid (owns_mono (B' := w.heap.size) hz (by have := H5.out.bel.size; simp; omega)); have HZZ := hid hzz; have HG6 := hid (owns_below (HG5.out.alloc _) hb6); have HF := hid ((hb6.block w5.heap.size (by simp)).trans (heap_alloc_new w5 _)); clear hb6 hz hzz)
      | (go_at_call 18; refine (zzlist_as d ts _ HE.out g n _ xs _ (HN.out (by trivial)) HG6.out HU.out).mono ?_; rintro e w7 ⟨⟨v7, rfl, ⟨q, ys, rfl, hq, hy⟩⟩, hb7⟩; have H7 := hid (H6.out.below hb7); have HZ7 := hid (owns_below HZ.out hb7); have HL := hid (owns_mono (B' := w.heap.size) hq H6.out.bel.size); have HY := hid hy; clear hb7 hq hy; have hnn := HN.out (by trivial); have hne : ((n : Int) + 1 != 1 + (n : Int)) = false := by simp [Int.add_comm]))
    · go_ret
      exact ⟨rfl, H1.out.bel⟩
    · go_ret
      exact ⟨rfl, H2.out.bel⟩
    have HNN := hid (HN.out (by trivial))
    clear HN HM H0 H1 H2 H3 H4 H5 H6 HG5 HG6 HU HF HZ
    go_loopw [9] (fun i wr => ∃ k : Nat, k ≤ n + 1 ∧ i = .int .i64 k ∧ wr.ownsRow w.heap.size 27 1 (.slice (some ⟨u, 0, none⟩) (n + 1) (n + 1)) (n + 1) zs ∧ wr.ownsRow w.heap.size 29 3 (.slice (some ⟨q, 0, none⟩) (n + 1) (n + 1)) (n + 1) ys ∧ Wd6 w wr d) (fun i _ => n + 1 - (intOf i).toNat)
    case atStart => exact ⟨0, Nat.zero_le _, rfl, HZ7.out, HL.out, H7.out⟩
    case round =>
      clear H7 HZ7 HL
      obtain ⟨k, hk, rfl, hzr, hlr, hwr⟩ := hrel
      have HZ := hid hzr
      have HL := hid hlr
      have HW := hid hwr
      clear hzr hwr hlr
      by_cases hlt : k < n + 1
      · have HC := hid ((HZ.out.cellAt k (by omega)).trans (HZZ.out k hlt))
        have HR := hid (range_owns HL.out HY.out hlt)
        have HKN := hid hlt
        obtain ⟨x, hx⟩ : ∃ x, pick d ts k = x := ⟨_, rfl⟩
        have HX := hid (fun W h2 => dataAt_as d a n c ts k x hx W HNN.out (by omega) h2)
        rw [hx] at HC HR
        clear hx
        obtain ⟨xp, xm, xh, xep, xem⟩ := x
        rcases xh with _ | _
        · simp only [fv, er, if_true, Bool.false_eq_true, if_false] at HC HR
          go_wp2_with (first
            | (refine wpList_load_row rfl 35 (.tmp 2) rfl w.heap.size rfl 35 (dv d) (0, 0) _ HW.out.box Try.underlying35 rfl size35 ?_)
            | (go_at_call 19; refine (HX.out _ (HT.out.below HW.out.bel)).mono ?_; rintro e w1 ⟨rfl, hb1⟩; have HW1 := hid (HW.out.below hb1); have HZ1 := hid (owns_below HZ.out hb1); have HL1 := hid (owns_below HL.out hb1); have HR1 := hid (range_below HR.out (owns_lt HL.out) hb1); have hcu : ∀ o, (w1.alloc o).cell? ⟨u, k, none⟩ = _ := fun o => cell?_alloc_old o ((hb1.cell (p := ⟨u, k, none⟩) (owns_lt HZ.out)).trans HC.out); clear hb1)
            | (go_at_call 11; refine (as_any _ _ _ (by first | exact .inl rfl | exact .inr ⟨_, _, rfl⟩) _).mono ?_; rintro e w2 ⟨rfl, hb2⟩; have HW2 := hid ((HW1.out.alloc _).below hb2); have HZ2 := hid (owns_below (HZ1.out.alloc _) hb2); have HL2 := hid (owns_below (HL1.out.alloc _) hb2); have hq2 := owns_lt HL2.out; have hs2 := hb2.size; simp at hs2; have HD2 := hid ((hb2.block w1.heap.size (by simp)).trans (heap_alloc_new w1 _)); have HR2 := hid (range_below (range_alloc HR1.out _) (owns_lt (HL1.out.alloc _)) hb2); clear hb2))
          have HBX := hid (heap_alloc_new w2 (.cells #[.string xp, .string xm, .nilIface] 29))
          have HDX := hid (heapOld HD2.out (.cells #[.string xp, .string xm, .nilIface] 29))
          have HRL := hid (range_alloc HR2.out (.cells #[.string xp, .string xm, .nilIface] 29))
          have hkn := HKN.out
          refine wp_region_held_drew (S := fun W => Below (w2.alloc (.cells #[.string xp, .string xm, .nilIface] 29)).drew.heap.size (w2.alloc (.cells #[.string xp, .string xm, .nilIface] 29)).drew W) (by kernel_rfl) (Below.refl _ _) (fun hHeld => ?_)
          refine wpAnyH_take (i := 0) (v := ?_) rfl (by kernel_rfl) (by kernel_rfl) (by kernel_rfl) (fun _ _ _ h => h) (Or.inl ⟨by kernel_rfl, ?_⟩) (by assumption) ?_
          rotate_left
          · intro w hSw; go_simp; with_reducible rfl
          try simp (maxSteps := 2000000) only [Act.put, List.getElem_toArray, List.getElem_cons_succ, List.getElem_cons_zero, List.setIfInBounds_toArray, List.set_cons_zero, List.set_cons_succ]
          refine wpAnyH_take (i := 1) (v := ?_) rfl (by kernel_rfl) (by kernel_rfl) (by kernel_rfl) (fun _ _ _ h => h) (Or.inl ⟨by kernel_rfl, ?_⟩) (by assumption) ?_
          rotate_left
          · intro w hSw; go_simp; with_reducible rfl
          try simp (maxSteps := 2000000) only [Act.put, List.getElem_toArray, List.getElem_cons_succ, List.getElem_cons_zero, List.setIfInBounds_toArray, List.set_cons_zero, List.set_cons_succ]
          refine wpAnyH_take (i := 2) (v := ?_) rfl (by kernel_rfl) (by kernel_rfl) (by kernel_rfl) (fun _ _ _ h => h) (Or.inl ⟨by kernel_rfl, ?_⟩) (by assumption) ?_
          rotate_left
          · intro w hSw; go_simp; with_reducible rfl
          try simp (maxSteps := 2000000) only [Act.put, List.getElem_toArray, List.getElem_cons_succ, List.getElem_cons_zero, List.setIfInBounds_toArray, List.set_cons_zero, List.set_cons_succ]
          refine wpAnyH_take (i := 3) (v := _) rfl (by kernel_rfl) (by kernel_rfl) (by kernel_rfl) (fun _ _ _ h => h) (yieldsIf_load_mid (by kernel_rfl) _ _ rfl _ _ rfl #[.string xp, .string xm, .nilIface].toList _ (fun W hSw => range_row (o := 0) (n := 3) ((hSw.block w2.heap.size (by simp)).trans HBX.out) rfl) Try.underlying29 rfl size29) (by assumption) ?_
          try simp (maxSteps := 2000000) only [Act.put, List.getElem_toArray, List.getElem_cons_succ, List.getElem_cons_zero, List.setIfInBounds_toArray, List.set_cons_zero, List.set_cons_succ]
          refine wpAnyH_take (i := 4) (v := _) rfl (by kernel_rfl) (by kernel_rfl) (by kernel_rfl) (fun _ _ _ h => h) (yieldsIf_load_mid (by kernel_rfl) _ _ rfl _ _ rfl #[.string xp, .string xm, .bool false, .string xep, .string xem].toList _ (fun W hSw => range_row (o := 0) (n := 5) ((hSw.block w1.heap.size (by simp; omega)).trans HDX.out) rfl) Try.underlying35 rfl size35) (by assumption) ?_
          try simp (maxSteps := 2000000) only [Act.put, List.getElem_toArray, List.getElem_cons_succ, List.getElem_cons_zero, List.setIfInBounds_toArray, List.set_cons_zero, List.set_cons_succ]
          refine wpAnyH_ready (rs := [5]) (by kernel_rfl) (by simp) ?_
          refine AllReadyH.cons rfl ?_ AllReadyH.nil
          intro K hK
          rw [if_pos (by kernel_rfl)]
          go_simp
          refine (matches_f xp xm xep xem _).mono ?_
          rintro e w3 ⟨rfl, hbc⟩
          go_wp2_with fail
          refine hK.out _ _ (hHeld.trans (hbc.mono hHeld.size)) (fun hHeld => ?_)
          clear hK K hbc
          try simp (maxSteps := 2000000) only [Act.put, List.getElem_toArray, List.getElem_cons_succ, List.getElem_cons_zero, List.setIfInBounds_toArray, List.set_cons_zero, List.set_cons_succ]
          refine wpAnyH_take (i := 6) (v := ?_) rfl (by kernel_rfl) (by kernel_rfl) (by kernel_rfl) (fun _ _ _ h => h) (Or.inl ⟨by kernel_rfl, ?_⟩) (by assumption) ?_
          rotate_left
          · intro w hSw; go_simp; with_reducible rfl
          try simp (maxSteps := 2000000) only [Act.put, List.getElem_toArray, List.getElem_cons_succ, List.getElem_cons_zero, List.setIfInBounds_toArray, List.set_cons_zero, List.set_cons_succ]
          refine wpAnyH_take (i := 7) (v := ?_) rfl (by kernel_rfl) (by kernel_rfl) (by kernel_rfl) (fun _ _ _ h => h) (Or.inl ⟨by kernel_rfl, ?_⟩) (by assumption) ?_
          rotate_left
          · intro w hSw; go_simp; with_reducible rfl
          try simp (maxSteps := 2000000) only [Act.put, List.getElem_toArray, List.getElem_cons_succ, List.getElem_cons_zero, List.setIfInBounds_toArray, List.set_cons_zero, List.set_cons_succ]
          refine wpAnyH_take (i := 8) (v := ?_) rfl (by kernel_rfl) (by kernel_rfl) (by kernel_rfl) (fun _ _ _ h => h) (Or.inl ⟨by kernel_rfl, ?_⟩) (by assumption) ?_
          rotate_left
          · intro w hSw; go_simp; with_reducible rfl
          try simp (maxSteps := 2000000) only [Act.put, List.getElem_toArray, List.getElem_cons_succ, List.getElem_cons_zero, List.setIfInBounds_toArray, List.set_cons_zero, List.set_cons_succ]
          refine wpAnyH_take (i := 9) (v := ?_) rfl (by kernel_rfl) (by kernel_rfl) (by kernel_rfl) (fun _ _ _ h => h) (Or.inl ⟨by kernel_rfl, ?_⟩) (by assumption) ?_
          rotate_left
          · intro w hSw; go_simp; with_reducible rfl
          try simp (maxSteps := 2000000) only [Act.put, List.getElem_toArray, List.getElem_cons_succ, List.getElem_cons_zero, List.setIfInBounds_toArray, List.set_cons_zero, List.set_cons_succ]
          refine wpAnyH_take (i := 10) (v := ?_) rfl (by kernel_rfl) (by kernel_rfl) (by kernel_rfl) (fun _ _ _ h => h) (Or.inl ⟨by kernel_rfl, ?_⟩) (by assumption) ?_
          rotate_left
          · intro w hSw; go_simp; with_reducible rfl
          try simp (maxSteps := 2000000) only [Act.put, List.getElem_toArray, List.getElem_cons_succ, List.getElem_cons_zero, List.setIfInBounds_toArray, List.set_cons_zero, List.set_cons_succ]
          refine wpAnyH_take (i := 11) (v := ?_) rfl (by kernel_rfl) (by kernel_rfl) (by kernel_rfl) (fun _ _ _ h => h) (Or.inl ⟨by kernel_rfl, ?_⟩) (by assumption) ?_
          rotate_left
          · intro w hSw; go_simp; rw [if_pos (by omega)]
          try simp (maxSteps := 2000000) only [Act.put, List.getElem_toArray, List.getElem_cons_succ, List.getElem_cons_zero, List.setIfInBounds_toArray, List.set_cons_zero, List.set_cons_succ]
          refine wpAnyH_take (i := 12) (v := _) rfl (by kernel_rfl) (by kernel_rfl) (by kernel_rfl) (fun _ _ _ h => h) (yieldsIf_load_mid (by kernel_rfl) _ _ rfl _ _ rfl #[.string xp, .string xm, .nilIface].toList _ (fun W hSw => range_below HRL.out (by simp; omega) hSw) Try.underlying29 rfl size29) (by assumption) ?_
          try simp (maxSteps := 2000000) only [Act.put, List.getElem_toArray, List.getElem_cons_succ, List.getElem_cons_zero, List.setIfInBounds_toArray, List.set_cons_zero, List.set_cons_succ]
          refine wpAnyH_take (i := 13) (v := _) rfl (by kernel_rfl) (by kernel_rfl) (by kernel_rfl) (fun _ _ _ h => h) (yieldsIf_load_mid (by kernel_rfl) _ _ rfl _ _ rfl #[.string xp, .string xm, .bool false, .string xep, .string xem].toList _ (fun W hSw => range_row (o := 0) (n := 5) ((hSw.block w1.heap.size (by simp; omega)).trans HDX.out) rfl) Try.underlying35 rfl size35) (by assumption) ?_
          try simp (maxSteps := 2000000) only [Act.put, List.getElem_toArray, List.getElem_cons_succ, List.getElem_cons_zero, List.setIfInBounds_toArray, List.set_cons_zero, List.set_cons_succ]
          refine wpAnyH_ready (rs := [14]) (by kernel_rfl) (by simp) ?_
          refine AllReadyH.cons rfl ?_ AllReadyH.nil
          intro K hK
          rw [if_pos (by kernel_rfl)]
          go_simp
          refine (matches_f xp xm xep xem _).mono ?_
          rintro e w4 ⟨rfl, hbc⟩
          go_wp2_with fail
          refine hK.out _ _ (hHeld.trans (hbc.mono hHeld.size)) (fun hHeld => ?_)
          clear hK K hbc
          try simp (maxSteps := 2000000) only [Act.put, List.getElem_toArray, List.getElem_cons_succ, List.getElem_cons_zero, List.setIfInBounds_toArray, List.set_cons_zero, List.set_cons_succ]
          refine wpAnyH_take (i := 15) (v := ?_) rfl (by kernel_rfl) (by kernel_rfl) (by kernel_rfl) (fun _ _ _ h => h) (Or.inl ⟨by kernel_rfl, ?_⟩) (by assumption) ?_
          rotate_left
          · intro w hSw; go_simp; with_reducible rfl
          try simp (maxSteps := 2000000) only [Act.put, List.getElem_toArray, List.getElem_cons_succ, List.getElem_cons_zero, List.setIfInBounds_toArray, List.set_cons_zero, List.set_cons_succ]
          refine wpAnyH_take (i := 16) (v := ?_) rfl (by kernel_rfl) (by kernel_rfl) (by kernel_rfl) (fun _ _ _ h => h) (Or.inl ⟨by kernel_rfl, ?_⟩) (by assumption) ?_
          rotate_left
          · intro w hSw; go_simp; with_reducible rfl
          try simp (maxSteps := 2000000) only [Act.put, List.getElem_toArray, List.getElem_cons_succ, List.getElem_cons_zero, List.setIfInBounds_toArray, List.set_cons_zero, List.set_cons_succ]
          refine wpAnyH_done (by kernel_rfl) ?_ _
          go_wp2_with fail

          have hbd : Below (w2.alloc (.cells #[.string xp, .string xm, .nilIface] 29)).heap.size (w2.alloc (.cells #[.string xp, .string xm, .nilIface] 29)) w4 := (Below.refl _ _).drew.trans hHeld
          go_roundw
          case rel => exact ⟨k + 1, by omega, by go_num, owns_below (HZ2.out.alloc _) hbd, owns_below (HL2.out.alloc _) hbd, (HW2.out.alloc _).below hbd⟩
          case measure => simp [intOf]; omega
        · simp only [fv, er, if_true, Bool.false_eq_true, if_false] at HC HR
          go_wp2_with (first
            | (refine wpList_load_row rfl 35 (.tmp 2) rfl w.heap.size rfl 35 (dv d) (0, 0) _ HW.out.box Try.underlying35 rfl size35 ?_)
            | (go_at_call 19; refine (HX.out _ (HT.out.below HW.out.bel)).mono ?_; rintro e w1 ⟨rfl, hb1⟩; have HW1 := hid (HW.out.below hb1); have HZ1 := hid (owns_below HZ.out hb1); have HL1 := hid (owns_below HL.out hb1); have HR1 := hid (range_below HR.out (owns_lt HL.out) hb1); have hcu : ∀ o, (w1.alloc o).cell? ⟨u, k, none⟩ = _ := fun o => cell?_alloc_old o ((hb1.cell (p := ⟨u, k, none⟩) (owns_lt HZ.out)).trans HC.out); clear hb1)
            | (go_at_call 11; refine (as_any _ _ _ (by first | exact .inl rfl | exact .inr ⟨_, _, rfl⟩) _).mono ?_; rintro e w2 ⟨rfl, hb2⟩; have HW2 := hid ((HW1.out.alloc _).below hb2); have HZ2 := hid (owns_below (HZ1.out.alloc _) hb2); have HL2 := hid (owns_below (HL1.out.alloc _) hb2); have hq2 := owns_lt HL2.out; have hs2 := hb2.size; simp at hs2; have HD2 := hid ((hb2.block w1.heap.size (by simp)).trans (heap_alloc_new w1 _)); have HR2 := hid (range_below (range_alloc HR1.out _) (owns_lt (HL1.out.alloc _)) hb2); clear hb2))
          have HBX := hid (heap_alloc_new w2 (.cells #[.string xp, .string xm, .iface 29 (.agg #[.string xep, .string xem, .nilIface])] 29))
          have HDX := hid (heapOld HD2.out (.cells #[.string xp, .string xm, .iface 29 (.agg #[.string xep, .string xem, .nilIface])] 29))
          have HRL := hid (range_alloc HR2.out (.cells #[.string xp, .string xm, .iface 29 (.agg #[.string xep, .string xem, .nilIface])] 29))
          have hkn := HKN.out
          refine wp_region_held_drew (S := fun W => Below (w2.alloc (.cells #[.string xp, .string xm, .iface 29 (.agg #[.string xep, .string xem, .nilIface])] 29)).drew.heap.size (w2.alloc (.cells #[.string xp, .string xm, .iface 29 (.agg #[.string xep, .string xem, .nilIface])] 29)).drew W) (by kernel_rfl) (Below.refl _ _) (fun hHeld => ?_)
          refine wpAnyH_take (i := 0) (v := ?_) rfl (by kernel_rfl) (by kernel_rfl) (by kernel_rfl) (fun _ _ _ h => h) (Or.inl ⟨by kernel_rfl, ?_⟩) (by assumption) ?_
          rotate_left
          · intro w hSw; go_simp; with_reducible rfl
          try simp (maxSteps := 2000000) only [Act.put, List.getElem_toArray, List.getElem_cons_succ, List.getElem_cons_zero, List.setIfInBounds_toArray, List.set_cons_zero, List.set_cons_succ]
          refine wpAnyH_take (i := 1) (v := ?_) rfl (by kernel_rfl) (by kernel_rfl) (by kernel_rfl) (fun _ _ _ h => h) (Or.inl ⟨by kernel_rfl, ?_⟩) (by assumption) ?_
          rotate_left
          · intro w hSw; go_simp; with_reducible rfl
          try simp (maxSteps := 2000000) only [Act.put, List.getElem_toArray, List.getElem_cons_succ, List.getElem_cons_zero, List.setIfInBounds_toArray, List.set_cons_zero, List.set_cons_succ]
          refine wpAnyH_take (i := 2) (v := ?_) rfl (by kernel_rfl) (by kernel_rfl) (by kernel_rfl) (fun _ _ _ h => h) (Or.inl ⟨by kernel_rfl, ?_⟩) (by assumption) ?_
          rotate_left
          · intro w hSw; go_simp; with_reducible rfl
          try simp (maxSteps := 2000000) only [Act.put, List.getElem_toArray, List.getElem_cons_succ, List.getElem_cons_zero, List.setIfInBounds_toArray, List.set_cons_zero, List.set_cons_succ]
          refine wpAnyH_take (i := 3) (v := _) rfl (by kernel_rfl) (by kernel_rfl) (by kernel_rfl) (fun _ _ _ h => h) (yieldsIf_load_mid (by kernel_rfl) _ _ rfl _ _ rfl #[.string xp, .string xm, .iface 29 (.agg #[.string xep, .string xem, .nilIface])].toList _ (fun W hSw => range_row (o := 0) (n := 3) ((hSw.block w2.heap.size (by simp)).trans HBX.out) rfl) Try.underlying29 rfl size29) (by assumption) ?_
          try simp (maxSteps := 2000000) only [Act.put, List.getElem_toArray, List.getElem_cons_succ, List.getElem_cons_zero, List.setIfInBounds_toArray, List.set_cons_zero, List.set_cons_succ]
          refine wpAnyH_take (i := 4) (v := _) rfl (by kernel_rfl) (by kernel_rfl) (by kernel_rfl) (fun _ _ _ h => h) (yieldsIf_load_mid (by kernel_rfl) _ _ rfl _ _ rfl #[.string xp, .string xm, .bool true, .string xep, .string xem].toList _ (fun W hSw => range_row (o := 0) (n := 5) ((hSw.block w1.heap.size (by simp; omega)).trans HDX.out) rfl) Try.underlying35 rfl size35) (by assumption) ?_
          try simp (maxSteps := 2000000) only [Act.put, List.getElem_toArray, List.getElem_cons_succ, List.getElem_cons_zero, List.setIfInBounds_toArray, List.set_cons_zero, List.set_cons_succ]
          refine wpAnyH_ready (rs := [5]) (by kernel_rfl) (by simp) ?_
          refine AllReadyH.cons rfl ?_ AllReadyH.nil
          intro K hK
          rw [if_pos (by kernel_rfl)]
          go_simp
          refine (matches_t xp xm xep xem _).mono ?_
          rintro e w3 ⟨rfl, hbc⟩
          go_wp2_with fail
          refine hK.out _ _ (hHeld.trans (hbc.mono hHeld.size)) (fun hHeld => ?_)
          clear hK K hbc
          try simp (maxSteps := 2000000) only [Act.put, List.getElem_toArray, List.getElem_cons_succ, List.getElem_cons_zero, List.setIfInBounds_toArray, List.set_cons_zero, List.set_cons_succ]
          refine wpAnyH_take (i := 6) (v := ?_) rfl (by kernel_rfl) (by kernel_rfl) (by kernel_rfl) (fun _ _ _ h => h) (Or.inl ⟨by kernel_rfl, ?_⟩) (by assumption) ?_
          rotate_left
          · intro w hSw; go_simp; with_reducible rfl
          try simp (maxSteps := 2000000) only [Act.put, List.getElem_toArray, List.getElem_cons_succ, List.getElem_cons_zero, List.setIfInBounds_toArray, List.set_cons_zero, List.set_cons_succ]
          refine wpAnyH_take (i := 7) (v := ?_) rfl (by kernel_rfl) (by kernel_rfl) (by kernel_rfl) (fun _ _ _ h => h) (Or.inl ⟨by kernel_rfl, ?_⟩) (by assumption) ?_
          rotate_left
          · intro w hSw; go_simp; with_reducible rfl
          try simp (maxSteps := 2000000) only [Act.put, List.getElem_toArray, List.getElem_cons_succ, List.getElem_cons_zero, List.setIfInBounds_toArray, List.set_cons_zero, List.set_cons_succ]
          refine wpAnyH_take (i := 8) (v := ?_) rfl (by kernel_rfl) (by kernel_rfl) (by kernel_rfl) (fun _ _ _ h => h) (Or.inl ⟨by kernel_rfl, ?_⟩) (by assumption) ?_
          rotate_left
          · intro w hSw; go_simp; with_reducible rfl
          try simp (maxSteps := 2000000) only [Act.put, List.getElem_toArray, List.getElem_cons_succ, List.getElem_cons_zero, List.setIfInBounds_toArray, List.set_cons_zero, List.set_cons_succ]
          refine wpAnyH_take (i := 9) (v := ?_) rfl (by kernel_rfl) (by kernel_rfl) (by kernel_rfl) (fun _ _ _ h => h) (Or.inl ⟨by kernel_rfl, ?_⟩) (by assumption) ?_
          rotate_left
          · intro w hSw; go_simp; with_reducible rfl
          try simp (maxSteps := 2000000) only [Act.put, List.getElem_toArray, List.getElem_cons_succ, List.getElem_cons_zero, List.setIfInBounds_toArray, List.set_cons_zero, List.set_cons_succ]
          refine wpAnyH_take (i := 10) (v := ?_) rfl (by kernel_rfl) (by kernel_rfl) (by kernel_rfl) (fun _ _ _ h => h) (Or.inl ⟨by kernel_rfl, ?_⟩) (by assumption) ?_
          rotate_left
          · intro w hSw; go_simp; with_reducible rfl
          try simp (maxSteps := 2000000) only [Act.put, List.getElem_toArray, List.getElem_cons_succ, List.getElem_cons_zero, List.setIfInBounds_toArray, List.set_cons_zero, List.set_cons_succ]
          refine wpAnyH_take (i := 11) (v := ?_) rfl (by kernel_rfl) (by kernel_rfl) (by kernel_rfl) (fun _ _ _ h => h) (Or.inl ⟨by kernel_rfl, ?_⟩) (by assumption) ?_
          rotate_left
          · intro w hSw; go_simp; rw [if_pos (by omega)]
          try simp (maxSteps := 2000000) only [Act.put, List.getElem_toArray, List.getElem_cons_succ, List.getElem_cons_zero, List.setIfInBounds_toArray, List.set_cons_zero, List.set_cons_succ]
          refine wpAnyH_take (i := 12) (v := _) rfl (by kernel_rfl) (by kernel_rfl) (by kernel_rfl) (fun _ _ _ h => h) (yieldsIf_load_mid (by kernel_rfl) _ _ rfl _ _ rfl #[.string xp, .string xm, .iface 29 (.agg #[.string xep, .string xem, .nilIface])].toList _ (fun W hSw => range_below HRL.out (by simp; omega) hSw) Try.underlying29 rfl size29) (by assumption) ?_
          try simp (maxSteps := 2000000) only [Act.put, List.getElem_toArray, List.getElem_cons_succ, List.getElem_cons_zero, List.setIfInBounds_toArray, List.set_cons_zero, List.set_cons_succ]
          refine wpAnyH_take (i := 13) (v := _) rfl (by kernel_rfl) (by kernel_rfl) (by kernel_rfl) (fun _ _ _ h => h) (yieldsIf_load_mid (by kernel_rfl) _ _ rfl _ _ rfl #[.string xp, .string xm, .bool true, .string xep, .string xem].toList _ (fun W hSw => range_row (o := 0) (n := 5) ((hSw.block w1.heap.size (by simp; omega)).trans HDX.out) rfl) Try.underlying35 rfl size35) (by assumption) ?_
          try simp (maxSteps := 2000000) only [Act.put, List.getElem_toArray, List.getElem_cons_succ, List.getElem_cons_zero, List.setIfInBounds_toArray, List.set_cons_zero, List.set_cons_succ]
          refine wpAnyH_ready (rs := [14]) (by kernel_rfl) (by simp) ?_
          refine AllReadyH.cons rfl ?_ AllReadyH.nil
          intro K hK
          rw [if_pos (by kernel_rfl)]
          go_simp
          refine (matches_t xp xm xep xem _).mono ?_
          rintro e w4 ⟨rfl, hbc⟩
          go_wp2_with fail
          refine hK.out _ _ (hHeld.trans (hbc.mono hHeld.size)) (fun hHeld => ?_)
          clear hK K hbc
          try simp (maxSteps := 2000000) only [Act.put, List.getElem_toArray, List.getElem_cons_succ, List.getElem_cons_zero, List.setIfInBounds_toArray, List.set_cons_zero, List.set_cons_succ]
          refine wpAnyH_take (i := 15) (v := ?_) rfl (by kernel_rfl) (by kernel_rfl) (by kernel_rfl) (fun _ _ _ h => h) (Or.inl ⟨by kernel_rfl, ?_⟩) (by assumption) ?_
          rotate_left
          · intro w hSw; go_simp; with_reducible rfl
          try simp (maxSteps := 2000000) only [Act.put, List.getElem_toArray, List.getElem_cons_succ, List.getElem_cons_zero, List.setIfInBounds_toArray, List.set_cons_zero, List.set_cons_succ]
          refine wpAnyH_take (i := 16) (v := ?_) rfl (by kernel_rfl) (by kernel_rfl) (by kernel_rfl) (fun _ _ _ h => h) (Or.inl ⟨by kernel_rfl, ?_⟩) (by assumption) ?_
          rotate_left
          · intro w hSw; go_simp; with_reducible rfl
          try simp (maxSteps := 2000000) only [Act.put, List.getElem_toArray, List.getElem_cons_succ, List.getElem_cons_zero, List.setIfInBounds_toArray, List.set_cons_zero, List.set_cons_succ]
          refine wpAnyH_done (by kernel_rfl) ?_ _
          go_wp2_with fail

          have hbd : Below (w2.alloc (.cells #[.string xp, .string xm, .iface 29 (.agg #[.string xep, .string xem, .nilIface])] 29)).heap.size (w2.alloc (.cells #[.string xp, .string xm, .iface 29 (.agg #[.string xep, .string xem, .nilIface])] 29)) w4 := (Below.refl _ _).drew.trans hHeld
          go_roundw
          case rel => exact ⟨k + 1, by omega, by go_num, owns_below (HZ2.out.alloc _) hbd, owns_below (HL2.out.alloc _) hbd, (HW2.out.alloc _).below hbd⟩
          case measure => simp [intOf]; omega
      · go_wp2
        go_ret
        exact ⟨rfl, HW.out.bel⟩

end Go.Proofs.Qxb6615933a
