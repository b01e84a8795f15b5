import Derived.Test.Qxb6615875aDoorC2
namespace Go.Proofs.Qxb6615875aDoor
open Go.RowKit Go.Shelf
set_option linter.unusedSimpArgs false
set_option linter.unusedVariables false
attribute [local go_sem] Oper.semAt_some

theorem keeps_below {W W' : World} (h : Below W.heap.size W W') : KeepsOthers W W' := ⟨h.size, fun k o hk _ => (h.block k (heap_lt hk)).trans hk⟩

set_option maxHeartbeats 1000000 in
theorem defs_in (F : Fence) (n : Nat) (h39 : F.fn 39) (hro : F.round = none) (rb : Nat) (w : World) :
    CallsIn F n Tryd.prog 39 #[.pointer (some ⟨rb, 0, none⟩)] w fun e w' => e = .returned (.func (.func 52) #[] #[.pointer (some ⟨w.heap.size, 0, none⟩)]) ∧ w' = w.alloc (.cells #[.pointer (some ⟨rb, 0, none⟩)] 38) := by
  refine callsIn_of_wp Tryd.func39 rfl h39 ?_ hro
  simp only [Tryd.ntmps39, List.size_toArray, List.length_cons, List.length_nil, Nat.reduceAdd, Nat.reduceSub, Array.replicate_succ, Array.replicate_zero, List.push_toArray, List.append_toArray, List.nil_append, List.cons_append]
  gi_wp2
  go_ret
  exact ⟨rfl, rfl⟩

theorem defs_stops (n : Nat) (hn : 1 ≤ n) (Bs n₀ rb s2 s1 : Nat) (w : World) (hBs : Bs < w.heap.size) (hn₀ : n₀ ≤ w.heap.size)
    (hc : w.cell? ⟨Bs, 0, none⟩ = some (.pointer (some ⟨rb, 0, none⟩))) (hr : w.cell? ⟨rb, 8, none⟩ = some (.slice (some ⟨s2, 0, none⟩) 1 1)) (h2 : w.cell? ⟨s2, 0, none⟩ = some (.slice (some ⟨s1, 0, none⟩) 1 1)) (hs2 : s2 < n₀) :
    SeqStopsK Fence.wide n Tryd.prog 52 #[.pointer (some ⟨Bs, 0, none⟩)] (fun _ : Unit => #[Value.pointer (some ⟨s1, 0, none⟩)]) (Below n₀) (fun ys => ys = [()]) (fun pre => pre = [()]) 1 w := fun l J Jx W hW _ _ hY h0 =>
  (defs1_in Fence.wide n trivial rfl hn l Bs n₀ rb s2 s1 J Jx hY W ((hW.cell (p := ⟨Bs, 0, none⟩) hBs).trans hc) ((hW.cell (p := ⟨rb, 8, none⟩) (block_lt_of_cell (a := ⟨rb, 8, none⟩) hr)).trans hr) ((hW.cell (p := ⟨s2, 0, none⟩) (Nat.lt_of_lt_of_le hs2 hn₀)).trans h2) hs2 h0).mono fun e W' h => h

/-- A packet's cells in block pb. -/
def Held (W : World) (pb : Nat) (cs : List Value) : Prop := ∀ j v, cs[j]? = some v → W.cell? ⟨pb, j, none⟩ = some v

set_option maxRecDepth 100000 in
set_option maxHeartbeats 2000000 in
theorem services_one (rb s2 s1 : Nat) (proto sh sl dh dl sp dp ty co : Int) (sz dz : Addr) (iif oif : ByteArray) (w : World) (b : Bool)
    (h8 : w.cell? ⟨rb, 8, none⟩ = some (.slice (some ⟨s2, 0, none⟩) 1 1)) (h2 : w.cell? ⟨s2, 0, none⟩ = some (.slice (some ⟨s1, 0, none⟩) 1 1))
    (K40 : ∀ W, Below w.heap.size w W → Calls Tryd.prog 40 #[.pointer (some ⟨s1, 0, none⟩), .agg (pkt proto sh sl sz dh dl dz sp dp ty co iif oif)] W fun e W' => e = .returned (.bool b) ∧ Below W.heap.size W W') :
    Calls Tryd.prog 32 #[.pointer (some ⟨rb, 0, none⟩), .agg (pkt proto sh sl sz dh dl dz sp dp ty co iif oif)] w fun e w' => e = .returned (.bool b) ∧ Below w.heap.size w w' := by
  have hlt : rb < w.heap.size := block_lt_of_cell (a := ⟨rb, 8, none⟩) h8
  have hlt2 : s2 < w.heap.size := block_lt_of_cell (a := ⟨s2, 0, none⟩) h2
  have hnil := fun w => Lib.run_eql_slice_nil (P := Tryd.prog) w 45 44 (some ⟨s2, 0, none⟩) 1 1 0 0 Tryd.underlying45
  refine (callsIn_wide (n := 3)).1 ?_
  refine callsIn_of_wp_marks Tryd.func32 rfl trivial ?_ rfl
  simp only [Tryd.ntmps32, List.size_toArray, List.length_cons, List.length_nil, Nat.reduceAdd, Nat.reduceSub, Array.replicate_succ, Array.replicate_zero, List.push_toArray, List.append_toArray, List.nil_append, List.cons_append]
  gi_wp2_with (refine ⟨trivial, ?_⟩; gi_at_call 39; refine (defs_in Fence.wide _ trivial rfl rb _).mono ?_; rintro e w' ⟨rfl, rfl⟩)
  obtain ⟨W0, hW0⟩ : ∃ W0, ((w.alloc (.cells (pkt proto sh sl sz dh dl dz sp dp ty co iif oif) 35)).alloc (.cells #[.bool false] 4)).alloc (.cells #[.pointer (some ⟨rb, 0, none⟩)] 38) = W0 := ⟨_, rfl⟩
  have hsz : W0.heap.size = w.heap.size + 3 := by rw [← hW0]; simp
  have hB0 : Below w.heap.size w W0 := by rw [← hW0]; exact (((Below.refl _ w).alloc (Nat.le_refl _) _).alloc (by simp) _).alloc (by simp; omega) _
  have hr1 : W0.heap[w.heap.size + 1]? = some (.cells #[.bool false] 4 (0, 0)) := by
    have := heap_alloc_new (w.alloc (.cells (pkt proto sh sl sz dh dl dz sp dp ty co iif oif) 35)) (.cells #[.bool false] 4)
    rw [World.size_alloc] at this
    rw [← hW0]; exact heapOld this _
  have hr2 : W0.heap[w.heap.size + 1 + 1]? = some (.cells #[.pointer (some ⟨rb, 0, none⟩)] 38 (0, 0)) := by
    have := heap_alloc_new ((w.alloc (.cells (pkt proto sh sl sz dh dl dz sp dp ty co iif oif) 35)).alloc (.cells #[.bool false] 4)) (.cells #[.pointer (some ⟨rb, 0, none⟩)] 38)
    rw [World.size_alloc, World.size_alloc] at this
    rw [← hW0]; exact this
  have hc1 : W0.cell? ⟨w.heap.size + 1, 0, none⟩ = some (.bool false) := cell_of_row W0 _ 0 _ 4 (0, 0) hr1
  have hf1 : W0.frozen? ⟨w.heap.size + 1, 0, none⟩ = false := by simp [World.frozen?, hr1]
  have hc2 : W0.cell? ⟨w.heap.size + 1 + 1, 0, none⟩ = some (.pointer (some ⟨rb, 0, none⟩)) := cell_of_row W0 _ 0 _ 38 (0, 0) hr2
  have hp0 : Held W0 w.heap.size (pkt proto sh sl sz dh dl dz sp dp ty co iif oif).toList := fun j v hj => by
    have hrow : W0.heap[w.heap.size]? = some (.cells (pkt proto sh sl sz dh dl dz sp dp ty co iif oif) 35 (0, 0)) := by rw [← hW0]; exact heapOld (heapOld (heap_alloc_new w _) _) _
    rw [cell_of_row W0 w.heap.size j _ 35 (0, 0) hrow]
    simpa using hj
  rw [hW0]
  clear hW0
  refine wpIn_rangeFunc_ownF rfl (by omega) (gf := 52) (lb := #[.pointer (some ⟨w.heap.size + 1 + 1, 0, none⟩)]) rfl trivial (enters_of Tryd.func52 (by kernel_rfl) rfl)
    (defs_stops (3 - 1) (by omega) (w.heap.size + 1 + 1) w.heap.size rb s2 s1 W0 (by omega) (by omega) hc2 ((hB0.cell (p := ⟨rb, 8, none⟩) hlt).trans h8) ((hB0.cell (p := ⟨s2, 0, none⟩) hlt2).trans h2) hlt2) belowK_t (belowK_b (by omega)) (Below.refl _ _) (fun _ => rfl)
    (fun pre W => ((pre = [] ∨ b = false) ∧ W.cell? ⟨w.heap.size + 1, 0, none⟩ = some (.bool false) ∧ W.frozen? ⟨w.heap.size + 1, 0, none⟩ = false ∧ Held W w.heap.size (pkt proto sh sl sz dh dl dz sp dp ty co iif oif).toList) ∧ Below w.heap.size w W)
    (fun c pre W => (c = .ret ∧ b = true ∧ W.cell? ⟨w.heap.size + 1, 0, none⟩ = some (.bool true)) ∧ Below w.heap.size w W)
    (OwnFrom.and (Own.from (fun s A B row hs hg hr => ⟨hs.1, cell_kept hs.2.1 hg hr, (frozen_kept hs.2.1 hg hr).trans hs.2.2.1, fun j v hj => cell_kept (hs.2.2.2 j v hj) hg hr⟩) _) (ownFrom_below (Nat.le_refl _) (by omega)))
    (fun c => OwnFrom.and (Own.from (fun s A B row hs hg hr => ⟨hs.1, hs.2.1, cell_kept hs.2.2 hg hr⟩) _) (ownFrom_below (Nat.le_refl _) (by omega)))
    ⟨⟨.inl rfl, hc1, hf1, hp0⟩, hB0⟩
    (fun _ => { tmps := #[.pointer (some ⟨rb, 0, none⟩), .agg (pkt proto sh sl sz dh dl dz sp dp ty co iif oif), undef, .pointer (some ⟨w.heap.size, 0, none⟩), .pointer (some ⟨w.heap.size + 1, 0, none⟩), .pointer (some ⟨s1, 0, none⟩), .pointer (some ⟨rb, 0, none⟩), .pointer (some ⟨rb, 0, none⟩), .pointer (some ⟨rb, 8, none⟩), .slice (some ⟨s2, 0, none⟩) 1 1, .bool false, .pointer (some ⟨rb, 0, none⟩), .func (.func 52) #[] #[.pointer (some ⟨w.heap.size + 1 + 1, 0, none⟩)], .pointer (some ⟨s1, 0, none⟩), undef, undef, undef], defers := [] }) ?assign ?body ?done ?stop
  case assign =>
    intro l x W K hK
    gi_wp2
    exact hK
  case body =>
    rintro l pre x W ⟨⟨hp, hcr, hfr, hpk⟩, hB⟩ _
    have e0 := hpk 0 _ rfl
    have e1 := hpk 1 _ rfl
    have e2 := hpk 2 _ rfl
    have e3 := hpk 3 _ rfl
    have e4 := hpk 4 _ rfl
    have e5 := hpk 5 _ rfl
    have e6 := hpk 6 _ rfl
    have e7 := hpk 7 _ rfl
    have e8 := hpk 8 _ rfl
    have e9 := hpk 9 _ rfl
    have e10 := hpk 10 _ rfl
    have e11 := hpk 11 _ rfl
    have e12 := hpk 12 _ rfl
    have hlw : w.heap.size + 1 < W.heap.size := block_lt_of_cell (a := ⟨w.heap.size + 1, 0, none⟩) hcr
    cases b
    · gi_wp2_with (refine ⟨trivial, ?_⟩; gi_at_call 40; refine (CallsIn.inRound l (callsIn_wide.2 (K40 W hB))).mono ?_; rintro e w' ⟨rfl, hb⟩)
      exact ⟨keeps_below hb, hb.mono hB.size, ⟨(hb.cell (p := ⟨w.heap.size + 1, 0, none⟩) hlw).trans hcr, (hb.frozen (p := ⟨w.heap.size + 1, 0, none⟩) hlw).trans hfr, fun j v hj => (hb.cell (p := ⟨w.heap.size, j, none⟩) (by show w.heap.size < _; omega)).trans (hpk j v hj)⟩, hB.trans (hb.mono hB.size)⟩
    · gi_wp2_with (refine ⟨trivial, ?_⟩; gi_at_call 40; refine (CallsIn.inRound l (callsIn_wide.2 (K40 W hB))).mono ?_; rintro e w' ⟨rfl, hb⟩; have hcr' := (hb.cell (p := ⟨w.heap.size + 1, 0, none⟩) hlw).trans hcr; have hfr' := (hb.frozen (p := ⟨w.heap.size + 1, 0, none⟩) hlw).trans hfr)
      exact ⟨(keeps_below hb).trans (KeepsOthers.setCell _ _ _), ⟨rfl, World.cell?_setCell_same' _ _ _ (by rw [hcr']; rfl)⟩, (hB.trans (hb.mono hB.size)).setCell (p := ⟨w.heap.size + 1, 0, none⟩) (by simp) _⟩
  case done =>
    rintro D ys W hD rfl ⟨⟨hne, hcr, hfr, _⟩, hB⟩ hK
    have hbf : b = false := hne.elim (fun h => by cases h) id
    gi_wp2
    have hK' := (KeepsOthers.setCell W ⟨w.heap.size + 1, 0, none⟩ (.bool false)).same D _ hK rfl
    refine ⟨by simp, .inl ⟨_, _, rfl, run_takeDeferred hK', ?_⟩⟩
    have hc5 := cell_kept (World.cell?_setCell_same' W ⟨w.heap.size + 1, 0, none⟩ (.bool false) (by rw [hcr]; rfl)) (grownBy_putObj' _ D (.deferred none)) (fun r e => by cases e; exact ⟨_, hK', rfl⟩)
    refine ⟨.bool false, ?_, by rw [hbf], (hB.setCell (p := ⟨w.heap.size + 1, 0, none⟩) (by simp) _).trans (belowK_b (w := w) (Nat.le_refl _) _ D _ _ (by omega) hK' rfl rfl)⟩
    simp [results, Tryd.results32, go_sem, hc5]
  case stop =>
    rintro D c pre W hD hpre ⟨⟨rfl, hin, hcr⟩, hB⟩ hK
    gi_wp2
    refine ⟨by simp, .inl ⟨_, _, rfl, run_takeDeferred hK, ?_⟩⟩
    have hc5 := cell_kept hcr (grownBy_putObj' _ D (.deferred none)) (fun r e => by cases e; exact ⟨_, hK, rfl⟩)
    refine ⟨.bool true, ?_, by rw [hin], hB.trans (belowK_b (w := w) (Nat.le_refl _) W D _ _ (by omega) hK rfl rfl)⟩
    simp [results, Tryd.results32, go_sem, hc5]
end Go.Proofs.Qxb6615875aDoor
