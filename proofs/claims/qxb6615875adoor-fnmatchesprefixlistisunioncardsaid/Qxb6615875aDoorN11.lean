import Derived.Test.Qxb6615875aDoorN10
namespace Go.Proofs.Qxb6615875aDoor
open Go.RowKit
set_option linter.unusedSimpArgs false
set_option linter.unusedVariables false
attribute [local go_sem ↓] Go.wp_at_zero Go.wp_at_succ

theorem grown_full {W : World} {B q n cap : Nat} {ps : Nat → LP} {x : LP} (ho : W.ownsRow B 55 18 (.slice (some ⟨q, 0, none⟩) (n + 1) cap) (n + 1) (rowOf ps n ++ x.v.toList)) : Lst W (some ⟨q, 0, none⟩) (n + 1) (ins ps n x) :=
  grown_lst (Nat.le_refl n) (by rw [Nat.sub_self]; simpa [rowOf] using ho)

set_option maxRecDepth 100000 in
set_option maxHeartbeats 4000000 in
theorem law5_full (proto : Int) (iif oif : ByteArray) (sis4 : Bool) (sb : Nat → UInt8) (dis4 : Bool) (db : Nat → UInt8) (ad : Addr) (n : Nat) (x : LP) (ps : Nat → LP) (p4 p6 : Addr) (w : World) (hz : Z3 w p4 p6) (h1 : iif.size ≤ 65536) (h2 : oif.size ≤ 65536) (hn : n ≤ 4096) (hl : LstA w ad n ps) :
    Calls Tryd.prog 5 #[.int .u8 proto, .string iif, .string oif, .bool sis4, .agg (cells16 sb), .bool dis4, .agg (cells16 db), (.slice (some ad) n n), .int .i64 (n : Int), .agg x.v] w fun e w' => e = .returned (.bool true) ∧ Below w.heap.size w w' := by
  have hW0s : (((w.alloc (.cells (cells16 sb) 22)).alloc (.cells (cells16 db) 22)).alloc (.cells x.v 55)).heap.size = w.heap.size + 3 := by simp
  have hT : Three w (((w.alloc (.cells (cells16 sb) 22)).alloc (.cells (cells16 db) 22)).alloc (.cells x.v 55)) (((w.alloc (.cells (cells16 sb) 22)).alloc (.cells (cells16 db) 22)).alloc (.cells x.v 55)) sb db p4 p6 := by
    refine ⟨Below.refl _ _, Nat.le_of_eq hW0s.symm, heapOld4 (heapOld4 (heap_alloc_new _ _) _) _, ?_, (((hz.alloc _).alloc _).alloc _).z⟩
    have := heap_alloc_new (w.alloc (.cells (cells16 sb) 22)) (.cells (cells16 db) 22)
    rw [World.size_alloc] at this
    exact heapOld4 this _
  have hX : (((w.alloc (.cells (cells16 sb) 22)).alloc (.cells (cells16 db) 22)).alloc (.cells x.v 55)).heap[w.heap.size + 2]? = some (.cells x.v 55 (0, 0)) := by
    have := heap_alloc_new ((w.alloc (.cells (cells16 sb) 22)).alloc (.cells (cells16 db) 22)) (.cells x.v 55)
    rw [World.size_alloc, World.size_alloc] at this
    exact this
  have hZ0 : Z3 (((w.alloc (.cells (cells16 sb) 22)).alloc (.cells (cells16 db) 22)).alloc (.cells x.v 55)) p4 p6 := ((hz.alloc _).alloc _).alloc _
  have hB0 : Below w.heap.size w (((w.alloc (.cells (cells16 sb) 22)).alloc (.cells (cells16 db) 22)).alloc (.cells x.v 55)) := (((Below.refl _ _).alloc (Nat.le_refl _) _).alloc (by simp) _).alloc (by simp; omega) _
  obtain ⟨W0, hW0⟩ : ∃ W0, (((w.alloc (.cells (cells16 sb) 22)).alloc (.cells (cells16 db) 22)).alloc (.cells x.v 55)) = W0 := ⟨_, rfl⟩
  have hd1 : decide (65536 < (iif.size : Int)) = false := decide_eq_false (by omega)
  have hd2 : decide (65536 < (oif.size : Int)) = false := decide_eq_false (by omega)
  have hd3 : decide (4096 < (n : Int)) = false := decide_eq_false (by omega)
  have hd4 : decide ((n : Int) < 0) = false := decide_eq_false (by omega)
  have hd6 : decide (n < n) = false := decide_eq_false (by omega)
  have hd5 : decide ((n : Int) < (n : Int)) = false := decide_eq_false (by omega)
  go_enter Tryd.func5, Tryd.ntmps5
  go_upto_region 1 with fail
  rw [hW0] at hW0s hT hX hZ0 hB0
  try rw [hW0]
  have HT := hid hT
  have HX := hid hX
  have HZ3 := hid hZ0
  have HZ0 := hid hZ0.z
  have HSB := hid hT.s
  have HDB := hid hT.d
  have HB0 := hid hB0
  have HL := hid (hl.below HB0.out)
  clear hl
  clear hT hX hZ0 hB0 hz hW0
  go_wp2_with (first
    | (refine wpList_load_row rfl 22 (.tmp 14) rfl w.heap.size rfl 22 (cells16 sb) (0, 0) _ HT.out.s Tryd.underlying22 rfl (size22' sb) ?_)
    | (refine wpList_load_row rfl 22 (.tmp 16) rfl (w.heap.size + 1) rfl 22 (cells16 db) (0, 0) _ HT.out.d Tryd.underlying22 rfl (size22' db) ?_)
    | (refine wpList_load_row rfl 55 (.tmp 19) rfl (w.heap.size + 2) rfl 55 x.v (0, 0) _ HX.out Tryd.underlying55 rfl sz55 ?_)
    | (go_at_call 12; refine (bytes12_any proto iif oif sis4 sb dis4 db (some ad) n n (n : Int) x _ (by unfold maxLen; omega) (by unfold maxLen; omega) (by unfold maxLen; omega)).mono ?_; rintro e w1 ⟨⟨bb, rfl⟩, hb1⟩; replace HT := hid (HT.out.below hb1); have HB1 := hid (HB0.out.trans (hb1.mono HB0.out.size)); clear hb1; cases bb))
  · go_ret
    exact ⟨rfl, HB1.out⟩
  have hu := Tryd.underlying22
  go_cut [21] from 62 to 71 (fun v wc => PktIn W0 wc v p4 p6 (pkt proto (ahi sis4 sb) (alo sis4 sb) (zp p4 p6 sis4) (ahi dis4 db) (alo dis4 db) (zp p4 p6 dis4) 0 0 0 0 iif oif))
  case first =>
    refine wp_region_held_drew (S := fun w' => w'.rangeAt w.heap.size 0 (cells16 sb).toList ∧ w'.rangeAt (w.heap.size + 1) 0 (cells16 db).toList) (by kernel_rfl) ⟨range_of HT.out.drew.s, range_of HT.out.drew.d⟩ (fun hHeld => ?_)
    refine wpAnyH_take (i := 1) (v := ?_) rfl (by kernel_rfl) (by kernel_rfl) (by kernel_rfl) (fun _ _ _ h => h) (Or.inl ⟨by kernel_rfl, ?_⟩) (by assumption) ?_
    rotate_left
    · intro w hSw; go_simp; with_reducible rfl
    try simp (maxSteps := 2000000) only [Act.put, List.getElem_toArray, List.getElem_cons_succ, List.getElem_cons_zero, List.setIfInBounds_toArray, List.set_cons_zero, List.set_cons_succ]
    refine wpAnyH_take (i := 2) (v := _) rfl (by kernel_rfl) (by kernel_rfl) (by kernel_rfl) (fun _ _ _ h => h) (yieldsIf_load_mid (by kernel_rfl) _ _ rfl _ _ rfl (cells16 sb).toList _ (fun w h => h.1) Tryd.underlying22 rfl (size22l _)) (by assumption) ?_
    try simp (maxSteps := 2000000) only [Act.put, List.getElem_toArray, List.getElem_cons_succ, List.getElem_cons_zero, List.setIfInBounds_toArray, List.set_cons_zero, List.set_cons_succ]
    refine wpAnyH_take (i := 4) (v := ?_) rfl (by kernel_rfl) (by kernel_rfl) (by kernel_rfl) (fun _ _ _ h => h) (Or.inl ⟨by kernel_rfl, ?_⟩) (by assumption) ?_
    rotate_left
    · intro w hSw; go_simp; with_reducible rfl
    try simp (maxSteps := 2000000) only [Act.put, List.getElem_toArray, List.getElem_cons_succ, List.getElem_cons_zero, List.setIfInBounds_toArray, List.set_cons_zero, List.set_cons_succ]
    refine wpAnyH_take (i := 5) (v := _) rfl (by kernel_rfl) (by kernel_rfl) (by kernel_rfl) (fun _ _ _ h => h) (yieldsIf_load_mid (by kernel_rfl) _ _ rfl _ _ rfl (cells16 db).toList _ (fun w h => h.2) Tryd.underlying22 rfl (size22l _)) (by assumption) ?_
    try simp (maxSteps := 2000000) only [Act.put, List.getElem_toArray, List.getElem_cons_succ, List.getElem_cons_zero, List.setIfInBounds_toArray, List.set_cons_zero, List.set_cons_succ]
    refine wpAnyH_take (i := 0) (v := ?_) rfl (by kernel_rfl) (by kernel_rfl) (by kernel_rfl) (fun _ _ _ h => h) (Or.inl ⟨by kernel_rfl, ?_⟩) (by assumption) ?_
    rotate_left
    · intro w hSw; go_simp; with_reducible rfl
    try simp (maxSteps := 2000000) only [Act.put, List.getElem_toArray, List.getElem_cons_succ, List.getElem_cons_zero, List.setIfInBounds_toArray, List.set_cons_zero, List.set_cons_succ]
    refine wpAnyH_take (i := 7) (v := ?_) rfl (by kernel_rfl) (by kernel_rfl) (by kernel_rfl) (fun _ _ _ h => h) (Or.inl ⟨by kernel_rfl, ?_⟩) (by assumption) ?_
    rotate_left
    · intro w hSw; go_simp; with_reducible rfl
    try simp (maxSteps := 2000000) only [Act.put, List.getElem_toArray, List.getElem_cons_succ, List.getElem_cons_zero, List.setIfInBounds_toArray, List.set_cons_zero, List.set_cons_succ]
    refine wpAnyH_take (i := 8) (v := ?_) rfl (by kernel_rfl) (by kernel_rfl) (by kernel_rfl) (fun _ _ _ h => h) (Or.inl ⟨by kernel_rfl, ?_⟩) (by assumption) ?_
    rotate_left
    · intro w hSw; go_simp; with_reducible rfl
    try simp (maxSteps := 2000000) only [Act.put, List.getElem_toArray, List.getElem_cons_succ, List.getElem_cons_zero, List.setIfInBounds_toArray, List.set_cons_zero, List.set_cons_succ]
    have HT1 := HT.out.drew
    refine wpAnyH_ready (rs := [3, 10]) (by kernel_rfl) (by simp) ?_
    refine AllReadyH.cons rfl (fun K hK => ?_) (AllReadyH.cons rfl (fun K hK => ?_) AllReadyH.nil)
    · go_simp
      refine (zzaddr_any sis4 sb p4 p6 _ HT1.z).mono ?_
      rintro e w2 ⟨rfl, hb2⟩
      go_wp2_with fail
      have HT2 := HT1.below hb2
      refine hK.out _ _ ⟨range_of HT2.s, range_of HT2.d⟩ (fun hHeld => ?_)
      clear hK K
      try simp (maxSteps := 2000000) only [Act.put, List.getElem_toArray, List.getElem_cons_succ, List.getElem_cons_zero, List.setIfInBounds_toArray, List.set_cons_zero, List.set_cons_succ]
      refine wpAnyH_ready (rs := [6, 10]) (by kernel_rfl) (by simp) ?_
      refine AllReadyH.cons rfl (fun K hK => ?_) (AllReadyH.cons rfl (fun K hK => ?_) AllReadyH.nil)
      · go_simp
        refine (zzaddr_any dis4 db p4 p6 _ HT2.z).mono ?_
        rintro e w3 ⟨rfl, hb3⟩
        go_wp2_with fail
        have HT3 := HT2.below hb3
        refine hK.out _ _ ⟨range_of HT3.s, range_of HT3.d⟩ (fun hHeld => ?_)
        clear hK K
        try simp (maxSteps := 2000000) only [Act.put, List.getElem_toArray, List.getElem_cons_succ, List.getElem_cons_zero, List.setIfInBounds_toArray, List.set_cons_zero, List.set_cons_succ]
        refine wpAnyH_take (i := 9) (v := ?_) rfl (by kernel_rfl) (by kernel_rfl) (by kernel_rfl) (fun _ _ _ h => h) (Or.inl ⟨by kernel_rfl, ?_⟩) (by assumption) ?_
        rotate_left
        · intro w hSw; go_simp; with_reducible rfl
        try simp (maxSteps := 2000000) only [Act.put, List.getElem_toArray, List.getElem_cons_succ, List.getElem_cons_zero, List.setIfInBounds_toArray, List.set_cons_zero, List.set_cons_succ]
        refine wpAnyH_ready (rs := [10]) (by kernel_rfl) (by simp) ?_
        refine AllReadyH.cons rfl ?_ AllReadyH.nil
        intro K hK
        rw [if_pos (by kernel_rfl)]
        go_simp
        have HT4 := HT3.alloc (.cells zero13 35)
        refine hK.out _ _ ⟨range_of HT4.s, range_of HT4.d⟩ (fun hHeld => ?_)
        clear hK K
        try simp (maxSteps := 2000000) only [Act.put, List.getElem_toArray, List.getElem_cons_succ, List.getElem_cons_zero, List.setIfInBounds_toArray, List.set_cons_zero, List.set_cons_succ]
        refine wpAnyH_ready (rs := [11]) (by kernel_rfl) (by simp) ?_
        refine AllReadyH.cons rfl ?_ AllReadyH.nil
        intro K hK
        rw [if_pos (by kernel_rfl)]
        go_simp
        have HT5 := HT3.alloc (.cells (pkt proto (ahi sis4 sb) (alo sis4 sb) (zp p4 p6 sis4) (ahi dis4 db) (alo dis4 db) (zp p4 p6 dis4) 0 0 0 0 iif oif) 35)
        refine hK.out _ _ ⟨range_of HT5.s, range_of HT5.d⟩ (fun hHeld => ?_)
        clear hK K
        try simp (maxSteps := 2000000) only [Act.put, List.getElem_toArray, List.getElem_cons_succ, List.getElem_cons_zero, List.setIfInBounds_toArray, List.set_cons_zero, List.set_cons_succ]
        refine wpAnyH_done (by kernel_rfl) ?_ _
        go_wp2_with fail
        go_meet
        case rel => exact pkt_alloc HZ0.out HT3.bel _
      · go_simp
        have HT3 := HT2.alloc (.cells zero13 35)
        refine hK.out _ _ ⟨range_of HT3.s, range_of HT3.d⟩ (fun hHeld => ?_)
        clear hK K
        try simp (maxSteps := 2000000) only [Act.put, List.getElem_toArray, List.getElem_cons_succ, List.getElem_cons_zero, List.setIfInBounds_toArray, List.set_cons_zero, List.set_cons_succ]
        refine wpAnyH_ready (rs := [6]) (by kernel_rfl) (by simp) ?_
        refine AllReadyH.cons rfl ?_ AllReadyH.nil
        intro K hK
        rw [if_pos (by kernel_rfl)]
        go_simp
        refine (zzaddr_any dis4 db p4 p6 _ HT3.z).mono ?_
        rintro e w3 ⟨rfl, hb3⟩
        go_wp2_with fail
        have HT4 := HT3.below hb3
        refine hK.out _ _ ⟨range_of HT4.s, range_of HT4.d⟩ (fun hHeld => ?_)
        clear hK K
        try simp (maxSteps := 2000000) only [Act.put, List.getElem_toArray, List.getElem_cons_succ, List.getElem_cons_zero, List.setIfInBounds_toArray, List.set_cons_zero, List.set_cons_succ]
        refine wpAnyH_take (i := 9) (v := ?_) rfl (by kernel_rfl) (by kernel_rfl) (by kernel_rfl) (fun _ _ _ h => h) (Or.inl ⟨by kernel_rfl, ?_⟩) (by assumption) ?_
        rotate_left
        · intro w hSw; go_simp; with_reducible rfl
        try simp (maxSteps := 2000000) only [Act.put, List.getElem_toArray, List.getElem_cons_succ, List.getElem_cons_zero, List.setIfInBounds_toArray, List.set_cons_zero, List.set_cons_succ]
        refine wpAnyH_ready (rs := [11]) (by kernel_rfl) (by simp) ?_
        refine AllReadyH.cons rfl ?_ AllReadyH.nil
        intro K hK
        rw [if_pos (by kernel_rfl)]
        have hpk : w3.heap[w2.heap.size]? = some (.cells zero13 35 (0, 0)) := (hb3.block _ (by simp)).trans (heap_alloc_new _ _)
        refine wp_store_mid _ _ _ rfl _ _ _ rfl rfl (there_row hpk (Nat.le_refl 13)) size35 (by simp [Value.oneCell']) ?_
        have hbS := below_setCells (Nat.le_trans (by omega) HT2.size) (pkt proto (ahi sis4 sb) (alo sis4 sb) (zp p4 p6 sis4) (ahi dis4 db) (alo dis4 db) (zp p4 p6 dis4) 0 0 0 0 iif oif).toList 0 HT4.bel
        refine hK.out _ _ ⟨range_keep HT4.s (by have := HT4.size; have := HT2.size; have := HT.out.size; omega), range_keep HT4.d (by have := HT4.size; have := HT2.size; have := HT.out.size; omega)⟩ (fun hHeld => ?_)
        clear hK K
        try simp (maxSteps := 2000000) only [Act.put, List.getElem_toArray, List.getElem_cons_succ, List.getElem_cons_zero, List.setIfInBounds_toArray, List.set_cons_zero, List.set_cons_succ]
        refine wpAnyH_done (by kernel_rfl) ?_ _
        go_wp2_with fail
        go_meet
        case rel => exact pkt_store HZ0.out HT4.bel w2.heap.size (Nat.le_trans (by omega) HT2.size) hpk _ _ _ _ _ _ _ _ _ _ _ _ _
    · go_simp
      have HT2 := HT1.alloc (.cells zero13 35)
      refine hK.out _ _ ⟨range_of HT2.s, range_of HT2.d⟩ (fun hHeld => ?_)
      clear hK K
      try simp (maxSteps := 2000000) only [Act.put, List.getElem_toArray, List.getElem_cons_succ, List.getElem_cons_zero, List.setIfInBounds_toArray, List.set_cons_zero, List.set_cons_succ]
      refine wpAnyH_ready (rs := [3]) (by kernel_rfl) (by simp) ?_
      refine AllReadyH.cons rfl ?_ AllReadyH.nil
      intro K hK
      rw [if_pos (by kernel_rfl)]
      go_simp
      refine (zzaddr_any sis4 sb p4 p6 _ HT2.z).mono ?_
      rintro e w2 ⟨rfl, hb2⟩
      go_wp2_with fail
      have HT3 := HT2.below hb2
      refine hK.out _ _ ⟨range_of HT3.s, range_of HT3.d⟩ (fun hHeld => ?_)
      clear hK K
      try simp (maxSteps := 2000000) only [Act.put, List.getElem_toArray, List.getElem_cons_succ, List.getElem_cons_zero, List.setIfInBounds_toArray, List.set_cons_zero, List.set_cons_succ]
      refine wpAnyH_ready (rs := [6]) (by kernel_rfl) (by simp) ?_
      refine AllReadyH.cons rfl ?_ AllReadyH.nil
      intro K hK
      rw [if_pos (by kernel_rfl)]
      go_simp
      refine (zzaddr_any dis4 db p4 p6 _ HT3.z).mono ?_
      rintro e w3 ⟨rfl, hb3⟩
      go_wp2_with fail
      have HT4 := HT3.below hb3
      refine hK.out _ _ ⟨range_of HT4.s, range_of HT4.d⟩ (fun hHeld => ?_)
      clear hK K
      try simp (maxSteps := 2000000) only [Act.put, List.getElem_toArray, List.getElem_cons_succ, List.getElem_cons_zero, List.setIfInBounds_toArray, List.set_cons_zero, List.set_cons_succ]
      refine wpAnyH_take (i := 9) (v := ?_) rfl (by kernel_rfl) (by kernel_rfl) (by kernel_rfl) (fun _ _ _ h => h) (Or.inl ⟨by kernel_rfl, ?_⟩) (by assumption) ?_
      rotate_left
      · intro w hSw; go_simp; with_reducible rfl
      try simp (maxSteps := 2000000) only [Act.put, List.getElem_toArray, List.getElem_cons_succ, List.getElem_cons_zero, List.setIfInBounds_toArray, List.set_cons_zero, List.set_cons_succ]
      refine wpAnyH_ready (rs := [11]) (by kernel_rfl) (by simp) ?_
      refine AllReadyH.cons rfl ?_ AllReadyH.nil
      intro K hK
      rw [if_pos (by kernel_rfl)]
      have hpk : w3.heap[w1.heap.size]? = some (.cells zero13 35 (0, 0)) := (hb3.block _ (Nat.lt_of_lt_of_le (by simp) hb2.size)).trans ((hb2.block _ (by simp)).trans (heap_alloc_new _ _))
      refine wp_store_mid _ _ _ rfl _ _ _ rfl rfl (there_row hpk (Nat.le_refl 13)) size35 (by simp [Value.oneCell']) ?_
      have hbS := below_setCells (Nat.le_trans (by omega) HT1.size) (pkt proto (ahi sis4 sb) (alo sis4 sb) (zp p4 p6 sis4) (ahi dis4 db) (alo dis4 db) (zp p4 p6 dis4) 0 0 0 0 iif oif).toList 0 HT4.bel
      refine hK.out _ _ ⟨range_keep HT4.s (by have := HT4.size; have := HT2.size; have := HT.out.size; omega), range_keep HT4.d (by have := HT4.size; have := HT2.size; have := HT.out.size; omega)⟩ (fun hHeld => ?_)
      clear hK K
      try simp (maxSteps := 2000000) only [Act.put, List.getElem_toArray, List.getElem_cons_succ, List.getElem_cons_zero, List.setIfInBounds_toArray, List.set_cons_zero, List.set_cons_succ]
      refine wpAnyH_done (by kernel_rfl) ?_ _
      go_wp2_with fail
      go_meet
      case rel => exact pkt_store HZ0.out HT4.bel w1.heap.size (Nat.le_trans (by omega) HT1.size) hpk _ _ _ _ _ _ _ _ _ _ _ _ _
  case rest =>
    clear HT hu HB1
    obtain ⟨pb, rfl, hpk, hpb, hzc, hbc⟩ := hcut
    have HP := hid hpk
    have HC := hid hbc
    clear hpk hzc hbc HZ0
    obtain ⟨i0, hi, hz0, hz1, hz2⟩ := info_parts info55
    have HQ := hid HC.out.size
    go_upto_region 12 with (first
      | (at_make; refine wpList_make_own _ rfl _ _ 53 rfl W0.heap.size 55 i0 _ 18 Tryd.underlying53 hi hz0 hz1 _ _ _ (n + 1) rfl rfl (by push_cast; rfl) (by rw [hz2]; omega) (by unfold maxLen; omega) HC.out.size ?_; intro w2 hown hgrow; have HO := hid hown; have HG := hid (HC.out.grown hgrow HC.out.size (by simp)); have HGP := hid ((Below.refl wc.heap.size wc).grown hgrow (Nat.le_refl _) (by simp)); clear hown hgrow)
      | (at_builtin; refine wpList_append_fits _ rfl _ _ 53 rfl W0.heap.size 55 i0 18 Tryd.underlying53 hi hz1 wc.heap.size (n + 1) (n + 1) _ rfl HO4.out ad 0 0 [] rfl rfl (fun j u h => by simp at h) (fun u h => by simp at h) (by omega) ?_; intro w5 hown hgrow; rw [Nat.add_zero, List.append_nil] at hown; have HO5 := hid hown; have HG5 := hid (grown_below HG4.out hgrow HG4.out.size HQ.out); have HGP5 := hid (grown_below HGP4.out hgrow HGP4.out.size (Nat.le_refl _)); clear hown hgrow HO4)
      | (at_builtin; refine wpList_append_fits _ rfl _ _ 53 rfl W0.heap.size 55 i0 18 Tryd.underlying53 hi hz1 wc.heap.size n (n + 1) (rowOf ps n) rfl (HO3.out.alloc _) ⟨w3.heap.size, 0, none⟩ 1 1 x.v.toList rfl rfl (new_cells w3 x.v 55) (v_one x) (by omega) ?_; intro w4 hown hgrow; have HO4 := hid hown; have HG4 := hid (grown_below (HG3.out.alloc HG3.out.size _) hgrow (by have := HG3.out.size; simp; omega) HQ.out); have HGP4 := hid (grown_below (HGP3.out.alloc HGP3.out.size _) hgrow (by have := HGP3.out.size; simp; omega) (Nat.le_refl _)); clear hown hgrow HO3)
      | (at_builtin; refine wpList_append_fits _ rfl _ _ 53 rfl W0.heap.size 55 i0 18 Tryd.underlying53 hi hz1 wc.heap.size 0 (n + 1) [] rfl HO.out ad n n (rowOf ps n) rfl (rowOf_len _ _) ((HL.out.below HG.out).row0 n (by omega)) (rowOf_one _ _) (by omega) ?_; intro w3 hown hgrow; rw [Nat.zero_add, List.nil_append] at hown; have HO3 := hid hown; have HG3 := hid (grown_below HG.out hgrow HG.out.size HQ.out); have HGP3 := hid (grown_below HGP.out hgrow HGP.out.size (Nat.le_refl _)); clear hown hgrow HO)
      | (refine wpList_load_on (by kernel_rfl) 55 (.tmp 19) rfl (w.heap.size + 2) 0 rfl [.bool x.is4, .int .u8 (x.b 0).toNat, .int .u8 (x.b 1).toNat, .int .u8 (x.b 2).toNat, .int .u8 (x.b 3).toNat, .int .u8 (x.b 4).toNat, .int .u8 (x.b 5).toNat, .int .u8 (x.b 6).toNat, .int .u8 (x.b 7).toNat, .int .u8 (x.b 8).toNat, .int .u8 (x.b 9).toNat, .int .u8 (x.b 10).toNat, .int .u8 (x.b 11).toNat, .int .u8 (x.b 12).toNat, .int .u8 (x.b 13).toNat, .int .u8 (x.b 14).toNat, .int .u8 (x.b 15).toNat, .int .i64 x.n] _ (range_row' (o := 0) (n := 18) ((HG3.out.block _ (heap_lt HX.out)).trans HX.out) rfl) Tryd.underlying55 rfl sz55 ?_))
    have HPX0 := hid ((HGP5.out.block _ (heap_lt HP.out)).trans HP.out)
    have HGL := hid (grown_full HO5.out)
    have HLL := hid (HL.out.below HG5.out)
    clear HO5 HG HG3 HG4 HGP HGP3 HGP4 HGP5 HP HC hz0 hz1 hz2 hi
    go_upto_region 14 with (first
      | (go_at_call 13; refine (zzbuild_any ⟨wc.heap.size, 0, none⟩ (n + 1) (n + 1) (ins ps n x) p4 p6 _ (HZ3.out.below HG6.out) (by omega) (HGL.out.below HB6.out)).mono ?_; rintro e w7 ⟨⟨q2, ys, rfl, ho2, hu2⟩, hb7⟩; have HR2 := hid ho2; have HU2 := hid hu2; have HR1 := hid (owns_below4 HR1'.out hb7); have HG7 := hid (HG6.out.trans (hb7.mono HG6.out.size)); have HPX := hid ((hb7.block _ (heap_lt HPX1.out)).trans HPX1.out); have HLX := hid (HLL1.out.below hb7); clear ho2 hu2 hb7)
      | (go_at_call 13; refine (zzbuild_any ad n n ps p4 p6 _ (HZ3.out.below HG5.out) (by omega) HLL.out.lst).mono ?_; rintro e w6 ⟨⟨q1, xs, rfl, ho1, hu1⟩, hb6⟩; have HR1' := hid ho1; have HU1 := hid hu1; have HB6 := hid hb6; have HG6 := hid (HG5.out.trans (hb6.mono HG5.out.size)); have HPX1 := hid ((hb6.block _ (heap_lt HPX0.out)).trans HPX0.out); have HLL1 := hid (HLL.out.below hb6); clear ho1 hu1 hb6))
    clear HGL HLL HG5 HG6 HPX0 HPX1 HLL1 HR1' HB6 HQ
    have HZ7 := hid (HZ3.out.below HG7.out)
    have HSB7 := hid ((HG7.out.block _ (heap_lt HSB.out)).trans HSB.out)
    have HDB7 := hid ((HG7.out.block _ (heap_lt HDB.out)).trans HDB.out)
    have HX7 := hid ((HG7.out.block _ (heap_lt HX.out)).trans HX.out)
    have HBW := hid (HB0.out.trans (HG7.out.mono HB0.out.size))
    clear HSB HDB HX HG7 HZ3 HB0 HL
    obtain ⟨b1, e1⟩ : ∃ b, anyH n ps sis4 sb = b := ⟨_, rfl⟩
    obtain ⟨b2, e2⟩ : ∃ b, x.holds sis4 sb = b := ⟨_, rfl⟩
    obtain ⟨d1, f1⟩ : ∃ b, anyH n ps dis4 db = b := ⟨_, rfl⟩
    obtain ⟨d2, f2⟩ : ∃ b, x.holds dis4 db = b := ⟨_, rfl⟩
    have g1 : anyH (n + 1) (ins ps n x) sis4 sb = (b2 || b1) := by rw [anyH_ins ps n n x (by omega), e1, e2]
    have g2 : anyH (n + 1) (ins ps n x) dis4 db = (d2 || d1) := by rw [anyH_ins ps n n x (by omega), f1, f2]
    have HT1 := hid (fun X (hX : Below w7.heap.size w7 X) => ask_src (.slice (some ⟨q1, 0, none⟩) n n) ⟨_, _, _, rfl⟩ proto (ahi sis4 sb) (alo sis4 sb) (ahi dis4 db) (alo dis4 db) (zp p4 p6 sis4) (zp p4 p6 dis4) iif oif X (b1) (fun W hW => e1 ▸ inprefixes_any q1 n n _ xs ps sis4 sb p4 p6 W (HZ7.out.below (hX.trans (hW.mono hX.size))) (by omega) (owns_below4 HR1.out (hX.trans (hW.mono hX.size))) HU1.out))
    have HT2 := hid (fun X (hX : Below w7.heap.size w7 X) => ask_src (.slice (some ⟨q2, 0, none⟩) (n + 1) (n + 1)) ⟨_, _, _, rfl⟩ proto (ahi sis4 sb) (alo sis4 sb) (ahi dis4 db) (alo dis4 db) (zp p4 p6 sis4) (zp p4 p6 dis4) iif oif X (b2 || b1) (fun W hW => g1 ▸ inprefixes_any q2 (n + 1) (n + 1) _ ys (ins ps n x) sis4 sb p4 p6 W (HZ7.out.below (hX.trans (hW.mono hX.size))) (by omega) (owns_below4 HR2.out (hX.trans (hW.mono hX.size))) HU2.out))
    have HT3 := hid (fun X (hX : Below w7.heap.size w7 X) => ask_dst (.slice (some ⟨q1, 0, none⟩) n n) ⟨_, _, _, rfl⟩ proto (ahi sis4 sb) (alo sis4 sb) (ahi dis4 db) (alo dis4 db) (zp p4 p6 sis4) (zp p4 p6 dis4) iif oif X (d1) (fun W hW => f1 ▸ inprefixes_any q1 n n _ xs ps dis4 db p4 p6 W (HZ7.out.below (hX.trans (hW.mono hX.size))) (by omega) (owns_below4 HR1.out (hX.trans (hW.mono hX.size))) HU1.out))
    have HT4 := hid (fun X (hX : Below w7.heap.size w7 X) => ask_dst (.slice (some ⟨q2, 0, none⟩) (n + 1) (n + 1)) ⟨_, _, _, rfl⟩ proto (ahi sis4 sb) (alo sis4 sb) (ahi dis4 db) (alo dis4 db) (zp p4 p6 sis4) (zp p4 p6 dis4) iif oif X (d2 || d1) (fun W hW => g2 ▸ inprefixes_any q2 (n + 1) (n + 1) _ ys (ins ps n x) dis4 db p4 p6 W (HZ7.out.below (hX.trans (hW.mono hX.size))) (by omega) (owns_below4 HR2.out (hX.trans (hW.mono hX.size))) HU2.out))
    have HE := hid (Below.refl w7.heap.size w7)
    have HS1 := HT1
    go_upto_region 18 with (first
      | (go_at_call 11; refine (HS4.out _ HE.out).mono ?_; rintro e v4 ⟨rfl, hb⟩; replace HE := hid (HE.out.trans (hb.mono HE.out.size)); clear hb HS4)
      | (go_at_call 11; refine (HS3.out _ HE.out).mono ?_; rintro e v3 ⟨rfl, hb⟩; replace HE := hid (HE.out.trans (hb.mono HE.out.size)); have HS4 := HT4; clear hb HS3)
      | (go_at_call 11; refine (HS2.out _ HE.out).mono ?_; rintro e v2 ⟨rfl, hb⟩; replace HE := hid (HE.out.trans (hb.mono HE.out.size)); have HS3 := HT3; clear hb HS2)
      | (go_at_call 11; refine (HS1.out _ HE.out).mono ?_; rintro e v1 ⟨rfl, hb⟩; replace HE := hid (HE.out.trans (hb.mono HE.out.size)); have HS2 := HT2; clear hb HS1)
      | (refine wpList_load_on (by kernel_rfl) 35 (.tmp 21) rfl pb 0 rfl (pkt proto (ahi sis4 sb) (alo sis4 sb) (zp p4 p6 sis4) (ahi dis4 db) (alo dis4 db) (zp p4 p6 dis4) 0 0 0 0 iif oif).toList _ (range_row' (o := 0) (n := 13) (((HE.out.alloc HE.out.size _).block _ (heap_lt HPX.out)).trans HPX.out) rfl) Tryd.underlying35 rfl size35 ?_))
    clear HT1 HT2 HT3 HT4 HR1 HR2 HU1 HU2 HZ7 HPX
    have hnn := fun w => Lib.run_eql_slice_nil (P := Tryd.prog) w 53 55 (some ad) n n 0 0 Tryd.underlying53
    have hnq : ∀ w, (binOp .neq 53 (.slice (some ad) n n) (.slice none 0 0)).run Tryd.prog w = .ok (.bool true) w := fun w => run_neq_slice_nil_any w 53 55 (some ad) n n 0 0 Tryd.underlying53
    have HA1 := hid (fun W (hW : Below w7.heap.size w7 W) => e1 ▸ zzany_any (some ad) n n ps sis4 sb W (by omega) ((HLX.out.below hW).lst))
    have HA2 := hid (fun W => e2 ▸ zzc_any x sis4 sb W)
    have HA3 := hid (fun W (hW : Below w7.heap.size w7 W) => f1 ▸ zzany_any (some ad) n n ps dis4 db W (by omega) ((HLX.out.below hW).lst))
    have HA4 := hid (fun W => f2 ▸ zzc_any x dis4 db W)
    have HC1 := HA1
    clear e1 e2 f1 f2 g1 g2
    cases b2 <;> cases d2
    all_goals
      go_wp2_with (first
        | (go_at_call 15; refine (HC4.out _).mono ?_; rintro e z4 ⟨rfl, hb⟩; replace HE := hid (HE.out.trans (hb.mono HE.out.size)); clear hb HC4)
        | (go_at_call 14; refine (HC3.out _ HE.out).mono ?_; rintro e z3 ⟨rfl, hb⟩; replace HE := hid (HE.out.trans (hb.mono HE.out.size)); have HC4 := HA4; clear hb HC3)
        | (go_at_call 15; refine (HC2.out _).mono ?_; rintro e z2 ⟨rfl, hb⟩; replace HE := hid (HE.out.trans (hb.mono HE.out.size)); have HC3 := HA3; clear hb HC2)
        | (go_at_call 14; refine (HC1.out _ HE.out).mono ?_; rintro e z1 ⟨rfl, hb⟩; replace HE := hid (HE.out.trans (hb.mono HE.out.size)); have HC2 := HA2; clear hb HC1)
        | (refine wpList_load_on (by kernel_rfl) 22 (.tmp 14) rfl w.heap.size 0 rfl (cells16 sb).toList _ (range_row' (o := 0) (n := 16) ((HE.out.block _ (heap_lt HSB7.out)).trans HSB7.out) rfl) Tryd.underlying22 rfl sz22 ?_)
        | (refine wpList_load_on (by kernel_rfl) 22 (.tmp 16) rfl (w.heap.size + 1) 0 rfl (cells16 db).toList _ (range_row' (o := 0) (n := 16) ((HE.out.block _ (heap_lt HDB7.out)).trans HDB7.out) rfl) Tryd.underlying22 rfl sz22 ?_)
        | (refine wpList_load_on (by kernel_rfl) 55 (.tmp 19) rfl (w.heap.size + 2) 0 rfl x.v.toList _ (range_row' (o := 0) (n := 18) ((HE.out.block _ (heap_lt HX7.out)).trans HX7.out) rfl) Tryd.underlying55 rfl sz55 ?_))
      go_ret
      exact ⟨rfl, HBW.out.trans (HE.out.mono HBW.out.size)⟩

end Go.Proofs.Qxb6615875aDoor
