import Derived.Test.Qxb6615875aDoorC3
namespace Go.Proofs.Qxb6615875aDoor
open Go.RowKit
set_option linter.unusedSimpArgs false
set_option linter.unusedVariables false
attribute [local go_sem ↓] Go.wp_at_zero Go.wp_at_succ

set_option maxHeartbeats 1000000 in
theorem bytes10_in (proto svc : Int) (is4 : Bool) (sb db : Nat → UInt8) (sp dp ty co : Int) (iif oif : ByteArray) (w : World) (h1 : iif.size ≤ 65536) (h2 : oif.size ≤ 65536) :
    Calls Tryd.prog 10 #[.int .u8 proto, .int .u8 svc, .bool is4, .agg (cells16 sb), .agg (cells16 db), .int .u16 sp, .int .u16 dp, .int .u8 ty, .int .u8 co, .string iif, .string oif] w fun e w' => e = .returned (.bool true) ∧ Below w.heap.size w w' := by
  unfold cells16
  go_enter Tryd.func10, Tryd.ntmps10
  go_wp2
  go_ret
  exact ⟨rfl, ((Below.refl _ _).alloc (Nat.le_refl _) _).alloc (by simp) _⟩
set_option maxHeartbeats 1000000 in
theorem bytes10_out (proto svc : Int) (is4 : Bool) (sb db : Nat → UInt8) (sp dp ty co : Int) (iif oif : ByteArray) (w : World) (h1 : iif.size ≤ maxLen) (h2 : oif.size ≤ maxLen) :
    Calls Tryd.prog 10 #[.int .u8 proto, .int .u8 svc, .bool is4, .agg (cells16 sb), .agg (cells16 db), .int .u16 sp, .int .u16 dp, .int .u8 ty, .int .u8 co, .string iif, .string oif] w fun e w' => ∃ b, e = .returned (.bool b) ∧ Below w.heap.size w w' := by
  unfold maxLen at h1 h2
  unfold cells16
  by_cases g18 : 1048576 < iif.size
  · go_enter Tryd.func10, Tryd.ntmps10
    go_wp2
    go_ret
    exact ⟨_, rfl, ((Below.refl _ _).alloc (Nat.le_refl _) _).alloc (by simp) _⟩
  by_cases g18 : 1048576 < oif.size
  · go_enter Tryd.func10, Tryd.ntmps10
    go_wp2
    go_ret
    exact ⟨_, rfl, ((Below.refl _ _).alloc (Nat.le_refl _) _).alloc (by simp) _⟩
  by_cases g29 : 1048576 < iif.size + oif.size
  · go_enter Tryd.func10, Tryd.ntmps10
    go_wp2
    go_ret
    exact ⟨_, rfl, ((Below.refl _ _).alloc (Nat.le_refl _) _).alloc (by simp) _⟩
  go_enter Tryd.func10, Tryd.ntmps10
  go_wp2
  go_ret
  exact ⟨_, rfl, ((Below.refl _ _).alloc (Nat.le_refl _) _).alloc (by simp) _⟩

/-- The rule of one service: what it answers is what the definition answers. -/
theorem ask_svc (svc : Int) (proto sh sl dh dl sp dp ty co : Int) (sz dz : Addr) (iif oif : ByteArray) (X : World) (b : Bool)
    (K40 : ∀ W, Below X.heap.size X W → W.heap[X.heap.size]? = some (.cells (dfV svc) 42 (0, 0)) → Calls Tryd.prog 40 #[.pointer (some ⟨X.heap.size, 0, none⟩), .agg (pkt proto sh sl sz dh dl dz sp dp ty co iif oif)] W fun e W' => e = .returned (.bool b) ∧ Below W.heap.size W W') :
    Calls Tryd.prog 11 #[.pointer (some ⟨X.heap.size + 1 + 1, 0, none⟩), .agg (pkt proto sh sl sz dh dl dz sp dp ty co iif oif)] (((X.alloc (.cells (dfV svc) 42)).alloc (.cells #[.slice (some ⟨X.heap.size, 0, none⟩) 1 1] 44)).alloc (.cells (ruleV (.slice none 0 0) (.slice none 0 0) (.slice none 0 0) (.slice none 0 0) (.slice (some ⟨X.heap.size + 1, 0, none⟩) 1 1)) 51)) fun e w' => e = .returned (.bool b) ∧ Below X.heap.size X w' := by
  have hbX : Below X.heap.size X (((X.alloc (.cells (dfV svc) 42)).alloc (.cells #[.slice (some ⟨X.heap.size, 0, none⟩) 1 1] 44)).alloc (.cells (ruleV (.slice none 0 0) (.slice none 0 0) (.slice none 0 0) (.slice none 0 0) (.slice (some ⟨X.heap.size + 1, 0, none⟩) 1 1)) 51)) := (((Below.refl _ _).alloc (Nat.le_refl _) _).alloc (by simp) _).alloc (by simp; omega) _
  have hd := heapOld (heapOld (heap_alloc_new X (.cells (dfV svc) 42)) (.cells #[.slice (some ⟨X.heap.size, 0, none⟩) 1 1] 44)) (.cells (ruleV (.slice none 0 0) (.slice none 0 0) (.slice none 0 0) (.slice none 0 0) (.slice (some ⟨X.heap.size + 1, 0, none⟩) 1 1)) 51)
  have hs := heap_alloc_new (X.alloc (.cells (dfV svc) 42)) (.cells #[.slice (some ⟨X.heap.size, 0, none⟩) 1 1] 44)
  rw [World.size_alloc] at hs
  have hs := heapOld hs (.cells (ruleV (.slice none 0 0) (.slice none 0 0) (.slice none 0 0) (.slice none 0 0) (.slice (some ⟨X.heap.size + 1, 0, none⟩) 1 1)) 51)
  have hr := heap_alloc_new ((X.alloc (.cells (dfV svc) 42)).alloc (.cells #[.slice (some ⟨X.heap.size, 0, none⟩) 1 1] 44)) (.cells (ruleV (.slice none 0 0) (.slice none 0 0) (.slice none 0 0) (.slice none 0 0) (.slice (some ⟨X.heap.size + 1, 0, none⟩) 1 1)) 51)
  rw [World.size_alloc, World.size_alloc] at hr
  generalize (((X.alloc (.cells (dfV svc) 42)).alloc (.cells #[.slice (some ⟨X.heap.size, 0, none⟩) 1 1] 44)).alloc (.cells (ruleV (.slice none 0 0) (.slice none 0 0) (.slice none 0 0) (.slice none 0 0) (.slice (some ⟨X.heap.size + 1, 0, none⟩) 1 1)) 51)) = Y at hbX hd hs hr ⊢
  refine (zz_rule (X.heap.size + 1 + 1) _ _ _ _ _ ⟨_, _, _, rfl⟩ ⟨_, _, _, rfl⟩ ⟨_, _, _, rfl⟩ ⟨_, _, _, rfl⟩ proto sh sl dh dl sp dp ty co sz dz iif oif Y hr true true true true b
    (fun W _ => zones_nil _ _ _ _ _ W) (fun W _ => zones_nil _ _ _ _ _ W) (fun W _ => prefixes_nil _ _ _ W) (fun W _ => prefixes_nil _ _ _ W)
    (fun W hW => services_one (X.heap.size + 1 + 1) (X.heap.size + 1) X.heap.size proto sh sl dh dl sp dp ty co sz dz iif oif W b
      (by rw [cell_of_row W _ 8 _ 51 (0, 0) ((hW.block _ (heap_lt hr)).trans hr)]; rfl)
      (by rw [cell_of_row W _ 0 _ 44 (0, 0) ((hW.block _ (heap_lt hs)).trans hs)]; rfl)
      (fun V hV => K40 V (hbX.trans ((hW.trans (hV.mono hW.size)).mono hbX.size)) ((hV.block _ (Nat.lt_of_lt_of_le (heap_lt hd) hW.size)).trans ((hW.block _ (heap_lt hd)).trans hd))))).mono ?_
  rintro e w' ⟨rfl, hb⟩
  exact ⟨by simp, hbX.trans (hb.mono hbX.size)⟩

/-- Does a service of protocol svc alone cover the packet? -/
theorem covers_svc (db : Nat) (svc : Int) (is4 : Bool) (proto sh sl dh dl sp dp ty co : Int) (dz : Addr) (iif oif : ByteArray) (p4 p6 : Addr) (w : World) (hz : Zs w p4 p6) (h : w.heap[db]? = some (.cells (dfV svc) 42 (0, 0))) :
    Calls Tryd.prog 40 #[.pointer (some ⟨db, 0, none⟩), .agg (pkt proto sh sl (zp p4 p6 is4) dh dl dz sp dp ty co iif oif)] w fun e w' => e = .returned (.bool ((proto == svc) && (!((svc == 1) || (svc == 58)) || icmp is4 proto))) ∧ Below w.heap.size w w' := by
  by_cases hp : proto = svc
  · subst hp
    by_cases h1 : proto = 1
    · subst h1
      cases is4
      · exact df_icmp4_off db false 1 sh sl dh dl sp dp ty co dz iif oif p4 p6 w hz rfl rfl h
      · exact df_icmp4_on db true 1 sh sl dh dl sp dp ty co dz iif oif p4 p6 w hz rfl rfl h
    by_cases h2 : proto = 58
    · subst h2
      cases is4
      · exact df_icmp6_on db false 58 sh sl dh dl sp dp ty co dz iif oif p4 p6 w hz rfl rfl h
      · exact df_icmp6_off db true 58 sh sl dh dl sp dp ty co dz iif oif p4 p6 w hz rfl rfl h
    have b1 : (proto == 1) = false := by simpa using h1
    have b2 : (proto == 58) = false := by simpa using h2
    rw [b1, b2]
    have e : ((proto == proto) && (!(false || false) || icmp is4 proto)) = true := by simp
    rw [e]
    exact df_plain db is4 proto sh sl dh dl sp dp ty co dz iif oif p4 p6 w hz b1 b2 h
  · have e : (proto == svc) = false := by simpa using hp
    have e2 : (svc != proto) = true := by simpa using fun h => hp h.symm
    rw [e, Bool.false_and]
    exact df_other db is4 proto sh sl dh dl sp dp ty co dz iif oif p4 p6 w hz svc e2 h

set_option maxRecDepth 100000 in
set_option maxHeartbeats 4000000 in
theorem law4_in (proto svc : Int) (is4 : Bool) (sb db : Nat → UInt8) (sp dp ty co : Int) (iif oif : ByteArray) (p4 p6 : Addr) (w : World) (hz : Zs w p4 p6) (h1 : iif.size ≤ 65536) (h2 : oif.size ≤ 65536) :
    Calls Tryd.prog 4 #[.int .u8 proto, .int .u8 svc, .bool is4, .agg (cells16 sb), .agg (cells16 db), .int .u16 sp, .int .u16 dp, .int .u8 ty, .int .u8 co, .string iif, .string oif] w fun e w' => e = .returned (.bool true) ∧ Below w.heap.size w w' := by
  have H0 := hid (two_new w sb db p4 p6 hz)
  have HZ := hid hz
  clear hz
  go_enter Tryd.func4, Tryd.ntmps4
  go_wp2_with (first
    | (refine wpList_load_row rfl 22 (.tmp 14) rfl w.heap.size rfl 22 (cells16 sb) (0, 0) _ H0.out.s Tryd.underlying22 rfl (size22' sb) ?_)
    | (refine wpList_load_row rfl 22 (.tmp 15) rfl (w.heap.size + 1) rfl 22 (cells16 db) (0, 0) _ H0.out.d Tryd.underlying22 rfl (size22' db) ?_)
    | (go_at_call 10; refine (bytes10_in proto svc is4 sb db sp dp ty co iif oif _ h1 h2).mono ?_; rintro e w1 ⟨rfl, hb1⟩; have HT := hid (H0.out.below hb1); clear hb1 H0))
  have hu := Tryd.underlying22
  have his := size22l sb
  have hid' := size22l db
  go_cut [23] from 49 to 62 (fun v wc => PktIn w wc v p4 p6 (pkt proto (ahi is4 sb) (alo is4 sb) (zp p4 p6 is4) (ahi is4 db) (alo is4 db) (zp p4 p6 is4) sp dp ty co iif oif))
  case first =>
    refine wp_region_held_drew (S := fun w' => w'.rangeAt w.heap.size 0 (cells16 sb).toList ∧ w'.rangeAt (w.heap.size + 1) 0 (cells16 db).toList) (by kernel_rfl) ⟨range_of HT.out.drew.s, range_of HT.out.drew.d⟩ (fun hHeld => ?_)
    refine wpAnyH_take (i := 1) (v := ?_) rfl (by kernel_rfl) (by kernel_rfl) (by kernel_rfl) (fun _ _ _ h => h) (Or.inl ⟨by kernel_rfl, ?_⟩) (by assumption) ?_
    rotate_left
    · intro w hSw; go_simp; with_reducible rfl
    try simp (maxSteps := 2000000) only [Act.put, List.getElem_toArray, List.getElem_cons_succ, List.getElem_cons_zero, List.setIfInBounds_toArray, List.set_cons_zero, List.set_cons_succ]
    refine wpAnyH_take (i := 2) (v := _) rfl (by kernel_rfl) (by kernel_rfl) (by kernel_rfl) (fun _ _ _ h => h) (yieldsIf_load_mid (by kernel_rfl) _ _ rfl _ _ rfl (cells16 sb).toList _ (fun w h => h.1) Tryd.underlying22 rfl (size22l _)) (by assumption) ?_
    try simp (maxSteps := 2000000) only [Act.put, List.getElem_toArray, List.getElem_cons_succ, List.getElem_cons_zero, List.setIfInBounds_toArray, List.set_cons_zero, List.set_cons_succ]
    refine wpAnyH_take (i := 4) (v := ?_) rfl (by kernel_rfl) (by kernel_rfl) (by kernel_rfl) (fun _ _ _ h => h) (Or.inl ⟨by kernel_rfl, ?_⟩) (by assumption) ?_
    rotate_left
    · intro w hSw; go_simp; with_reducible rfl
    try simp (maxSteps := 2000000) only [Act.put, List.getElem_toArray, List.getElem_cons_succ, List.getElem_cons_zero, List.setIfInBounds_toArray, List.set_cons_zero, List.set_cons_succ]
    refine wpAnyH_take (i := 5) (v := _) rfl (by kernel_rfl) (by kernel_rfl) (by kernel_rfl) (fun _ _ _ h => h) (yieldsIf_load_mid (by kernel_rfl) _ _ rfl _ _ rfl (cells16 db).toList _ (fun w h => h.2) Tryd.underlying22 rfl (size22l _)) (by assumption) ?_
    try simp (maxSteps := 2000000) only [Act.put, List.getElem_toArray, List.getElem_cons_succ, List.getElem_cons_zero, List.setIfInBounds_toArray, List.set_cons_zero, List.set_cons_succ]
    refine wpAnyH_take (i := 0) (v := ?_) rfl (by kernel_rfl) (by kernel_rfl) (by kernel_rfl) (fun _ _ _ h => h) (Or.inl ⟨by kernel_rfl, ?_⟩) (by assumption) ?_
    rotate_left
    · intro w hSw; go_simp; with_reducible rfl
    try simp (maxSteps := 2000000) only [Act.put, List.getElem_toArray, List.getElem_cons_succ, List.getElem_cons_zero, List.setIfInBounds_toArray, List.set_cons_zero, List.set_cons_succ]
    refine wpAnyH_take (i := 7) (v := ?_) rfl (by kernel_rfl) (by kernel_rfl) (by kernel_rfl) (fun _ _ _ h => h) (Or.inl ⟨by kernel_rfl, ?_⟩) (by assumption) ?_
    rotate_left
    · intro w hSw; go_simp; with_reducible rfl
    try simp (maxSteps := 2000000) only [Act.put, List.getElem_toArray, List.getElem_cons_succ, List.getElem_cons_zero, List.setIfInBounds_toArray, List.set_cons_zero, List.set_cons_succ]
    refine wpAnyH_take (i := 8) (v := ?_) rfl (by kernel_rfl) (by kernel_rfl) (by kernel_rfl) (fun _ _ _ h => h) (Or.inl ⟨by kernel_rfl, ?_⟩) (by assumption) ?_
    rotate_left
    · intro w hSw; go_simp; with_reducible rfl
    try simp (maxSteps := 2000000) only [Act.put, List.getElem_toArray, List.getElem_cons_succ, List.getElem_cons_zero, List.setIfInBounds_toArray, List.set_cons_zero, List.set_cons_succ]
    refine wpAnyH_take (i := 9) (v := ?_) rfl (by kernel_rfl) (by kernel_rfl) (by kernel_rfl) (fun _ _ _ h => h) (Or.inl ⟨by kernel_rfl, ?_⟩) (by assumption) ?_
    rotate_left
    · intro w hSw; go_simp; with_reducible rfl
    try simp (maxSteps := 2000000) only [Act.put, List.getElem_toArray, List.getElem_cons_succ, List.getElem_cons_zero, List.setIfInBounds_toArray, List.set_cons_zero, List.set_cons_succ]
    refine wpAnyH_take (i := 10) (v := ?_) rfl (by kernel_rfl) (by kernel_rfl) (by kernel_rfl) (fun _ _ _ h => h) (Or.inl ⟨by kernel_rfl, ?_⟩) (by assumption) ?_
    rotate_left
    · intro w hSw; go_simp; with_reducible rfl
    try simp (maxSteps := 2000000) only [Act.put, List.getElem_toArray, List.getElem_cons_succ, List.getElem_cons_zero, List.setIfInBounds_toArray, List.set_cons_zero, List.set_cons_succ]
    refine wpAnyH_take (i := 11) (v := ?_) rfl (by kernel_rfl) (by kernel_rfl) (by kernel_rfl) (fun _ _ _ h => h) (Or.inl ⟨by kernel_rfl, ?_⟩) (by assumption) ?_
    rotate_left
    · intro w hSw; go_simp; with_reducible rfl
    try simp (maxSteps := 2000000) only [Act.put, List.getElem_toArray, List.getElem_cons_succ, List.getElem_cons_zero, List.setIfInBounds_toArray, List.set_cons_zero, List.set_cons_succ]
    refine wpAnyH_take (i := 12) (v := ?_) rfl (by kernel_rfl) (by kernel_rfl) (by kernel_rfl) (fun _ _ _ h => h) (Or.inl ⟨by kernel_rfl, ?_⟩) (by assumption) ?_
    rotate_left
    · intro w hSw; go_simp; with_reducible rfl
    try simp (maxSteps := 2000000) only [Act.put, List.getElem_toArray, List.getElem_cons_succ, List.getElem_cons_zero, List.setIfInBounds_toArray, List.set_cons_zero, List.set_cons_succ]
    have HT1 := HT.out.drew
    refine wpAnyH_ready (rs := [3, 14]) (by kernel_rfl) (by simp) ?_
    refine AllReadyH.cons rfl (fun K hK => ?_) (AllReadyH.cons rfl (fun K hK => ?_) AllReadyH.nil)
    · go_simp
      refine (zzaddr_any is4 sb p4 p6 _ HT1.z).mono ?_
      rintro e w2 ⟨rfl, hb2⟩
      go_wp2_with fail
      have HT2 := HT1.below hb2
      refine hK.out _ _ ⟨range_of HT2.s, range_of HT2.d⟩ (fun hHeld => ?_)
      clear hK K
      try simp (maxSteps := 2000000) only [Act.put, List.getElem_toArray, List.getElem_cons_succ, List.getElem_cons_zero, List.setIfInBounds_toArray, List.set_cons_zero, List.set_cons_succ]
      refine wpAnyH_ready (rs := [6, 14]) (by kernel_rfl) (by simp) ?_
      refine AllReadyH.cons rfl (fun K hK => ?_) (AllReadyH.cons rfl (fun K hK => ?_) AllReadyH.nil)
      · go_simp
        refine (zzaddr_any is4 db p4 p6 _ HT2.z).mono ?_
        rintro e w3 ⟨rfl, hb3⟩
        go_wp2_with fail
        have HT3 := HT2.below hb3
        refine hK.out _ _ ⟨range_of HT3.s, range_of HT3.d⟩ (fun hHeld => ?_)
        clear hK K
        try simp (maxSteps := 2000000) only [Act.put, List.getElem_toArray, List.getElem_cons_succ, List.getElem_cons_zero, List.setIfInBounds_toArray, List.set_cons_zero, List.set_cons_succ]
        refine wpAnyH_take (i := 13) (v := ?_) rfl (by kernel_rfl) (by kernel_rfl) (by kernel_rfl) (fun _ _ _ h => h) (Or.inl ⟨by kernel_rfl, ?_⟩) (by assumption) ?_
        rotate_left
        · intro w hSw; go_simp; with_reducible rfl
        try simp (maxSteps := 2000000) only [Act.put, List.getElem_toArray, List.getElem_cons_succ, List.getElem_cons_zero, List.setIfInBounds_toArray, List.set_cons_zero, List.set_cons_succ]
        refine wpAnyH_ready (rs := [14]) (by kernel_rfl) (by simp) ?_
        refine AllReadyH.cons rfl ?_ AllReadyH.nil
        intro K hK
        rw [if_pos (by kernel_rfl)]
        go_simp
        have HT4 := HT3.alloc (.cells zero13 35)
        refine hK.out _ _ ⟨range_of HT4.s, range_of HT4.d⟩ (fun hHeld => ?_)
        clear hK K
        try simp (maxSteps := 2000000) only [Act.put, List.getElem_toArray, List.getElem_cons_succ, List.getElem_cons_zero, List.setIfInBounds_toArray, List.set_cons_zero, List.set_cons_succ]
        refine wpAnyH_ready (rs := [15]) (by kernel_rfl) (by simp) ?_
        refine AllReadyH.cons rfl ?_ AllReadyH.nil
        intro K hK
        rw [if_pos (by kernel_rfl)]
        go_simp
        have HT5 := HT3.alloc (.cells (pkt proto (ahi is4 sb) (alo is4 sb) (zp p4 p6 is4) (ahi is4 db) (alo is4 db) (zp p4 p6 is4) sp dp ty co iif oif) 35)
        refine hK.out _ _ ⟨range_of HT5.s, range_of HT5.d⟩ (fun hHeld => ?_)
        clear hK K
        try simp (maxSteps := 2000000) only [Act.put, List.getElem_toArray, List.getElem_cons_succ, List.getElem_cons_zero, List.setIfInBounds_toArray, List.set_cons_zero, List.set_cons_succ]
        refine wpAnyH_done (by kernel_rfl) ?_ _
        go_wp2_with fail
        go_meet
        case rel => exact pkt_alloc HZ.out HT3.bel _
      · go_simp
        have HT3 := HT2.alloc (.cells zero13 35)
        refine hK.out _ _ ⟨range_of HT3.s, range_of HT3.d⟩ (fun hHeld => ?_)
        clear hK K
        try simp (maxSteps := 2000000) only [Act.put, List.getElem_toArray, List.getElem_cons_succ, List.getElem_cons_zero, List.setIfInBounds_toArray, List.set_cons_zero, List.set_cons_succ]
        refine wpAnyH_ready (rs := [6]) (by kernel_rfl) (by simp) ?_
        refine AllReadyH.cons rfl ?_ AllReadyH.nil
        intro K hK
        rw [if_pos (by kernel_rfl)]
        go_simp
        refine (zzaddr_any is4 db p4 p6 _ HT3.z).mono ?_
        rintro e w3 ⟨rfl, hb3⟩
        go_wp2_with fail
        have HT4 := HT3.below hb3
        refine hK.out _ _ ⟨range_of HT4.s, range_of HT4.d⟩ (fun hHeld => ?_)
        clear hK K
        try simp (maxSteps := 2000000) only [Act.put, List.getElem_toArray, List.getElem_cons_succ, List.getElem_cons_zero, List.setIfInBounds_toArray, List.set_cons_zero, List.set_cons_succ]
        refine wpAnyH_take (i := 13) (v := ?_) rfl (by kernel_rfl) (by kernel_rfl) (by kernel_rfl) (fun _ _ _ h => h) (Or.inl ⟨by kernel_rfl, ?_⟩) (by assumption) ?_
        rotate_left
        · intro w hSw; go_simp; with_reducible rfl
        try simp (maxSteps := 2000000) only [Act.put, List.getElem_toArray, List.getElem_cons_succ, List.getElem_cons_zero, List.setIfInBounds_toArray, List.set_cons_zero, List.set_cons_succ]
        refine wpAnyH_ready (rs := [15]) (by kernel_rfl) (by simp) ?_
        refine AllReadyH.cons rfl ?_ AllReadyH.nil
        intro K hK
        rw [if_pos (by kernel_rfl)]
        have hpk : w3.heap[w2.heap.size]? = some (.cells zero13 35 (0, 0)) := (hb3.block _ (by simp)).trans (heap_alloc_new _ _)
        refine wp_store_mid _ _ _ rfl _ _ _ rfl rfl (there_row hpk (Nat.le_refl 13)) size35 (by simp [Value.oneCell']) ?_
        have hbS := below_setCells (Nat.le_trans (by omega) HT2.size) (pkt proto (ahi is4 sb) (alo is4 sb) (zp p4 p6 is4) (ahi is4 db) (alo is4 db) (zp p4 p6 is4) sp dp ty co iif oif).toList 0 HT4.bel
        refine hK.out _ _ ⟨range_keep HT4.s (by have := HT4.size; have := HT2.size; have := HT.out.size; omega), range_keep HT4.d (by have := HT4.size; have := HT2.size; have := HT.out.size; omega)⟩ (fun hHeld => ?_)
        clear hK K
        try simp (maxSteps := 2000000) only [Act.put, List.getElem_toArray, List.getElem_cons_succ, List.getElem_cons_zero, List.setIfInBounds_toArray, List.set_cons_zero, List.set_cons_succ]
        refine wpAnyH_done (by kernel_rfl) ?_ _
        go_wp2_with fail
        go_meet
        case rel => exact pkt_store HZ.out HT4.bel w2.heap.size (Nat.le_trans (by omega) HT2.size) hpk _ _ _ _ _ _ _ _ _ _ _ _ _
    · go_simp
      have HT2 := HT1.alloc (.cells zero13 35)
      refine hK.out _ _ ⟨range_of HT2.s, range_of HT2.d⟩ (fun hHeld => ?_)
      clear hK K
      try simp (maxSteps := 2000000) only [Act.put, List.getElem_toArray, List.getElem_cons_succ, List.getElem_cons_zero, List.setIfInBounds_toArray, List.set_cons_zero, List.set_cons_succ]
      refine wpAnyH_ready (rs := [3]) (by kernel_rfl) (by simp) ?_
      refine AllReadyH.cons rfl ?_ AllReadyH.nil
      intro K hK
      rw [if_pos (by kernel_rfl)]
      go_simp
      refine (zzaddr_any is4 sb p4 p6 _ HT2.z).mono ?_
      rintro e w2 ⟨rfl, hb2⟩
      go_wp2_with fail
      have HT3 := HT2.below hb2
      refine hK.out _ _ ⟨range_of HT3.s, range_of HT3.d⟩ (fun hHeld => ?_)
      clear hK K
      try simp (maxSteps := 2000000) only [Act.put, List.getElem_toArray, List.getElem_cons_succ, List.getElem_cons_zero, List.setIfInBounds_toArray, List.set_cons_zero, List.set_cons_succ]
      refine wpAnyH_ready (rs := [6]) (by kernel_rfl) (by simp) ?_
      refine AllReadyH.cons rfl ?_ AllReadyH.nil
      intro K hK
      rw [if_pos (by kernel_rfl)]
      go_simp
      refine (zzaddr_any is4 db p4 p6 _ HT3.z).mono ?_
      rintro e w3 ⟨rfl, hb3⟩
      go_wp2_with fail
      have HT4 := HT3.below hb3
      refine hK.out _ _ ⟨range_of HT4.s, range_of HT4.d⟩ (fun hHeld => ?_)
      clear hK K
      try simp (maxSteps := 2000000) only [Act.put, List.getElem_toArray, List.getElem_cons_succ, List.getElem_cons_zero, List.setIfInBounds_toArray, List.set_cons_zero, List.set_cons_succ]
      refine wpAnyH_take (i := 13) (v := ?_) rfl (by kernel_rfl) (by kernel_rfl) (by kernel_rfl) (fun _ _ _ h => h) (Or.inl ⟨by kernel_rfl, ?_⟩) (by assumption) ?_
      rotate_left
      · intro w hSw; go_simp; with_reducible rfl
      try simp (maxSteps := 2000000) only [Act.put, List.getElem_toArray, List.getElem_cons_succ, List.getElem_cons_zero, List.setIfInBounds_toArray, List.set_cons_zero, List.set_cons_succ]
      refine wpAnyH_ready (rs := [15]) (by kernel_rfl) (by simp) ?_
      refine AllReadyH.cons rfl ?_ AllReadyH.nil
      intro K hK
      rw [if_pos (by kernel_rfl)]
      have hpk : w3.heap[w1.heap.size]? = some (.cells zero13 35 (0, 0)) := (hb3.block _ (Nat.lt_of_lt_of_le (by simp) hb2.size)).trans ((hb2.block _ (by simp)).trans (heap_alloc_new _ _))
      refine wp_store_mid _ _ _ rfl _ _ _ rfl rfl (there_row hpk (Nat.le_refl 13)) size35 (by simp [Value.oneCell']) ?_
      have hbS := below_setCells (Nat.le_trans (by omega) HT1.size) (pkt proto (ahi is4 sb) (alo is4 sb) (zp p4 p6 is4) (ahi is4 db) (alo is4 db) (zp p4 p6 is4) sp dp ty co iif oif).toList 0 HT4.bel
      refine hK.out _ _ ⟨range_keep HT4.s (by have := HT4.size; have := HT2.size; have := HT.out.size; omega), range_keep HT4.d (by have := HT4.size; have := HT2.size; have := HT.out.size; omega)⟩ (fun hHeld => ?_)
      clear hK K
      try simp (maxSteps := 2000000) only [Act.put, List.getElem_toArray, List.getElem_cons_succ, List.getElem_cons_zero, List.setIfInBounds_toArray, List.set_cons_zero, List.set_cons_succ]
      refine wpAnyH_done (by kernel_rfl) ?_ _
      go_wp2_with fail
      go_meet
      case rel => exact pkt_store HZ.out HT4.bel w1.heap.size (Nat.le_trans (by omega) HT1.size) hpk _ _ _ _ _ _ _ _ _ _ _ _ _
  case rest =>
    clear HT hu his hid'
    obtain ⟨pb, rfl, hpk, hpb, hzc, hbc⟩ := hcut
    have HP := hid hpk
    have HZC := hid hzc
    have HBC := hid hbc
    clear hpk hzc hbc
    have HA := hid (ask_svc svc proto (ahi is4 sb) (alo is4 sb) (ahi is4 db) (alo is4 db) sp dp ty co (zp p4 p6 is4) (zp p4 p6 is4) iif oif wc _
      (fun W hW hd => covers_svc wc.heap.size svc is4 proto (ahi is4 sb) (alo is4 sb) (ahi is4 db) (alo is4 db) sp dp ty co (zp p4 p6 is4) iif oif p4 p6 W (HZC.out.below hW) hd))
    obtain ⟨b, hb⟩ : ∃ b, ((proto == svc) && (!((svc == 1) || (svc == 58)) || icmp is4 proto)) = b := ⟨_, rfl⟩
    rw [hb] at HA
    have HI := hid (fun W hW => isICMP_any is4 proto (ahi is4 sb) (alo is4 sb) (ahi is4 db) (alo is4 db) sp dp ty co (zp p4 p6 is4) iif oif p4 p6 W hW)
    obtain ⟨ic, hic⟩ : ∃ ic, icmp is4 proto = ic := ⟨_, rfl⟩
    rw [hic] at HI hb
    clear hic
    go_upto_region 9 with (first
      | (refine wpList_load_row rfl 35 (.tmp 23) rfl pb rfl 35 _ (0, 0) _ (heapOld (heapOld (heapOld HP.out _) _) _) Tryd.underlying35 rfl size35 ?_)
      | (refine wpList_load_row rfl 35 (.tmp 23) rfl pb rfl 35 _ (0, 0) _ HP5.out Tryd.underlying35 rfl size35 ?_)
      | (go_at_call 11; refine HA.out.mono ?_; rintro e w5 ⟨rfl, hb5⟩; have HP5 := hid ((hb5.block pb (heap_lt HP.out)).trans HP.out); have HZ5 := hid (HZC.out.below hb5); have HB5 := hid (HBC.out.trans (hb5.mono HBC.out.size)); clear hb5 HA)
      | (go_at_call 9; refine (HI.out _ HZ5.out).mono ?_; rintro e w6 ⟨rfl, hb6⟩; have HB6 := hid (HB5.out.trans (hb6.mono HB5.out.size)); clear hb6 HI))
    generalize e1 : (svc == 1) = x1 at hb
    generalize e2 : (svc == 58) = x2 at hb
    generalize e3 : (proto == svc) = x3 at hb
    subst hb
    cases x1 <;> cases x2 <;> cases x3 <;> cases ic
    all_goals
      go_wp2
      go_ret
      exact ⟨rfl, HB6.out⟩

set_option maxHeartbeats 2000000 in
theorem law4_out (proto svc : Int) (is4 : Bool) (sb db : Nat → UInt8) (sp dp ty co : Int) (iif oif : ByteArray) (w : World) (m1 : iif.size ≤ maxLen) (m2 : oif.size ≤ maxLen) (h : 65536 < iif.size ∨ 65536 < oif.size) (p4 p6 : Addr) (hz : Zs w p4 p6) :
    Calls Tryd.prog 4 #[.int .u8 proto, .int .u8 svc, .bool is4, .agg (cells16 sb), .agg (cells16 db), .int .u16 sp, .int .u16 dp, .int .u8 ty, .int .u8 co, .string iif, .string oif] w fun e w' => e = .returned (.bool true) ∧ Below w.heap.size w w' := by
  have H0 := hid (two_new w sb db p4 p6 hz)
  have M1 := hid m1
  have M2 := hid m2
  clear hz m1 m2
  have key : ∀ X : Prop, (65536 < iif.size → X) → (¬ 65536 < iif.size → 65536 < oif.size → X) → X := by
    intro X f1 f2
    by_cases g : 65536 < iif.size
    · exact f1 g
    · exact f2 g (by omega)
  clear h
  refine key _ (fun g => ?_) (fun g g' => ?_)
  all_goals
    clear key
    go_enter Tryd.func4, Tryd.ntmps4
    go_wp2_with (first
      | (refine wpList_load_row rfl 22 (.tmp 14) rfl w.heap.size rfl 22 (cells16 sb) (0, 0) _ H0.out.s Tryd.underlying22 rfl (size22' sb) ?_)
      | (refine wpList_load_row rfl 22 (.tmp 15) rfl (w.heap.size + 1) rfl 22 (cells16 db) (0, 0) _ H0.out.d Tryd.underlying22 rfl (size22' db) ?_)
      | (go_at_call 10; refine (bytes10_out proto svc is4 sb db sp dp ty co iif oif _ M1.out M2.out).mono ?_; rintro e w1 ⟨bb, rfl, hb1⟩; have HT := hid (H0.out.below hb1); clear hb1 H0; cases bb))
    all_goals
      go_wp2
      go_ret
      exact ⟨rfl, HT.out.bel⟩
theorem law4_all (proto svc : Int) (is4 : Bool) (sb db : Nat → UInt8) (sp dp ty co : Int) (iif oif : ByteArray) (p4 p6 : Addr) (w : World) (hz : Zs w p4 p6) (m1 : iif.size ≤ maxLen) (m2 : oif.size ≤ maxLen) :
    Calls Tryd.prog 4 #[.int .u8 proto, .int .u8 svc, .bool is4, .agg (cells16 sb), .agg (cells16 db), .int .u16 sp, .int .u16 dp, .int .u8 ty, .int .u8 co, .string iif, .string oif] w fun e w' => e = .returned (.bool true) ∧ Below w.heap.size w w' := by
  by_cases h : 65536 < iif.size ∨ 65536 < oif.size
  · exact law4_out proto svc is4 sb db sp dp ty co iif oif w m1 m2 h p4 p6 hz
  · exact law4_in proto svc is4 sb db sp dp ty co iif oif p4 p6 w hz (by omega) (by omega)
end Go.Proofs.Qxb6615875aDoor
