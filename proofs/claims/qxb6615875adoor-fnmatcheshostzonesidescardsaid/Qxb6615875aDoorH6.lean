import Derived.Test.Qxb6615875aDoorH5
namespace Go.Proofs.Qxb6615875aDoor
open Go.RowKit
set_option linter.unusedSimpArgs false
set_option linter.unusedVariables false
attribute [local go_sem ↓] Go.wp_at_zero Go.wp_at_succ

theorem strs_nil (w : World) (ss : Nat → ByteArray) : Strs w none 0 ss := fun i hi => by omega
/-- What the law's five questions read. -/
structure Env (w W : World) (hb zb pb : Nat) (name : ByteArray) (ia : Option Addr) (il ic : Nat) (ss : Nat → ByteArray) (pk : Array Value) : Prop where
  h : W.heap[hb]? = some (.cells (zoneV hostS none 0 0) 63 (0, 0))
  z : W.heap[zb]? = some (.cells (zoneV name ia il ic) 63 (0, 0))
  p : W.heap[pb]? = some (.cells pk 35 (0, 0))
  s : Strs W ia il ss
  bel : Below w.heap.size w W
theorem Env.below {w W V : World} {hb zb pb : Nat} {name : ByteArray} {ia : Option Addr} {il ic : Nat} {ss : Nat → ByteArray} {pk : Array Value} (h : Env w W hb zb pb name ia il ic ss pk) (hV : Below W.heap.size W V) : Env w V hb zb pb name ia il ic ss pk :=
  ⟨(hV.block _ (heap_lt h.h)).trans h.h, (hV.block _ (heap_lt h.z)).trans h.z, (hV.block _ (heap_lt h.p)).trans h.p, h.s.below hV, h.bel.trans (hV.mono h.bel.size)⟩
theorem env_new {w wc : World} {pb : Nat} {name : ByteArray} {ia : Option Addr} {il ic : Nat} {ss : Nat → ByteArray} {pk : Array Value} (hp : wc.heap[pb]? = some (.cells pk 35 (0, 0))) (hs : Strs w ia il ss) (hb : Below w.heap.size w wc) :
    Env w ((wc.alloc (.cells (zoneV hostS none 0 0) 63)).alloc (.cells (zoneV name ia il ic) 63)) wc.heap.size (wc.heap.size + 1) pb name ia il ic ss pk := by
  have hb2 : Below w.heap.size w ((wc.alloc (.cells (zoneV hostS none 0 0) 63)).alloc (.cells (zoneV name ia il ic) 63)) := (hb.alloc hb.size _).alloc (by have := hb.size; simp; omega) _
  refine ⟨heapOld (heap_alloc_new _ _) _, ?_, heapOld (heapOld hp _) _, hs.below hb2, hb2⟩
  have := heap_alloc_new (wc.alloc (.cells (zoneV hostS none 0 0) 63)) (.cells (zoneV name ia il ic) 63)
  simpa using this
theorem isH_host : isH hostS = true := by unfold isH hostS; rw [ByteArray.toList_eq]; rfl
theorem cov_host (ss : Nat → ByteArray) (host : Bool) (ifc : ByteArray) : cov hostS none 0 ss host ifc = host := by
  unfold cov; rw [isH_host]; simp
theorem cov_zone {name : ByteArray} (h : isH name = false) (ia : Option Addr) (il : Nat) (ss : Nat → ByteArray) (host : Bool) (ifc : ByteArray) : cov name ia il ss host ifc = (!host && listed ia il ss ifc) := by
  unfold cov; rw [h]; cases host <;> simp

set_option maxRecDepth 100000 in
set_option maxHeartbeats 8000000 in
theorem law6_in (proto : Int) (iif oif : ByteArray) (is4 : Bool) (sb db : Nat → UInt8) (name : ByteArray) (ia : Option Addr) (il ic : Nat) (ss : Nat → ByteArray) (p4 p6 : Addr) (w : World) (hz : Zs w p4 p6) (hs : Strs w ia il ss) (hm : ∀ i, i < il → (ss i).size ≤ maxLen)
    (h1 : iif.size ≤ 65536) (h2 : oif.size ≤ 65536) (h3 : name.size ≤ 65536) (hil : il ≤ 4096) :
    Calls Tryd.prog 6 #[.int .u8 proto, .string iif, .string oif, .bool is4, .agg (cells16 sb), .agg (cells16 db), .string name, .slice ia il ic] w fun e w' => e = .returned (.bool true) ∧ Below w.heap.size w w' := by
  have H0 := hid (two_new w sb db p4 p6 hz)
  have HZ := hid hz
  have HS0 := hid hs
  have HM0 := hid hm
  clear hz hs hm
  go_enter Tryd.func6, Tryd.ntmps6
  go_wp2_with (first
    | (refine wpList_load_row rfl 22 (.tmp 12) rfl w.heap.size rfl 22 (cells16 sb) (0, 0) _ H0.out.s Tryd.underlying22 rfl (size22' sb) ?_)
    | (refine wpList_load_row rfl 22 (.tmp 13) rfl (w.heap.size + 1) rfl 22 (cells16 db) (0, 0) _ H0.out.d Tryd.underlying22 rfl (size22' db) ?_)
    | (go_at_call 16; refine (bytes16_any proto iif oif is4 sb db name ia il ic ss _ (by unfold maxLen; omega) (by unfold maxLen; omega) (by unfold maxLen; omega) (by unfold maxLen; omega) (HS0.out.below H0.out.bel) HM0.out).mono ?_; rintro e w1 ⟨bb, rfl, hfit, hb1⟩; have HT := hid (H0.out.below hb1); have HF := hid hfit; clear hb1 H0 hfit; cases bb))
  · go_wp2
    go_ret
    exact ⟨rfl, HT.out.bel⟩
  have HFT := hid (HF.out (by trivial))
  clear HF HM0
  have HS1 := hid (HS0.out.below HT.out.bel)
  go_wp2
  go_loop [17, 18] (fun t i => ∃ (k : Nat) (n : Int), k ≤ il ∧ i = .int .i64 k ∧ t = .int .i64 n ∧ 0 ≤ n ∧ n ≤ 1048576) (fun _ i => il - (intOf i).toNat)
  case atStart => exact ⟨0, _, Nat.zero_le _, rfl, rfl, by omega, by omega⟩
  case round =>
    obtain ⟨k, n, hk, rfl, rfl, hn0, hn1⟩ := hrel
    by_cases hlt : k < il
    · obtain ⟨b, off, rfl, hc⟩ := HS1.out k hlt
      have hmk := HFT.out k hlt
      obtain ⟨s, hse⟩ : ∃ s, s = ss k := ⟨_, rfl⟩
      rw [← hse] at hc hmk
      clear hse
      by_cases q2 : 1048576 < n + (16 + (s.size : Int))
      · go_wp2
        go_ret
        exact ⟨rfl, HT.out.bel⟩
      go_wp2
      go_round
      case rel => exact ⟨k + 1, _, by omega, by go_num, rfl, by omega, by omega⟩
      case measure => simp [intOf]; omega
    · rcases Bool.eq_false_or_eq_true (isH name) with hh | hh
      · have hh' : (name.toList == [95, 102, 119]) = true := hh
        go_wp2
        go_ret
        exact ⟨rfl, HT.out.bel⟩
      have hh' : (name.toList == [95, 102, 119]) = false := hh
      have HH := hid hh
      clear hh
      go_wp2
      have hu := Tryd.underlying22
      go_cut [19] from 83 to 92 (fun v wc => PktIn w wc v p4 p6 (pkt proto (ahi is4 sb) (alo is4 sb) (zp p4 p6 is4) (ahi is4 db) (alo is4 db) (zp p4 p6 is4) 0 0 0 0 iif oif))
      case first =>
        refine wp_region_held_drew (S := fun w' => w'.rangeAt w.heap.size 0 (cells16 sb).toList ∧ w'.rangeAt (w.heap.size + 1) 0 (cells16 db).toList) (by kernel_rfl) ⟨range_of HT.out.drew.s, range_of HT.out.drew.d⟩ (fun hHeld => ?_)
        refine wpAnyH_take (i := 1) (v := ?_) rfl (by kernel_rfl) (by kernel_rfl) (by kernel_rfl) (fun _ _ _ h => h) (Or.inl ⟨by kernel_rfl, ?_⟩) (by assumption) ?_
        rotate_left
        · intro w hSw; go_simp; with_reducible rfl
        try simp (maxSteps := 2000000) only [Act.put, List.getElem_toArray, List.getElem_cons_succ, List.getElem_cons_zero, List.setIfInBounds_toArray, List.set_cons_zero, List.set_cons_succ]
        refine wpAnyH_take (i := 2) (v := _) rfl (by kernel_rfl) (by kernel_rfl) (by kernel_rfl) (fun _ _ _ h => h) (yieldsIf_load_mid (by kernel_rfl) _ _ rfl _ _ rfl (cells16 sb).toList _ (fun w h => h.1) Tryd.underlying22 rfl (size22l _)) (by assumption) ?_
        try simp (maxSteps := 2000000) only [Act.put, List.getElem_toArray, List.getElem_cons_succ, List.getElem_cons_zero, List.setIfInBounds_toArray, List.set_cons_zero, List.set_cons_succ]
        refine wpAnyH_take (i := 4) (v := ?_) rfl (by kernel_rfl) (by kernel_rfl) (by kernel_rfl) (fun _ _ _ h => h) (Or.inl ⟨by kernel_rfl, ?_⟩) (by assumption) ?_
        rotate_left
        · intro w hSw; go_simp; with_reducible rfl
        try simp (maxSteps := 2000000) only [Act.put, List.getElem_toArray, List.getElem_cons_succ, List.getElem_cons_zero, List.setIfInBounds_toArray, List.set_cons_zero, List.set_cons_succ]
        refine wpAnyH_take (i := 5) (v := _) rfl (by kernel_rfl) (by kernel_rfl) (by kernel_rfl) (fun _ _ _ h => h) (yieldsIf_load_mid (by kernel_rfl) _ _ rfl _ _ rfl (cells16 db).toList _ (fun w h => h.2) Tryd.underlying22 rfl (size22l _)) (by assumption) ?_
        try simp (maxSteps := 2000000) only [Act.put, List.getElem_toArray, List.getElem_cons_succ, List.getElem_cons_zero, List.setIfInBounds_toArray, List.set_cons_zero, List.set_cons_succ]
        refine wpAnyH_take (i := 0) (v := ?_) rfl (by kernel_rfl) (by kernel_rfl) (by kernel_rfl) (fun _ _ _ h => h) (Or.inl ⟨by kernel_rfl, ?_⟩) (by assumption) ?_
        rotate_left
        · intro w hSw; go_simp; with_reducible rfl
        try simp (maxSteps := 2000000) only [Act.put, List.getElem_toArray, List.getElem_cons_succ, List.getElem_cons_zero, List.setIfInBounds_toArray, List.set_cons_zero, List.set_cons_succ]
        refine wpAnyH_take (i := 7) (v := ?_) rfl (by kernel_rfl) (by kernel_rfl) (by kernel_rfl) (fun _ _ _ h => h) (Or.inl ⟨by kernel_rfl, ?_⟩) (by assumption) ?_
        rotate_left
        · intro w hSw; go_simp; with_reducible rfl
        try simp (maxSteps := 2000000) only [Act.put, List.getElem_toArray, List.getElem_cons_succ, List.getElem_cons_zero, List.setIfInBounds_toArray, List.set_cons_zero, List.set_cons_succ]
        refine wpAnyH_take (i := 8) (v := ?_) rfl (by kernel_rfl) (by kernel_rfl) (by kernel_rfl) (fun _ _ _ h => h) (Or.inl ⟨by kernel_rfl, ?_⟩) (by assumption) ?_
        rotate_left
        · intro w hSw; go_simp; with_reducible rfl
        try simp (maxSteps := 2000000) only [Act.put, List.getElem_toArray, List.getElem_cons_succ, List.getElem_cons_zero, List.setIfInBounds_toArray, List.set_cons_zero, List.set_cons_succ]
        have HT1 := HT.out.drew
        refine wpAnyH_ready (rs := [3, 10]) (by kernel_rfl) (by simp) ?_
        refine AllReadyH.cons rfl (fun K hK => ?_) (AllReadyH.cons rfl (fun K hK => ?_) AllReadyH.nil)
        · go_simp
          refine (zzaddr_any is4 sb p4 p6 _ HT1.z).mono ?_
          rintro e w2 ⟨rfl, hb2⟩
          go_wp2_with fail
          have HT2 := HT1.below hb2
          refine hK.out _ _ ⟨range_of HT2.s, range_of HT2.d⟩ (fun hHeld => ?_)
          clear hK K
          try simp (maxSteps := 2000000) only [Act.put, List.getElem_toArray, List.getElem_cons_succ, List.getElem_cons_zero, List.setIfInBounds_toArray, List.set_cons_zero, List.set_cons_succ]
          refine wpAnyH_ready (rs := [6, 10]) (by kernel_rfl) (by simp) ?_
          refine AllReadyH.cons rfl (fun K hK => ?_) (AllReadyH.cons rfl (fun K hK => ?_) AllReadyH.nil)
          · go_simp
            refine (zzaddr_any is4 db p4 p6 _ HT2.z).mono ?_
            rintro e w3 ⟨rfl, hb3⟩
            go_wp2_with fail
            have HT3 := HT2.below hb3
            refine hK.out _ _ ⟨range_of HT3.s, range_of HT3.d⟩ (fun hHeld => ?_)
            clear hK K
            try simp (maxSteps := 2000000) only [Act.put, List.getElem_toArray, List.getElem_cons_succ, List.getElem_cons_zero, List.setIfInBounds_toArray, List.set_cons_zero, List.set_cons_succ]
            refine wpAnyH_take (i := 9) (v := ?_) rfl (by kernel_rfl) (by kernel_rfl) (by kernel_rfl) (fun _ _ _ h => h) (Or.inl ⟨by kernel_rfl, ?_⟩) (by assumption) ?_
            rotate_left
            · intro w hSw; go_simp; with_reducible rfl
            try simp (maxSteps := 2000000) only [Act.put, List.getElem_toArray, List.getElem_cons_succ, List.getElem_cons_zero, List.setIfInBounds_toArray, List.set_cons_zero, List.set_cons_succ]
            refine wpAnyH_ready (rs := [10]) (by kernel_rfl) (by simp) ?_
            refine AllReadyH.cons rfl ?_ AllReadyH.nil
            intro K hK
            rw [if_pos (by kernel_rfl)]
            go_simp
            have HT4 := HT3.alloc (.cells zero13 35)
            refine hK.out _ _ ⟨range_of HT4.s, range_of HT4.d⟩ (fun hHeld => ?_)
            clear hK K
            try simp (maxSteps := 2000000) only [Act.put, List.getElem_toArray, List.getElem_cons_succ, List.getElem_cons_zero, List.setIfInBounds_toArray, List.set_cons_zero, List.set_cons_succ]
            refine wpAnyH_ready (rs := [11]) (by kernel_rfl) (by simp) ?_
            refine AllReadyH.cons rfl ?_ AllReadyH.nil
            intro K hK
            rw [if_pos (by kernel_rfl)]
            go_simp
            have HT5 := HT3.alloc (.cells (pkt proto (ahi is4 sb) (alo is4 sb) (zp p4 p6 is4) (ahi is4 db) (alo is4 db) (zp p4 p6 is4) 0 0 0 0 iif oif) 35)
            refine hK.out _ _ ⟨range_of HT5.s, range_of HT5.d⟩ (fun hHeld => ?_)
            clear hK K
            try simp (maxSteps := 2000000) only [Act.put, List.getElem_toArray, List.getElem_cons_succ, List.getElem_cons_zero, List.setIfInBounds_toArray, List.set_cons_zero, List.set_cons_succ]
            refine wpAnyH_done (by kernel_rfl) ?_ _
            go_wp2_with fail
            go_meet
            case rel => exact pkt_alloc HZ.out HT3.bel _
          · go_simp
            have HT3 := HT2.alloc (.cells zero13 35)
            refine hK.out _ _ ⟨range_of HT3.s, range_of HT3.d⟩ (fun hHeld => ?_)
            clear hK K
            try simp (maxSteps := 2000000) only [Act.put, List.getElem_toArray, List.getElem_cons_succ, List.getElem_cons_zero, List.setIfInBounds_toArray, List.set_cons_zero, List.set_cons_succ]
            refine wpAnyH_ready (rs := [6]) (by kernel_rfl) (by simp) ?_
            refine AllReadyH.cons rfl ?_ AllReadyH.nil
            intro K hK
            rw [if_pos (by kernel_rfl)]
            go_simp
            refine (zzaddr_any is4 db p4 p6 _ HT3.z).mono ?_
            rintro e w3 ⟨rfl, hb3⟩
            go_wp2_with fail
            have HT4 := HT3.below hb3
            refine hK.out _ _ ⟨range_of HT4.s, range_of HT4.d⟩ (fun hHeld => ?_)
            clear hK K
            try simp (maxSteps := 2000000) only [Act.put, List.getElem_toArray, List.getElem_cons_succ, List.getElem_cons_zero, List.setIfInBounds_toArray, List.set_cons_zero, List.set_cons_succ]
            refine wpAnyH_take (i := 9) (v := ?_) rfl (by kernel_rfl) (by kernel_rfl) (by kernel_rfl) (fun _ _ _ h => h) (Or.inl ⟨by kernel_rfl, ?_⟩) (by assumption) ?_
            rotate_left
            · intro w hSw; go_simp; with_reducible rfl
            try simp (maxSteps := 2000000) only [Act.put, List.getElem_toArray, List.getElem_cons_succ, List.getElem_cons_zero, List.setIfInBounds_toArray, List.set_cons_zero, List.set_cons_succ]
            refine wpAnyH_ready (rs := [11]) (by kernel_rfl) (by simp) ?_
            refine AllReadyH.cons rfl ?_ AllReadyH.nil
            intro K hK
            rw [if_pos (by kernel_rfl)]
            have hpk : w3.heap[w2.heap.size]? = some (.cells zero13 35 (0, 0)) := (hb3.block _ (by simp)).trans (heap_alloc_new _ _)
            refine wp_store_mid _ _ _ rfl _ _ _ rfl rfl (there_row hpk (Nat.le_refl 13)) size35 (by simp [Value.oneCell']) ?_
            have hbS := below_setCells (Nat.le_trans (by omega) HT2.size) (pkt proto (ahi is4 sb) (alo is4 sb) (zp p4 p6 is4) (ahi is4 db) (alo is4 db) (zp p4 p6 is4) 0 0 0 0 iif oif).toList 0 HT4.bel
            refine hK.out _ _ ⟨range_keep HT4.s (by have := HT4.size; have := HT2.size; have := HT.out.size; omega), range_keep HT4.d (by have := HT4.size; have := HT2.size; have := HT.out.size; omega)⟩ (fun hHeld => ?_)
            clear hK K
            try simp (maxSteps := 2000000) only [Act.put, List.getElem_toArray, List.getElem_cons_succ, List.getElem_cons_zero, List.setIfInBounds_toArray, List.set_cons_zero, List.set_cons_succ]
            refine wpAnyH_done (by kernel_rfl) ?_ _
            go_wp2_with fail
            go_meet
            case rel => exact pkt_store HZ.out HT4.bel w2.heap.size (Nat.le_trans (by omega) HT2.size) hpk _ _ _ _ _ _ _ _ _ _ _ _ _
        · go_simp
          have HT2 := HT1.alloc (.cells zero13 35)
          refine hK.out _ _ ⟨range_of HT2.s, range_of HT2.d⟩ (fun hHeld => ?_)
          clear hK K
          try simp (maxSteps := 2000000) only [Act.put, List.getElem_toArray, List.getElem_cons_succ, List.getElem_cons_zero, List.setIfInBounds_toArray, List.set_cons_zero, List.set_cons_succ]
          refine wpAnyH_ready (rs := [3]) (by kernel_rfl) (by simp) ?_
          refine AllReadyH.cons rfl ?_ AllReadyH.nil
          intro K hK
          rw [if_pos (by kernel_rfl)]
          go_simp
          refine (zzaddr_any is4 sb p4 p6 _ HT2.z).mono ?_
          rintro e w2 ⟨rfl, hb2⟩
          go_wp2_with fail
          have HT3 := HT2.below hb2
          refine hK.out _ _ ⟨range_of HT3.s, range_of HT3.d⟩ (fun hHeld => ?_)
          clear hK K
          try simp (maxSteps := 2000000) only [Act.put, List.getElem_toArray, List.getElem_cons_succ, List.getElem_cons_zero, List.setIfInBounds_toArray, List.set_cons_zero, List.set_cons_succ]
          refine wpAnyH_ready (rs := [6]) (by kernel_rfl) (by simp) ?_
          refine AllReadyH.cons rfl ?_ AllReadyH.nil
          intro K hK
          rw [if_pos (by kernel_rfl)]
          go_simp
          refine (zzaddr_any is4 db p4 p6 _ HT3.z).mono ?_
          rintro e w3 ⟨rfl, hb3⟩
          go_wp2_with fail
          have HT4 := HT3.below hb3
          refine hK.out _ _ ⟨range_of HT4.s, range_of HT4.d⟩ (fun hHeld => ?_)
          clear hK K
          try simp (maxSteps := 2000000) only [Act.put, List.getElem_toArray, List.getElem_cons_succ, List.getElem_cons_zero, List.setIfInBounds_toArray, List.set_cons_zero, List.set_cons_succ]
          refine wpAnyH_take (i := 9) (v := ?_) rfl (by kernel_rfl) (by kernel_rfl) (by kernel_rfl) (fun _ _ _ h => h) (Or.inl ⟨by kernel_rfl, ?_⟩) (by assumption) ?_
          rotate_left
          · intro w hSw; go_simp; with_reducible rfl
          try simp (maxSteps := 2000000) only [Act.put, List.getElem_toArray, List.getElem_cons_succ, List.getElem_cons_zero, List.setIfInBounds_toArray, List.set_cons_zero, List.set_cons_succ]
          refine wpAnyH_ready (rs := [11]) (by kernel_rfl) (by simp) ?_
          refine AllReadyH.cons rfl ?_ AllReadyH.nil
          intro K hK
          rw [if_pos (by kernel_rfl)]
          have hpk : w3.heap[w1.heap.size]? = some (.cells zero13 35 (0, 0)) := (hb3.block _ (Nat.lt_of_lt_of_le (by simp) hb2.size)).trans ((hb2.block _ (by simp)).trans (heap_alloc_new _ _))
          refine wp_store_mid _ _ _ rfl _ _ _ rfl rfl (there_row hpk (Nat.le_refl 13)) size35 (by simp [Value.oneCell']) ?_
          have hbS := below_setCells (Nat.le_trans (by omega) HT1.size) (pkt proto (ahi is4 sb) (alo is4 sb) (zp p4 p6 is4) (ahi is4 db) (alo is4 db) (zp p4 p6 is4) 0 0 0 0 iif oif).toList 0 HT4.bel
          refine hK.out _ _ ⟨range_keep HT4.s (by have := HT4.size; have := HT2.size; have := HT.out.size; omega), range_keep HT4.d (by have := HT4.size; have := HT2.size; have := HT.out.size; omega)⟩ (fun hHeld => ?_)
          clear hK K
          try simp (maxSteps := 2000000) only [Act.put, List.getElem_toArray, List.getElem_cons_succ, List.getElem_cons_zero, List.setIfInBounds_toArray, List.set_cons_zero, List.set_cons_succ]
          refine wpAnyH_done (by kernel_rfl) ?_ _
          go_wp2_with fail
          go_meet
          case rel => exact pkt_store HZ.out HT4.bel w1.heap.size (Nat.le_trans (by omega) HT1.size) hpk _ _ _ _ _ _ _ _ _ _ _ _ _
      case rest =>
        clear HT HS1 HFT hu
        obtain ⟨pb, rfl, hpk, hpb, hzc, hbc⟩ := hcut
        have EN := env_new (name := name) (ia := ia) (il := il) (ic := ic) (ss := ss) hpk HS0.out hbc
        clear hpk hpb hzc hbc HS0 HZ
        go_upto_region 17 with fail
        have EN2 : Env w ((wc.alloc (.cells #[.string hostS, .slice none 0 0, .slice none 0 0] 63)).alloc (.cells #[.string name, .slice ia il ic, .slice none 0 0] 63)) wc.heap.size (wc.heap.size + 1) pb name ia il ic ss _ := EN
        clear EN
        unfold hostS at EN2
        generalize (wc.alloc (.cells #[.string ⟨#[95, 102, 119]⟩, .slice none 0 0, .slice none 0 0] 63)).alloc (.cells #[.string name, .slice ia il ic, .slice none 0 0] 63) = wx at EN2 ⊢
        have E0 := hid EN2
        clear EN2
        generalize wc.heap.size = hb at E0 ⊢
        go_wp2_with (first
              | (refine wpList_load_row rfl 63 (.tmp 20) rfl hb rfl 63 (#[.string ⟨#[95, 102, 119]⟩, .slice none 0 0, .slice none 0 0]) (0, 0) _ E0.out.h Tryd.underlying63 rfl size63 ?_)
              | (refine wpList_load_row rfl 35 (.tmp 19) rfl pb rfl 35 _ (0, 0) _ (heapOld (heapOld E0.out.p _) _) Tryd.underlying35 rfl size35 ?_))
        refine (ask_in1 hostS none 0 0 ss proto (ahi is4 sb) (alo is4 sb) (ahi is4 db) (alo is4 db) (zp p4 p6 is4) (zp p4 p6 is4) iif oif _ (strs_nil _ ss) (by omega)).mono ?_
        rintro e x1 ⟨rfl, hb1⟩
        have E1 := hid (E0.out.below hb1)
        clear hb1 E0
        go_wp2_with (first
              | (refine wpList_load_row rfl 63 (.tmp 20) rfl hb rfl 63 (#[.string ⟨#[95, 102, 119]⟩, .slice none 0 0, .slice none 0 0]) (0, 0) _ E1.out.h Tryd.underlying63 rfl size63 ?_)
              | (refine wpList_load_row rfl 35 (.tmp 19) rfl pb rfl 35 _ (0, 0) _ (heapOld (heapOld E1.out.p _) _) Tryd.underlying35 rfl size35 ?_))
        refine (ask_out1 hostS none 0 0 ss proto (ahi is4 sb) (alo is4 sb) (ahi is4 db) (alo is4 db) (zp p4 p6 is4) (zp p4 p6 is4) iif oif _ (strs_nil _ ss) (by omega)).mono ?_
        rintro e x2 ⟨rfl, hb2⟩
        have E2 := hid (E1.out.below hb2)
        clear hb2 E1
        go_wp2_with (first
              | (refine wpList_load_row rfl 63 (.tmp 21) rfl (hb + 1) rfl 63 (#[.string name, .slice ia il ic, .slice none 0 0]) (0, 0) _ E2.out.z Tryd.underlying63 rfl size63 ?_)
              | (refine wpList_load_row rfl 35 (.tmp 19) rfl pb rfl 35 _ (0, 0) _ (heapOld (heapOld E2.out.p _) _) Tryd.underlying35 rfl size35 ?_))
        refine (ask_in1 name ia il ic ss proto (ahi is4 sb) (alo is4 sb) (ahi is4 db) (alo is4 db) (zp p4 p6 is4) (zp p4 p6 is4) iif oif _ E2.out.s hil).mono ?_
        rintro e x3 ⟨rfl, hb3⟩
        have E3 := hid (E2.out.below hb3)
        clear hb3 E2
        go_wp2_with (first
              | (refine wpList_load_row rfl 63 (.tmp 21) rfl (hb + 1) rfl 63 (#[.string name, .slice ia il ic, .slice none 0 0]) (0, 0) _ E3.out.z Tryd.underlying63 rfl size63 ?_)
              | (refine wpList_load_row rfl 35 (.tmp 19) rfl pb rfl 35 _ (0, 0) _ (heapOld (heapOld E3.out.p _) _) Tryd.underlying35 rfl size35 ?_))
        refine (ask_out1 name ia il ic ss proto (ahi is4 sb) (alo is4 sb) (ahi is4 db) (alo is4 db) (zp p4 p6 is4) (zp p4 p6 is4) iif oif _ E3.out.s hil).mono ?_
        rintro e x4 ⟨rfl, hb4⟩
        have E4 := hid (E3.out.below hb4)
        clear hb4 E3
        go_wp2_with (first
              | (refine wpList_load_row rfl 63 (.tmp 20) rfl hb rfl 63 (#[.string ⟨#[95, 102, 119]⟩, .slice none 0 0, .slice none 0 0]) (0, 0) _ E4.out.h Tryd.underlying63 rfl size63 ?_)
              | (refine wpList_load_row rfl 63 (.tmp 21) rfl (hb + 1) rfl 63 (#[.string name, .slice ia il ic, .slice none 0 0]) (0, 0) _ E4.out.z Tryd.underlying63 rfl size63 ?_)
              | (refine wpList_load_row rfl 35 (.tmp 19) rfl pb rfl 35 _ (0, 0) _ (heapOld (heapOld E4.out.p _) _) Tryd.underlying35 rfl size35 ?_))
        refine (ask_in2 name ia il ic ss proto (ahi is4 sb) (alo is4 sb) (ahi is4 db) (alo is4 db) (zp p4 p6 is4) (zp p4 p6 is4) iif oif _ hostS E4.out.s hil).mono ?_
        rintro e x5 ⟨rfl, hb5⟩
        have E5 := hid (E4.out.below hb5)
        clear hb5 E4

        simp only [cov_host, cov_zone HH.out]
        clear hh' h1 h2 h3
        rcases Bool.eq_false_or_eq_true (listed ia il ss iif) with l1 | l1
        all_goals rcases Bool.eq_false_or_eq_true (listed ia il ss oif) with l2 | l2
        all_goals rcases Bool.eq_false_or_eq_true iif.toList.isEmpty with e1 | e1
        all_goals rcases Bool.eq_false_or_eq_true oif.toList.isEmpty with e2 | e2
        all_goals
          obtain ⟨pv, hpv, hp⟩ : ∃ pv : Int, pv = (if oif.toList.isEmpty then 0 else if iif.toList.isEmpty then 2 else 1) ∧ path iif oif = pv := ⟨_, rfl, rfl⟩
          rw [e1, e2] at hpv
          simp only [if_true, Bool.false_eq_true, if_false] at hpv
          subst hpv
          have HL1 := hid l1
          have HL2 := hid l2
          go_wp2_with (first
            | (go_at_call_of 17 (Value.string iif); refine (zzlisted_any ia il ic ss iif _ E5.out.s hil).mono ?_; rw [HL1.out]; rintro e y1 ⟨rfl, rfl⟩)
            | (go_at_call_of 17 (Value.string oif); refine (zzlisted_any ia il ic ss oif _ E5.out.s hil).mono ?_; rw [HL2.out]; rintro e y2 ⟨rfl, rfl⟩))
          go_ret
          exact ⟨rfl, E5.out.bel⟩
end Go.Proofs.Qxb6615875aDoor
