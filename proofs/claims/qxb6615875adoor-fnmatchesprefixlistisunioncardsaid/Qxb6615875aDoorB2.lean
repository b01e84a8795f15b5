import Derived.Test.Qxb6615875aDoorB1
namespace Go.Proofs.Qxb6615875aDoor
open Go.RowKit
set_option linter.unusedSimpArgs false

theorem size22 : (Tryd.prog.info? 22).map (·.size) = some 16 := by kernel_rfl
theorem size22' (b : Nat → UInt8) : (Tryd.prog.info? 22).map (·.size) = some (cells16 b).size := size22
theorem size22l (b : Nat → UInt8) : (Tryd.prog.info? 22).map (·.size) = some (cells16 b).toList.length := size22

/-- The world of a law that has boxed its two addresses' bytes. -/
structure Two (w w1 : World) (sb db : Nat → UInt8) (p4 p6 : Addr) : Prop where
  bel : Below w.heap.size w w1
  size : w.heap.size + 2 ≤ w1.heap.size
  s : w1.heap[w.heap.size]? = some (.cells (cells16 sb) 22 (0, 0))
  d : w1.heap[w.heap.size + 1]? = some (.cells (cells16 db) 22 (0, 0))
  z : Zs w1 p4 p6

theorem two_new (w : World) (sb db : Nat → UInt8) (p4 p6 : Addr) (hz : Zs w p4 p6) : Two w ((w.alloc (.cells (cells16 sb) 22)).alloc (.cells (cells16 db) 22)) sb db p4 p6 :=
  ⟨((Below.refl _ _).alloc (Nat.le_refl _) _).alloc (by simp) _, by simp, by rw [Below.heap_alloc _ _ _ (by simp)]; exact heap_alloc_new _ _, by
    have := heap_alloc_new (w.alloc (.cells (cells16 sb) 22)) (.cells (cells16 db) 22)
    simpa using this, (hz.alloc _).alloc _⟩
theorem Two.below {w w1 w2 : World} {sb db : Nat → UInt8} {p4 p6 : Addr} (h : Two w w1 sb db p4 p6) (hb : Below w1.heap.size w1 w2) : Two w w2 sb db p4 p6 :=
  ⟨h.bel.trans (hb.mono (by have := h.size; omega)), Nat.le_trans h.size hb.size, (hb.block _ (by have := h.size; omega)).trans h.s, (hb.block _ (by have := h.size; omega)).trans h.d, h.z.below hb⟩
theorem range_of {w : World} {g : Nat} {b : Nat → UInt8} {t : TypeId} (h : w.heap[g]? = some (.cells (cells16 b) t (0, 0))) : w.rangeAt g 0 (cells16 b).toList := by
  intro j v hv
  rw [Nat.zero_add, cell_of_row w g j _ t (0, 0) h]
  simpa using hv
theorem Two.drew {w w1 : World} {sb db : Nat → UInt8} {p4 p6 : Addr} (h : Two w w1 sb db p4 p6) : Two w w1.drew sb db p4 p6 := h.below (Below.refl _ _).drew
theorem Two.alloc {w w1 : World} {sb db : Nat → UInt8} {p4 p6 : Addr} (h : Two w w1 sb db p4 p6) (o : Obj) : Two w (w1.alloc o) sb db p4 p6 := h.below ((Below.refl _ _).alloc (Nat.le_refl _) o)

/-- A block's cells, written over from o on. -/
def setAll (C : Array Value) : Nat → List Value → Array Value
  | _, [] => C
  | o, v :: r => setAll (C.setIfInBounds o v) (o + 1) r
theorem heap_setCells (pb : Nat) (t : TypeId) : ∀ (vs : List Value) (C : Array Value) (o : Nat) (w : World), w.heap[pb]? = some (.cells C t (0, 0)) → (w.setCells pb o vs).heap[pb]? = some (.cells (setAll C o vs) t (0, 0))
  | [], _, _, _, h => h
  | v :: r, C, o, w, h => heap_setCells pb t r _ (o + 1) _ (heap_setCell_same w pb o C t v h)
theorem below_setCells {B b : Nat} (hb : B ≤ b) : ∀ (vs : List Value) (o : Nat) {a w : World}, Below B a w → Below B a (w.setCells b o vs)
  | [], _, _, _, h => h
  | v :: r, o, _, _, h => below_setCells hb r (o + 1) (h.setCell (p := ⟨b, o, none⟩) hb v)
theorem there_row {w : World} {pb n : Nat} {C : Array Value} {t : TypeId} (h : w.heap[pb]? = some (.cells C t (0, 0))) (hn : n ≤ C.size) : w.there pb 0 n := fun j hj => by
  rw [Nat.zero_add, cell_of_row w pb j C t (0, 0) h, frozen_of_row w pb j C t h]
  exact ⟨by simp; omega, rfl⟩

theorem range_keep {w : World} {g pb o : Nat} {b : Nat → UInt8} {t : TypeId} {vs : List Value} (h : w.heap[g]? = some (.cells (cells16 b) t (0, 0))) (hne : g ≠ pb) : (w.setCells pb o vs).rangeAt g 0 (cells16 b).toList := fun j v hv => by
  rw [World.cell?_setCells_out pb vs o w ⟨g, 0 + j, none⟩ (fun e => absurd e hne)]
  exact range_of h j v hv

/-- The thirteen cells of a new packet. -/
def zero13 : Array Value := #[.int .u8 0, .int .u64 0, .int .u64 0, .pointer none, .int .u64 0, .int .u64 0, .pointer none, .int .u16 0, .int .u16 0, .int .u8 0, .int .u8 0, .string ⟨#[]⟩, .string ⟨#[]⟩]
theorem size35 : (Tryd.prog.info? 35).map (·.size) = some 13 := by kernel_rfl

/-- A packet lies in a block of the law's own. -/
def PktIn (w wc : World) (v : Value) (p4 p6 : Addr) (cs : Array Value) : Prop := ∃ pb, v = .pointer (some ⟨pb, 0, none⟩) ∧ wc.heap[pb]? = some (.cells cs 35 (0, 0)) ∧ w.heap.size ≤ pb ∧ Zs wc p4 p6 ∧ Below w.heap.size w wc

theorem pkt_alloc {w wx : World} {p4 p6 : Addr} (hz : Zs w p4 p6) (hb : Below w.heap.size w wx) (cs : Array Value) : PktIn w (wx.alloc (.cells cs 35)) (.pointer (some ⟨wx.heap.size, 0, none⟩)) p4 p6 cs :=
  have hb' := hb.alloc hb.size (.cells cs 35)
  ⟨_, rfl, heap_alloc_new _ _, hb.size, hz.below hb', hb'⟩
theorem pkt_store {w wx : World} {p4 p6 : Addr} (hz : Zs w p4 p6) (hb : Below w.heap.size w wx) (pb : Nat) (hpb : w.heap.size ≤ pb) (h : wx.heap[pb]? = some (.cells zero13 35 (0, 0)))
    (x0 x1 x2 x3 x4 x5 x6 x7 x8 x9 x10 x11 x12 : Value) : PktIn w (wx.setCells pb 0 [x0, x1, x2, x3, x4, x5, x6, x7, x8, x9, x10, x11, x12]) (.pointer (some ⟨pb, 0, none⟩)) p4 p6 #[x0, x1, x2, x3, x4, x5, x6, x7, x8, x9, x10, x11, x12] :=
  have hb' := below_setCells hpb [x0, x1, x2, x3, x4, x5, x6, x7, x8, x9, x10, x11, x12] 0 hb
  have e : setAll zero13 0 [x0, x1, x2, x3, x4, x5, x6, x7, x8, x9, x10, x11, x12] = #[x0, x1, x2, x3, x4, x5, x6, x7, x8, x9, x10, x11, x12] := by simp [setAll, zero13]
  ⟨_, rfl, by rw [← e]; exact heap_setCells pb 35 _ _ _ _ h, hpb, hz.below hb', hb'⟩

def want (is4 : Bool) : Int := if is4 then 1 else 58
/-- How many of the protocols below k were ICMP; the last of them. -/
def cnt (is4 : Bool) (k : Nat) : Int := if want is4 < k then 1 else 0
def fnd (is4 : Bool) (k : Nat) : Int := if want is4 < k then want is4 else -1
theorem icmp_iff (is4 : Bool) (p : Int) : icmp is4 p = (p == want is4) := by cases is4 <;> rfl
theorem cnt_zero (is4 : Bool) : cnt is4 0 = 0 := by cases is4 <;> rfl
theorem fnd_zero (is4 : Bool) : fnd is4 0 = -1 := by cases is4 <;> rfl
theorem cnt_bd (is4 : Bool) (k : Nat) : 0 ≤ cnt is4 k ∧ cnt is4 k ≤ 1 := by unfold cnt; split <;> omega
theorem cnt_yes {is4 : Bool} {k : Nat} (h : icmp is4 k = true) : cnt is4 k + 1 = cnt is4 (k + 1) := by
  have e : (k : Int) = want is4 := by simpa [icmp_iff] using h
  unfold cnt; rw [if_neg (by omega), if_pos (by omega)]; rfl
theorem fnd_yes {is4 : Bool} {k : Nat} (h : icmp is4 k = true) : (k : Int) = fnd is4 (k + 1) := by
  have e : (k : Int) = want is4 := by simpa [icmp_iff] using h
  unfold fnd; rw [if_pos (by omega)]; exact e
theorem cnt_no {is4 : Bool} {k : Nat} (h : icmp is4 k = false) : cnt is4 k = cnt is4 (k + 1) := by
  have e : (k : Int) ≠ want is4 := by simpa [icmp_iff] using h
  unfold cnt; split <;> split <;> omega
theorem fnd_no {is4 : Bool} {k : Nat} (h : icmp is4 k = false) : fnd is4 k = fnd is4 (k + 1) := by
  have e : (k : Int) ≠ want is4 := by simpa [icmp_iff] using h
  unfold fnd; split <;> split <;> omega

attribute [local go_sem ↓] Go.wp_at_zero Go.wp_at_succ
set_option maxRecDepth 100000 in
set_option maxHeartbeats 4000000 in
theorem law3_in (is4 : Bool) (sb db : Nat → UInt8) (sp dp ty co : Int) (iif oif : ByteArray) (p4 p6 : Addr) (w : World) (hz : Zs w p4 p6) (h1 : iif.size ≤ 65536) (h2 : oif.size ≤ 65536) :
    Calls Tryd.prog 3 #[.bool is4, .agg (cells16 sb), .agg (cells16 db), .int .u16 sp, .int .u16 dp, .int .u8 ty, .int .u8 co, .string iif, .string oif] w fun e w' => e = .returned (.bool true) ∧ Below w.heap.size w w' := by
  have H0 := hid (two_new w sb db p4 p6 hz)
  have HZ := hid hz
  clear hz
  go_enter Tryd.func3, Tryd.ntmps3
  go_wp2_with (first
    | (refine wpList_load_row rfl 22 (.tmp 10) rfl w.heap.size rfl 22 (cells16 sb) (0, 0) _ H0.out.s Tryd.underlying22 rfl (size22' sb) ?_)
    | (refine wpList_load_row rfl 22 (.tmp 11) rfl (w.heap.size + 1) rfl 22 (cells16 db) (0, 0) _ H0.out.d Tryd.underlying22 rfl (size22' db) ?_)
    | (go_at_call 7; refine (bytes7_in is4 sb db sp dp ty co iif oif _ h1 h2).mono ?_; rintro e w1 ⟨rfl, hb1⟩; have HT := hid (H0.out.below hb1); clear hb1 H0))
  have hu := Tryd.underlying22
  have his := size22l sb
  have hid' := size22l db
  go_cut [19] from 43 to 55 (fun v wc => PktIn w wc v p4 p6 (pkt 0 (ahi is4 sb) (alo is4 sb) (zp p4 p6 is4) (ahi is4 db) (alo is4 db) (zp p4 p6 is4) sp dp ty co iif oif))
  case first =>
    refine wp_region_held_drew (S := fun w' => w'.rangeAt w.heap.size 0 (cells16 sb).toList ∧ w'.rangeAt (w.heap.size + 1) 0 (cells16 db).toList) (by kernel_rfl) ⟨range_of HT.out.drew.s, range_of HT.out.drew.d⟩ (fun hHeld => ?_)
    refine wpAnyH_take (i := 0) (v := ?_) rfl (by kernel_rfl) (by kernel_rfl) (by kernel_rfl) (fun _ _ _ h => h) (Or.inl ⟨by rfl, ?_⟩) (by assumption) ?_
    rotate_left
    · intro w hSw; go_simp; with_reducible rfl
    try simp only [Act.put, List.setIfInBounds_toArray, List.set_cons_zero, List.set_cons_succ]
    refine wpAnyH_take (i := 1) (v := _) rfl (by kernel_rfl) (by kernel_rfl) (by kernel_rfl) (fun _ _ _ h => h) (yieldsIf_load_mid (by rfl) _ _ rfl _ _ rfl (cells16 sb).toList _ (fun w h => h.1) Tryd.underlying22 rfl (size22l _)) (by assumption) ?_
    try simp only [Act.put, List.setIfInBounds_toArray, List.set_cons_zero, List.set_cons_succ]
    refine wpAnyH_take (i := 3) (v := ?_) rfl (by kernel_rfl) (by kernel_rfl) (by kernel_rfl) (fun _ _ _ h => h) (Or.inl ⟨by rfl, ?_⟩) (by assumption) ?_
    rotate_left
    · intro w hSw; go_simp; with_reducible rfl
    try simp only [Act.put, List.setIfInBounds_toArray, List.set_cons_zero, List.set_cons_succ]
    refine wpAnyH_take (i := 4) (v := _) rfl (by kernel_rfl) (by kernel_rfl) (by kernel_rfl) (fun _ _ _ h => h) (yieldsIf_load_mid (by rfl) _ _ rfl _ _ rfl (cells16 db).toList _ (fun w h => h.2) Tryd.underlying22 rfl (size22l _)) (by assumption) ?_
    try simp only [Act.put, List.setIfInBounds_toArray, List.set_cons_zero, List.set_cons_succ]
    refine wpAnyH_take (i := 6) (v := ?_) rfl (by kernel_rfl) (by kernel_rfl) (by kernel_rfl) (fun _ _ _ h => h) (Or.inl ⟨by rfl, ?_⟩) (by assumption) ?_
    rotate_left
    · intro w hSw; go_simp; with_reducible rfl
    try simp only [Act.put, List.setIfInBounds_toArray, List.set_cons_zero, List.set_cons_succ]
    refine wpAnyH_take (i := 7) (v := ?_) rfl (by kernel_rfl) (by kernel_rfl) (by kernel_rfl) (fun _ _ _ h => h) (Or.inl ⟨by rfl, ?_⟩) (by assumption) ?_
    rotate_left
    · intro w hSw; go_simp; with_reducible rfl
    try simp only [Act.put, List.setIfInBounds_toArray, List.set_cons_zero, List.set_cons_succ]
    refine wpAnyH_take (i := 8) (v := ?_) rfl (by kernel_rfl) (by kernel_rfl) (by kernel_rfl) (fun _ _ _ h => h) (Or.inl ⟨by rfl, ?_⟩) (by assumption) ?_
    rotate_left
    · intro w hSw; go_simp; with_reducible rfl
    try simp only [Act.put, List.setIfInBounds_toArray, List.set_cons_zero, List.set_cons_succ]
    refine wpAnyH_take (i := 9) (v := ?_) rfl (by kernel_rfl) (by kernel_rfl) (by kernel_rfl) (fun _ _ _ h => h) (Or.inl ⟨by rfl, ?_⟩) (by assumption) ?_
    rotate_left
    · intro w hSw; go_simp; with_reducible rfl
    try simp only [Act.put, List.setIfInBounds_toArray, List.set_cons_zero, List.set_cons_succ]
    refine wpAnyH_take (i := 10) (v := ?_) rfl (by kernel_rfl) (by kernel_rfl) (by kernel_rfl) (fun _ _ _ h => h) (Or.inl ⟨by rfl, ?_⟩) (by assumption) ?_
    rotate_left
    · intro w hSw; go_simp; with_reducible rfl
    try simp only [Act.put, List.setIfInBounds_toArray, List.set_cons_zero, List.set_cons_succ]
    refine wpAnyH_take (i := 11) (v := ?_) rfl (by kernel_rfl) (by kernel_rfl) (by kernel_rfl) (fun _ _ _ h => h) (Or.inl ⟨by rfl, ?_⟩) (by assumption) ?_
    rotate_left
    · intro w hSw; go_simp; with_reducible rfl
    try simp only [Act.put, List.setIfInBounds_toArray, List.set_cons_zero, List.set_cons_succ]
    have HT1 := HT.out.drew
    refine wpAnyH_ready (rs := [2, 13]) (by kernel_rfl) (by simp) ?_
    refine AllReadyH.cons rfl (fun K hK => ?_) (AllReadyH.cons rfl (fun K hK => ?_) AllReadyH.nil)
    · go_simp
      refine (zzaddr_any is4 sb p4 p6 _ HT1.z).mono ?_
      rintro e w2 ⟨rfl, hb2⟩
      go_wp2_with fail
      have HT2 := HT1.below hb2
      refine hK.out _ _ ⟨range_of HT2.s, range_of HT2.d⟩ (fun hHeld => ?_)
      clear hK K
      try simp only [Act.put, List.setIfInBounds_toArray, List.set_cons_zero, List.set_cons_succ]
      refine wpAnyH_ready (rs := [5, 13]) (by kernel_rfl) (by simp) ?_
      refine AllReadyH.cons rfl (fun K hK => ?_) (AllReadyH.cons rfl (fun K hK => ?_) AllReadyH.nil)
      · go_simp
        refine (zzaddr_any is4 db p4 p6 _ HT2.z).mono ?_
        rintro e w3 ⟨rfl, hb3⟩
        go_wp2_with fail
        have HT3 := HT2.below hb3
        refine hK.out _ _ ⟨range_of HT3.s, range_of HT3.d⟩ (fun hHeld => ?_)
        clear hK K
        try simp only [Act.put, List.setIfInBounds_toArray, List.set_cons_zero, List.set_cons_succ]
        refine wpAnyH_take (i := 12) (v := ?_) rfl (by kernel_rfl) (by kernel_rfl) (by kernel_rfl) (fun _ _ _ h => h) (Or.inl ⟨by rfl, ?_⟩) (by assumption) ?_
        rotate_left
        · intro w hSw; go_simp; with_reducible rfl
        try simp only [Act.put, List.setIfInBounds_toArray, List.set_cons_zero, List.set_cons_succ]
        refine wpAnyH_ready (rs := [13]) (by kernel_rfl) (by simp) ?_
        refine AllReadyH.cons rfl (fun K hK => ?_) AllReadyH.nil
        go_simp
        have HT4 := HT3.alloc (.cells zero13 35)
        refine hK.out _ _ ⟨range_of HT4.s, range_of HT4.d⟩ (fun hHeld => ?_)
        clear hK K
        try simp only [Act.put, List.setIfInBounds_toArray, List.set_cons_zero, List.set_cons_succ]
        refine wpAnyH_ready (rs := [14]) (by kernel_rfl) (by simp) ?_
        refine AllReadyH.cons rfl (fun K hK => ?_) AllReadyH.nil
        go_simp
        have HT5 := HT3.alloc (.cells (pkt 0 (ahi is4 sb) (alo is4 sb) (zp p4 p6 is4) (ahi is4 db) (alo is4 db) (zp p4 p6 is4) sp dp ty co iif oif) 35)
        refine hK.out _ _ ⟨range_of HT5.s, range_of HT5.d⟩ (fun hHeld => ?_)
        clear hK K
        try simp only [Act.put, List.setIfInBounds_toArray, List.set_cons_zero, List.set_cons_succ]
        refine wpAnyH_done (by kernel_rfl) ?_ _
        go_wp2_with fail
        go_meet
        case rel => exact pkt_alloc HZ.out HT3.bel _
      · go_simp
        have HT3 := HT2.alloc (.cells zero13 35)
        refine hK.out _ _ ⟨range_of HT3.s, range_of HT3.d⟩ (fun hHeld => ?_)
        clear hK K
        try simp only [Act.put, List.setIfInBounds_toArray, List.set_cons_zero, List.set_cons_succ]
        refine wpAnyH_ready (rs := [5]) (by kernel_rfl) (by simp) ?_
        refine AllReadyH.cons rfl (fun K hK => ?_) AllReadyH.nil
        go_simp
        refine (zzaddr_any is4 db p4 p6 _ HT3.z).mono ?_
        rintro e w3 ⟨rfl, hb3⟩
        go_wp2_with fail
        have HT4 := HT3.below hb3
        refine hK.out _ _ ⟨range_of HT4.s, range_of HT4.d⟩ (fun hHeld => ?_)
        clear hK K
        try simp only [Act.put, List.setIfInBounds_toArray, List.set_cons_zero, List.set_cons_succ]
        refine wpAnyH_take (i := 12) (v := ?_) rfl (by kernel_rfl) (by kernel_rfl) (by kernel_rfl) (fun _ _ _ h => h) (Or.inl ⟨by rfl, ?_⟩) (by assumption) ?_
        rotate_left
        · intro w hSw; go_simp; with_reducible rfl
        try simp only [Act.put, List.setIfInBounds_toArray, List.set_cons_zero, List.set_cons_succ]
        refine wpAnyH_ready (rs := [14]) (by kernel_rfl) (by simp) ?_
        refine AllReadyH.cons rfl (fun K hK => ?_) AllReadyH.nil
        have hpk : w3.heap[w2.heap.size]? = some (.cells zero13 35 (0, 0)) := (hb3.block _ (by simp)).trans (heap_alloc_new _ _)
        rw [if_pos (by rfl)]
        refine wp_store_mid _ _ _ rfl _ _ _ rfl rfl (there_row hpk (Nat.le_refl 13)) size35 (by simp [Value.oneCell']) ?_
        have hbS := below_setCells (Nat.le_trans (by omega) HT2.size) (pkt 0 (ahi is4 sb) (alo is4 sb) (zp p4 p6 is4) (ahi is4 db) (alo is4 db) (zp p4 p6 is4) sp dp ty co iif oif).toList 0 HT4.bel
        refine hK.out _ _ ⟨range_keep HT4.s (by have := HT4.size; have := HT2.size; have := HT.out.size; omega), range_keep HT4.d (by have := HT4.size; have := HT2.size; have := HT.out.size; omega)⟩ (fun hHeld => ?_)
        clear hK K
        try simp only [Act.put, List.setIfInBounds_toArray, List.set_cons_zero, List.set_cons_succ]
        refine wpAnyH_done (by kernel_rfl) ?_ _
        go_wp2_with fail
        go_meet
        case rel => exact pkt_store HZ.out HT4.bel w2.heap.size (Nat.le_trans (by omega) HT2.size) hpk _ _ _ _ _ _ _ _ _ _ _ _ _
    · go_simp
      have HT2 := HT1.alloc (.cells zero13 35)
      refine hK.out _ _ ⟨range_of HT2.s, range_of HT2.d⟩ (fun hHeld => ?_)
      clear hK K
      try simp only [Act.put, List.setIfInBounds_toArray, List.set_cons_zero, List.set_cons_succ]
      refine wpAnyH_ready (rs := [2]) (by kernel_rfl) (by simp) ?_
      refine AllReadyH.cons rfl (fun K hK => ?_) AllReadyH.nil
      go_simp
      refine (zzaddr_any is4 sb p4 p6 _ HT2.z).mono ?_
      rintro e w2 ⟨rfl, hb2⟩
      go_wp2_with fail
      have HT3 := HT2.below hb2
      refine hK.out _ _ ⟨range_of HT3.s, range_of HT3.d⟩ (fun hHeld => ?_)
      clear hK K
      try simp only [Act.put, List.setIfInBounds_toArray, List.set_cons_zero, List.set_cons_succ]
      refine wpAnyH_ready (rs := [5]) (by kernel_rfl) (by simp) ?_
      refine AllReadyH.cons rfl (fun K hK => ?_) AllReadyH.nil
      go_simp
      refine (zzaddr_any is4 db p4 p6 _ HT3.z).mono ?_
      rintro e w3 ⟨rfl, hb3⟩
      go_wp2_with fail
      have HT4 := HT3.below hb3
      refine hK.out _ _ ⟨range_of HT4.s, range_of HT4.d⟩ (fun hHeld => ?_)
      clear hK K
      try simp only [Act.put, List.setIfInBounds_toArray, List.set_cons_zero, List.set_cons_succ]
      refine wpAnyH_take (i := 12) (v := ?_) rfl (by kernel_rfl) (by kernel_rfl) (by kernel_rfl) (fun _ _ _ h => h) (Or.inl ⟨by rfl, ?_⟩) (by assumption) ?_
      rotate_left
      · intro w hSw; go_simp; with_reducible rfl
      try simp only [Act.put, List.setIfInBounds_toArray, List.set_cons_zero, List.set_cons_succ]
      refine wpAnyH_ready (rs := [14]) (by kernel_rfl) (by simp) ?_
      refine AllReadyH.cons rfl (fun K hK => ?_) AllReadyH.nil
      have hpk : w3.heap[w1.heap.size]? = some (.cells zero13 35 (0, 0)) := (hb3.block _ (Nat.lt_of_lt_of_le (by simp) hb2.size)).trans ((hb2.block _ (by simp)).trans (heap_alloc_new _ _))
      rw [if_pos (by rfl)]
      refine wp_store_mid _ _ _ rfl _ _ _ rfl rfl (there_row hpk (Nat.le_refl 13)) size35 (by simp [Value.oneCell']) ?_
      have hbS := below_setCells (Nat.le_trans (by omega) HT1.size) (pkt 0 (ahi is4 sb) (alo is4 sb) (zp p4 p6 is4) (ahi is4 db) (alo is4 db) (zp p4 p6 is4) sp dp ty co iif oif).toList 0 HT4.bel
      refine hK.out _ _ ⟨range_keep HT4.s (by have := HT4.size; have := HT2.size; have := HT.out.size; omega), range_keep HT4.d (by have := HT4.size; have := HT2.size; have := HT.out.size; omega)⟩ (fun hHeld => ?_)
      clear hK K
      try simp only [Act.put, List.setIfInBounds_toArray, List.set_cons_zero, List.set_cons_succ]
      refine wpAnyH_done (by kernel_rfl) ?_ _
      go_wp2_with fail
      go_meet
      case rel => exact pkt_store HZ.out HT4.bel w1.heap.size (Nat.le_trans (by omega) HT1.size) hpk _ _ _ _ _ _ _ _ _ _ _ _ _
  case rest =>
    clear HT hu his hid'
    obtain ⟨pb, rfl, hpk, hpb, hzc, hbc⟩ := hcut
    have HP := hid hpk
    have HZC := hid hzc
    have HBC := hid hbc
    clear hpk hzc hbc
    go_wp2
    go_loopw [20, 21, 22] (fun c f i wr => ∃ k : Nat, k ≤ 256 ∧ i = .int .i64 k ∧ c = .int .i64 (cnt is4 k) ∧ f = .int .i64 (fnd is4 k) ∧ (∃ pr : Int, wr.heap[pb]? = some (.cells (pkt pr (ahi is4 sb) (alo is4 sb) (zp p4 p6 is4) (ahi is4 db) (alo is4 db) (zp p4 p6 is4) sp dp ty co iif oif) 35 (0, 0))) ∧ Below w.heap.size w wr) (fun _ _ i _ => 256 - (intOf i).toNat)
    case atStart => exact ⟨0, by omega, rfl, by rw [cnt_zero], by rw [fnd_zero], ⟨0, HP.out⟩, HBC.out⟩
    case round =>
      obtain ⟨k, hk, rfl, rfl, rfl, ⟨pr, hrow⟩, hbr⟩ := hrel
      have hc0 : wr.cell? ⟨pb, 0, none⟩ = some (.int .u8 pr) := by rw [cell_of_row wr pb 0 _ 35 (0, 0) hrow]; rfl
      have hf0 : wr.frozen? ⟨pb, 0, none⟩ = false := frozen_of_row wr pb 0 _ 35 hrow
      have hrow2 : (wr.setCell ⟨pb, 0, none⟩ (.int .u8 k)).heap[pb]? = some (.cells (pkt k (ahi is4 sb) (alo is4 sb) (zp p4 p6 is4) (ahi is4 db) (alo is4 db) (zp p4 p6 is4) sp dp ty co iif oif) 35 (0, 0)) := heap_setCell_same wr pb 0 _ 35 (.int .u8 k) hrow
      have HR := hid hrow2
      have HB2 := hid (hbr.setCell (p := ⟨pb, 0, none⟩) hpb (.int .u8 k))
      have HZ2 := hid (HZ.out.below HB2.out)
      have HBR := hid hbr
      have HROW := hid hrow
      clear hrow2 hbr hrow
      obtain ⟨hcb, hcb'⟩ := cnt_bd is4 k
      by_cases hlt : k < 256
      · rcases Bool.eq_false_or_eq_true (icmp is4 k) with hi | hi
        · have HI := hid hi
          have HC := hid (cnt_yes hi)
          have HF := hid (fnd_yes hi)
          clear hi
          go_wp2_with (first
            | (refine wpList_load_row rfl 35 (.tmp 19) rfl pb rfl 35 _ (0, 0) _ HR.out Tryd.underlying35 rfl size35 ?_)
            | (go_at_call 9; refine (isICMP_any is4 k (ahi is4 sb) (alo is4 sb) (ahi is4 db) (alo is4 db) sp dp ty co (zp p4 p6 is4) iif oif p4 p6 _ HZ2.out).mono ?_; rw [HI.out]; rintro e w5 ⟨rfl, hb5⟩; have HX := hid (HB2.out.trans (hb5.mono (by simpa using HBR.out.size))); have HRX := hid ((hb5.block pb (by simpa using heap_lt HROW.out)).trans HR.out); clear hb5))
          go_roundw
          case rel => exact ⟨k + 1, by omega, by go_num, by rw [HC.out], by rw [HF.out], ⟨_, HRX.out⟩, HX.out⟩
          case measure => simp [intOf]; omega
        · have HI := hid hi
          have HC := hid (cnt_no hi)
          have HF := hid (fnd_no hi)
          clear hi
          go_wp2_with (first
            | (refine wpList_load_row rfl 35 (.tmp 19) rfl pb rfl 35 _ (0, 0) _ HR.out Tryd.underlying35 rfl size35 ?_)
            | (go_at_call 9; refine (isICMP_any is4 k (ahi is4 sb) (alo is4 sb) (ahi is4 db) (alo is4 db) sp dp ty co (zp p4 p6 is4) iif oif p4 p6 _ HZ2.out).mono ?_; rw [HI.out]; rintro e w5 ⟨rfl, hb5⟩; have HX := hid (HB2.out.trans (hb5.mono (by simpa using HBR.out.size))); have HRX := hid ((hb5.block pb (by simpa using heap_lt HROW.out)).trans HR.out); clear hb5))
          go_roundw
          case rel => exact ⟨k + 1, by omega, by go_num, by rw [HC.out], by rw [HF.out], ⟨_, HRX.out⟩, HX.out⟩
          case measure => simp [intOf]; omega
      · obtain rfl : k = 256 := by omega
        have e1 : cnt is4 256 = 1 := by cases is4 <;> rfl
        have e2 : fnd is4 256 = want is4 := by cases is4 <;> rfl
        rw [e1, e2]
        cases is4
        all_goals
          simp only [want]
          go_wp2
          go_ret
          exact ⟨rfl, HBR.out⟩
end Go.Proofs.Qxb6615875aDoor
