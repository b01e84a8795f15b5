import Derived.Test.Qxb6615875aDoorH4
namespace Go.Proofs.Qxb6615875aDoor
open Go.RowKit
set_option linter.unusedSimpArgs false
set_option linter.unusedVariables false

theorem heapOld {w : World} {k : Nat} {o : Obj} (h : w.heap[k]? = some o) (x : Obj) : (w.alloc x).heap[k]? = some o := by
  rw [Below.heap_alloc _ _ _ (heap_lt h)]; exact h
/-- A zone's row. -/
def zoneV (name : ByteArray) (ia : Option Addr) (il ic : Nat) : Array Value := #[.string name, .slice ia il ic, .slice none 0 0]
theorem size63 : (Tryd.prog.info? 63).map (·.size) = some 3 := by kernel_rfl
theorem zone_row {w : World} {zb zo t : Nat} {C : Array Value} {name : ByteArray} {ia : Option Addr} {il ic : Nat} {ss : Nat → ByteArray} (h : w.heap[zb]? = some (.cells C t (0, 0))) (h0 : C[zo]? = some (.string name)) (h1 : C[zo + 1]? = some (.slice ia il ic)) (h2 : C[zo + 2]? = some (.slice none 0 0)) (hs : Strs w ia il ss) : ZoneAt w zb zo name ia il ic ss :=
  ⟨(cell_of_row w zb zo _ t (0, 0) h).trans h0, (cell_of_row w zb (zo + 1) _ t (0, 0) h).trans h1, (cell_of_row w zb (zo + 2) _ t (0, 0) h).trans h2, hs⟩

section
variable (name : ByteArray) (ia : Option Addr) (il ic : Nat) (ss : Nat → ByteArray) (proto sh sl dh dl : Int) (sz dz : Addr) (iif oif : ByteArray)

/-- The world in which a rule with one list of zones, laid in two new blocks, is asked. -/
theorem ask_in1 (X : World) (hs : Strs X ia il ss) (hn : il ≤ 4096) :
    Calls Tryd.prog 11 #[.pointer (some ⟨X.heap.size + 1, 0, none⟩), .agg (pkt proto sh sl sz dh dl dz 0 0 0 0 iif oif)] ((X.alloc (.cells (zoneV name ia il ic) 63)).alloc (.cells (ruleV (.slice (some ⟨X.heap.size, 0, none⟩) 1 1) (.slice none 0 0) (.slice none 0 0) (.slice none 0 0) (.slice none 0 0)) 51)) fun e w' =>
      e = .returned (.bool (cov name ia il ss (path iif oif == 2) iif)) ∧ Below X.heap.size X w' := by
  have hbX : Below X.heap.size X ((X.alloc (.cells (zoneV name ia il ic) 63)).alloc (.cells (ruleV (.slice (some ⟨X.heap.size, 0, none⟩) 1 1) (.slice none 0 0) (.slice none 0 0) (.slice none 0 0) (.slice none 0 0)) 51)) := ((Below.refl _ _).alloc (Nat.le_refl _) _).alloc (by simp) _
  have hrow := heapOld (heap_alloc_new X (.cells (zoneV name ia il ic) 63)) (.cells (ruleV (.slice (some ⟨X.heap.size, 0, none⟩) 1 1) (.slice none 0 0) (.slice none 0 0) (.slice none 0 0) (.slice none 0 0)) 51)
  have hr : ((X.alloc (.cells (zoneV name ia il ic) 63)).alloc (.cells (ruleV (.slice (some ⟨X.heap.size, 0, none⟩) 1 1) (.slice none 0 0) (.slice none 0 0) (.slice none 0 0) (.slice none 0 0)) 51)).heap[X.heap.size + 1]? = some (.cells (ruleV (.slice (some ⟨X.heap.size, 0, none⟩) 1 1) (.slice none 0 0) (.slice none 0 0) (.slice none 0 0) (.slice none 0 0)) 51 (0, 0)) := by
    have := heap_alloc_new (X.alloc (.cells (zoneV name ia il ic) 63)) (.cells (ruleV (.slice (some ⟨X.heap.size, 0, none⟩) 1 1) (.slice none 0 0) (.slice none 0 0) (.slice none 0 0) (.slice none 0 0)) 51)
    simpa using this
  have hs2 := hs.below hbX
  generalize (X.alloc (.cells (zoneV name ia il ic) 63)).alloc (.cells (ruleV (.slice (some ⟨X.heap.size, 0, none⟩) 1 1) (.slice none 0 0) (.slice none 0 0) (.slice none 0 0) (.slice none 0 0)) 51) = Y at hbX hrow hr hs2 ⊢
  have hz : ZoneAt Y X.heap.size 0 name ia il ic ss := zone_row hrow rfl rfl rfl hs2
  refine (zz_rule (X.heap.size + 1) _ _ _ _ _ ⟨_, _, _, rfl⟩ ⟨_, _, _, rfl⟩ ⟨_, _, _, rfl⟩ ⟨_, _, _, rfl⟩ proto sh sl dh dl 0 0 0 0 sz dz iif oif Y hr (cov name ia il ss (path iif oif == 2) iif) true true true true
    (fun W hW => zones_1 X.heap.size _ iif sh sl sz W _ (fun V hV => covers_any X.heap.size 0 name _ ia il ic ss iif sh sl sz V ((hz.below hW).below hV) hn))
    (fun W _ => zones_nil _ _ _ _ _ W) (fun W _ => prefixes_nil _ _ _ W) (fun W _ => prefixes_nil _ _ _ W) (svc_nil hr proto sh sl dh dl 0 0 0 0 sz dz iif oif)).mono ?_
  rintro e w' ⟨rfl, hb⟩
  exact ⟨by simp, hbX.trans (hb.mono hbX.size)⟩

theorem ask_out1 (X : World) (hs : Strs X ia il ss) (hn : il ≤ 4096) :
    Calls Tryd.prog 11 #[.pointer (some ⟨X.heap.size + 1, 0, none⟩), .agg (pkt proto sh sl sz dh dl dz 0 0 0 0 iif oif)] ((X.alloc (.cells (zoneV name ia il ic) 63)).alloc (.cells (ruleV (.slice none 0 0) (.slice (some ⟨X.heap.size, 0, none⟩) 1 1) (.slice none 0 0) (.slice none 0 0) (.slice none 0 0)) 51)) fun e w' =>
      e = .returned (.bool (cov name ia il ss (path iif oif == 0) oif)) ∧ Below X.heap.size X w' := by
  have hbX : Below X.heap.size X ((X.alloc (.cells (zoneV name ia il ic) 63)).alloc (.cells (ruleV (.slice none 0 0) (.slice (some ⟨X.heap.size, 0, none⟩) 1 1) (.slice none 0 0) (.slice none 0 0) (.slice none 0 0)) 51)) := ((Below.refl _ _).alloc (Nat.le_refl _) _).alloc (by simp) _
  have hrow := heapOld (heap_alloc_new X (.cells (zoneV name ia il ic) 63)) (.cells (ruleV (.slice none 0 0) (.slice (some ⟨X.heap.size, 0, none⟩) 1 1) (.slice none 0 0) (.slice none 0 0) (.slice none 0 0)) 51)
  have hr : ((X.alloc (.cells (zoneV name ia il ic) 63)).alloc (.cells (ruleV (.slice none 0 0) (.slice (some ⟨X.heap.size, 0, none⟩) 1 1) (.slice none 0 0) (.slice none 0 0) (.slice none 0 0)) 51)).heap[X.heap.size + 1]? = some (.cells (ruleV (.slice none 0 0) (.slice (some ⟨X.heap.size, 0, none⟩) 1 1) (.slice none 0 0) (.slice none 0 0) (.slice none 0 0)) 51 (0, 0)) := by
    have := heap_alloc_new (X.alloc (.cells (zoneV name ia il ic) 63)) (.cells (ruleV (.slice none 0 0) (.slice (some ⟨X.heap.size, 0, none⟩) 1 1) (.slice none 0 0) (.slice none 0 0) (.slice none 0 0)) 51)
    simpa using this
  have hs2 := hs.below hbX
  generalize (X.alloc (.cells (zoneV name ia il ic) 63)).alloc (.cells (ruleV (.slice none 0 0) (.slice (some ⟨X.heap.size, 0, none⟩) 1 1) (.slice none 0 0) (.slice none 0 0) (.slice none 0 0)) 51) = Y at hbX hrow hr hs2 ⊢
  have hz : ZoneAt Y X.heap.size 0 name ia il ic ss := zone_row hrow rfl rfl rfl hs2
  refine (zz_rule (X.heap.size + 1) _ _ _ _ _ ⟨_, _, _, rfl⟩ ⟨_, _, _, rfl⟩ ⟨_, _, _, rfl⟩ ⟨_, _, _, rfl⟩ proto sh sl dh dl 0 0 0 0 sz dz iif oif Y hr true (cov name ia il ss (path iif oif == 0) oif) true true true
    (fun W _ => zones_nil _ _ _ _ _ W)
    (fun W hW => zones_1 X.heap.size _ oif dh dl dz W _ (fun V hV => covers_any X.heap.size 0 name _ ia il ic ss oif dh dl dz V ((hz.below hW).below hV) hn))
    (fun W _ => prefixes_nil _ _ _ W) (fun W _ => prefixes_nil _ _ _ W) (svc_nil hr proto sh sl dh dl 0 0 0 0 sz dz iif oif)).mono ?_
  rintro e w' ⟨rfl, hb⟩
  exact ⟨by simp, hbX.trans (hb.mono hbX.size)⟩

theorem ask_in2 (X : World) (nameH : ByteArray) (hs : Strs X ia il ss) (hn : il ≤ 4096) :
    Calls Tryd.prog 11 #[.pointer (some ⟨X.heap.size + 1, 0, none⟩), .agg (pkt proto sh sl sz dh dl dz 0 0 0 0 iif oif)] ((X.alloc (.cells (zoneV nameH none 0 0 ++ zoneV name ia il ic) 63)).alloc (.cells (ruleV (.slice (some ⟨X.heap.size, 0, none⟩) 2 2) (.slice none 0 0) (.slice none 0 0) (.slice none 0 0) (.slice none 0 0)) 51)) fun e w' =>
      e = .returned (.bool (cov nameH none 0 ss (path iif oif == 2) iif || cov name ia il ss (path iif oif == 2) iif)) ∧ Below X.heap.size X w' := by
  have hbX : Below X.heap.size X ((X.alloc (.cells (zoneV nameH none 0 0 ++ zoneV name ia il ic) 63)).alloc (.cells (ruleV (.slice (some ⟨X.heap.size, 0, none⟩) 2 2) (.slice none 0 0) (.slice none 0 0) (.slice none 0 0) (.slice none 0 0)) 51)) := ((Below.refl _ _).alloc (Nat.le_refl _) _).alloc (by simp) _
  have hrow := heapOld (heap_alloc_new X (.cells (zoneV nameH none 0 0 ++ zoneV name ia il ic) 63)) (.cells (ruleV (.slice (some ⟨X.heap.size, 0, none⟩) 2 2) (.slice none 0 0) (.slice none 0 0) (.slice none 0 0) (.slice none 0 0)) 51)
  have hr : ((X.alloc (.cells (zoneV nameH none 0 0 ++ zoneV name ia il ic) 63)).alloc (.cells (ruleV (.slice (some ⟨X.heap.size, 0, none⟩) 2 2) (.slice none 0 0) (.slice none 0 0) (.slice none 0 0) (.slice none 0 0)) 51)).heap[X.heap.size + 1]? = some (.cells (ruleV (.slice (some ⟨X.heap.size, 0, none⟩) 2 2) (.slice none 0 0) (.slice none 0 0) (.slice none 0 0) (.slice none 0 0)) 51 (0, 0)) := by
    have := heap_alloc_new (X.alloc (.cells (zoneV nameH none 0 0 ++ zoneV name ia il ic) 63)) (.cells (ruleV (.slice (some ⟨X.heap.size, 0, none⟩) 2 2) (.slice none 0 0) (.slice none 0 0) (.slice none 0 0) (.slice none 0 0)) 51)
    simpa using this
  have hs2 := hs.below hbX
  generalize (X.alloc (.cells (zoneV nameH none 0 0 ++ zoneV name ia il ic) 63)).alloc (.cells (ruleV (.slice (some ⟨X.heap.size, 0, none⟩) 2 2) (.slice none 0 0) (.slice none 0 0) (.slice none 0 0) (.slice none 0 0)) 51) = Y at hbX hrow hr hs2 ⊢
  have hz0 : ZoneAt Y X.heap.size 0 nameH none 0 0 ss := zone_row hrow rfl rfl rfl (fun i hi => by omega)
  have hz : ZoneAt Y X.heap.size 3 name ia il ic ss := zone_row hrow rfl rfl rfl hs2
  refine (zz_rule (X.heap.size + 1) _ _ _ _ _ ⟨_, _, _, rfl⟩ ⟨_, _, _, rfl⟩ ⟨_, _, _, rfl⟩ ⟨_, _, _, rfl⟩ proto sh sl dh dl 0 0 0 0 sz dz iif oif Y hr _ true true true true
    (fun W hW => zones_2 X.heap.size _ iif sh sl sz W _ _ (fun V hV => covers_any X.heap.size 0 nameH _ none 0 0 ss iif sh sl sz V ((hz0.below hW).below hV) (by omega)) (fun V hV => covers_any X.heap.size 3 name _ ia il ic ss iif sh sl sz V ((hz.below hW).below hV) hn))
    (fun W _ => zones_nil _ _ _ _ _ W) (fun W _ => prefixes_nil _ _ _ W) (fun W _ => prefixes_nil _ _ _ W) (svc_nil hr proto sh sl dh dl 0 0 0 0 sz dz iif oif)).mono ?_
  rintro e w' ⟨rfl, hb⟩
  exact ⟨by simp, hbX.trans (hb.mono hbX.size)⟩
end
end Go.Proofs.Qxb6615875aDoor
