import Derived.Test.Qxb6615875aDoorA3
import Derived.LaidEqlPtr
namespace Go.Proofs.Qxb6615875aDoor
open Go.RowKit

theorem info121 : (Tryd.prog.info? 121).map (fun i => i.size) = some 2 := by kernel_rfl
theorem fields30 : Tryd.prog.underlying 30 = some (.struct (Tryd.prog.fieldsOf 30)) := by kernel_rfl
theorem held30 : Tryd.prog.stoodInHeld 30 = false := by kernel_rfl

theorem ptr_same (w : World) (d : Nat) (a : Addr) : (Op.equalIn (d + 1) 28 (.pointer (some a)) (.pointer (some a))).run Tryd.prog w = .ok true w := by
  obtain ⟨j, hj, hs⟩ := Option.map_eq_some_iff.1 info121
  simp [Op.equalIn, run_underlying Tryd.underlying28, sizeOf, typeInfo, hj, run_sameAddr_same]
theorem ptr_other (w : World) (d : Nat) {a b : Addr} {ca cb : Array Value} {ta tb : TypeId} (hne : a ≠ b) (ha : w.heap[a.block]? = some (.cells ca ta (0, 0))) (hb : w.heap[b.block]? = some (.cells cb tb (0, 0))) :
    (Op.equalIn (d + 1) 28 (.pointer (some a)) (.pointer (some b))).run Tryd.prog w = .ok false w := by
  obtain ⟨j, hj, hs⟩ := Option.map_eq_some_iff.1 info121
  have hsz : j.size ≠ 0 := by omega
  simp [Op.equalIn, run_underlying Tryd.underlying28, sizeOf, typeInfo, hj, hsz, run_sameAddr_other w hne ha hb]
theorem ptr_nil (w : World) (d : Nat) : (Op.equalIn (d + 1) 28 (.pointer none) (.pointer none)).run Tryd.prog w = .ok true w := by
  simp [Op.equalIn, run_underlying Tryd.underlying28]
theorem ptr_some_nil (w : World) (d : Nat) (a : Addr) : (Op.equalIn (d + 1) 28 (.pointer (some a)) (.pointer none)).run Tryd.prog w = .ok false w := by
  simp [Op.equalIn, run_underlying Tryd.underlying28]
theorem ptr_nil_some (w : World) (d : Nat) (a : Addr) : (Op.equalIn (d + 1) 28 (.pointer none) (.pointer (some a))).run Tryd.prog w = .ok false w := by
  simp [Op.equalIn, run_underlying Tryd.underlying28]

theorem part28 (w : World) (x : Value) : (part 28 #[x] 0).run Tryd.prog w = .ok x w := by kernel_rfl
theorem fieldRow30 : (Tryd.prog.fieldsOf 30).toList.map (fun f => (f.name, f.type, f.offset)) = [("value", 28, 0)] := by kernel_rfl
theorem eq30 (w : World) (x y : Value) (b : Bool) (h : (Op.equalIn 9999 28 x y).run Tryd.prog w = .ok b w) : (binOp .eql 30 (.agg #[x]) (.agg #[y])).run Tryd.prog w = .ok (.bool b) w := by
  rw [run_eql_struct, run_equalIn_struct w 9999 30 _ _ fields30 held30]
  obtain ⟨f, hl, hf⟩ := List.map_eq_singleton_iff.1 fieldRow30
  simp only [Prod.mk.injEq] at hf
  obtain ⟨h1, h2, h3⟩ := hf
  rw [hl]
  have hne : f.name ≠ "_" := by rw [h1]; decide
  simp only [Op.eqFields, hne, ne_eq, not_false_eq_true, if_true, Sem.run_bind, h2, h3, part28, Result.andThen_ok, h]
  cases b <;> simp

/-- What memory says of netip's three handles. -/
structure Zs (w : World) (p4 p6 : Addr) : Prop where
  z4 : w.cell? ⟨0, 0, none⟩ = some (.pointer (some p4))
  z6 : w.cell? ⟨1, 0, none⟩ = some (.pointer (some p6))
  ne : p4 ≠ p6
  h4 : ∃ c t, w.heap[p4.block]? = some (.cells c t (0, 0))
  h6 : ∃ c t, w.heap[p6.block]? = some (.cells c t (0, 0))

theorem heap_lt {w : World} {k : Nat} {o : Obj} (h : w.heap[k]? = some o) : k < w.heap.size := (Array.getElem?_eq_some_iff.1 h).1
theorem Zs.below {w w' : World} {p4 p6 : Addr} (h : Zs w p4 p6) (hb : Below w.heap.size w w') : Zs w' p4 p6 := by
  obtain ⟨c4, t4, g4⟩ := h.h4
  obtain ⟨c6, t6, g6⟩ := h.h6
  exact ⟨(hb.cell (p := ⟨0, 0, none⟩) (block_lt_of_cell (a := ⟨0, 0, none⟩) h.z4)).trans h.z4, (hb.cell (p := ⟨1, 0, none⟩) (block_lt_of_cell (a := ⟨1, 0, none⟩) h.z6)).trans h.z6, h.ne,
    ⟨c4, t4, (hb.block _ (heap_lt g4)).trans g4⟩, ⟨c6, t6, (hb.block _ (heap_lt g6)).trans g6⟩⟩
theorem Zs.alloc {w : World} {p4 p6 : Addr} (h : Zs w p4 p6) (o : Obj) : Zs (w.alloc o) p4 p6 := h.below ((Below.refl _ _).alloc (Nat.le_refl _) o)

theorem Zs.e46 {w : World} {p4 p6 : Addr} (h : Zs w p4 p6) : (Op.equalIn 9999 28 (.pointer (some p4)) (.pointer (some p6))).run Tryd.prog w = .ok false w := by
  obtain ⟨c4, t4, g4⟩ := h.h4
  obtain ⟨c6, t6, g6⟩ := h.h6
  exact ptr_other _ 9998 h.ne g4 g6
theorem Zs.e64 {w : World} {p4 p6 : Addr} (h : Zs w p4 p6) : (Op.equalIn 9999 28 (.pointer (some p6)) (.pointer (some p4))).run Tryd.prog w = .ok false w := by
  obtain ⟨c4, t4, g4⟩ := h.h4
  obtain ⟨c6, t6, g6⟩ := h.h6
  exact ptr_other _ 9998 (Ne.symm h.ne) g6 g4

/-- The handle of an address of the family. -/
def zp (p4 p6 : Addr) (is4 : Bool) : Addr := if is4 then p4 else p6

set_option maxHeartbeats 1000000 in
theorem is4_any (is4 : Bool) (hi lo : Int) (p4 p6 : Addr) (w : World) (hz : Zs w p4 p6) :
    Calls Tryd.prog 36 #[.agg #[.int .u64 hi, .int .u64 lo, .pointer (some (zp p4 p6 is4))]] w fun e w' => e = .returned (.bool is4) ∧ Below w.heap.size w w' := by
  have h4 := hz.z4
  have hsz : 0 < w.heap.size := block_lt_of_cell (a := ⟨0, 0, none⟩) h4
  have h46 := fun o => (hz.alloc o).e64
  have h44 := fun o => ptr_same (w.alloc o) 9998 p4
  cases is4
  · show Calls Tryd.prog 36 #[.agg #[.int .u64 hi, .int .u64 lo, .pointer (some p6)]] w _
    go_enter Tryd.func36, Tryd.ntmps36
    go_wp2
    go_ret
    exact ⟨rfl, (Below.refl _ _).alloc (Nat.le_refl _) _⟩
  · show Calls Tryd.prog 36 #[.agg #[.int .u64 hi, .int .u64 lo, .pointer (some p4)]] w _
    go_enter Tryd.func36, Tryd.ntmps36
    go_wp2
    go_ret
    exact ⟨rfl, (Below.refl _ _).alloc (Nat.le_refl _) _⟩

/-- The family's number. -/
def fam (is4 : Bool) : Int := if is4 then 4 else 6

set_option maxHeartbeats 1000000 in
theorem familyOf_any (is4 : Bool) (hi lo : Int) (p4 p6 : Addr) (w : World) (hz : Zs w p4 p6) :
    Calls Tryd.prog 28 #[.agg #[.int .u64 hi, .int .u64 lo, .pointer (some (zp p4 p6 is4))]] w fun e w' => e = .returned (.int .u8 (fam is4)) ∧ Below w.heap.size w w' := by
  cases is4
  · go_enter Tryd.func28, Tryd.ntmps28
    go_wp2_with (go_at_call 36; refine (is4_any _ hi lo p4 p6 _ (hz.alloc _)).mono ?_; rintro e w' ⟨rfl, hb⟩)
    go_ret
    exact ⟨rfl, ((Below.refl _ _).alloc (Nat.le_refl _) _).trans (hb.mono (by simp))⟩
  · go_enter Tryd.func28, Tryd.ntmps28
    go_wp2_with (go_at_call 36; refine (is4_any _ hi lo p4 p6 _ (hz.alloc _)).mono ?_; rintro e w' ⟨rfl, hb⟩)
    go_ret
    exact ⟨rfl, ((Below.refl _ _).alloc (Nat.le_refl _) _).trans (hb.mono (by simp))⟩

/-- A packet's thirteen cells. -/
def pkt (proto : Int) (sh sl : Int) (sz : Addr) (dh dl : Int) (dz : Addr) (sp dp ty co : Int) (iif oif : ByteArray) : Array Value :=
  #[.int .u8 proto, .int .u64 sh, .int .u64 sl, .pointer (some sz), .int .u64 dh, .int .u64 dl, .pointer (some dz), .int .u16 sp, .int .u16 dp, .int .u8 ty, .int .u8 co, .string iif, .string oif]

set_option maxHeartbeats 1000000 in
theorem family_any (is4 : Bool) (proto sh sl dh dl sp dp ty co : Int) (dz : Addr) (iif oif : ByteArray) (p4 p6 : Addr) (w : World) (hz : Zs w p4 p6) :
    Calls Tryd.prog 21 #[.agg (pkt proto sh sl (zp p4 p6 is4) dh dl dz sp dp ty co iif oif)] w fun e w' => e = .returned (.int .u8 (fam is4)) ∧ Below w.heap.size w w' := by
  unfold pkt
  go_enter Tryd.func21, Tryd.ntmps21
  go_wp2_with (go_at_call 28; refine (familyOf_any is4 sh sl p4 p6 _ (hz.alloc _)).mono ?_; rintro e w' ⟨rfl, hb⟩)
  go_ret
  exact ⟨rfl, ((Below.refl _ _).alloc (Nat.le_refl _) _).trans (hb.mono (by simp))⟩

/-- Is it the family's own ICMP? -/
def icmp (is4 : Bool) (proto : Int) : Bool := if is4 then proto == 1 else proto == 58

set_option maxHeartbeats 2000000 in
theorem isICMP_any (is4 : Bool) (proto sh sl dh dl sp dp ty co : Int) (dz : Addr) (iif oif : ByteArray) (p4 p6 : Addr) (w : World) (hz : Zs w p4 p6) :
    Calls Tryd.prog 9 #[.agg (pkt proto sh sl (zp p4 p6 is4) dh dl dz sp dp ty co iif oif)] w fun e w' => e = .returned (.bool (icmp is4 proto)) ∧ Below w.heap.size w w' := by
  by_cases h1 : proto = 1
  · subst h1
    have e0 : icmp is4 1 = decide (4 = fam is4) := by cases is4 <;> rfl
    rw [e0]
    cases is4
    all_goals
      unfold pkt
      go_enter Tryd.func9, Tryd.ntmps9
      go_wp2_with (first | (go_at_call 21; refine (family_any _ 1 sh sl dh dl sp dp ty co dz iif oif p4 p6 _ (hz.alloc _)).mono ?_; rintro e w' ⟨rfl, hb⟩; simp only [fam]) | go_in)
      go_ret
      exact ⟨by simp [fam], ((Below.refl _ _).alloc (Nat.le_refl _) _).trans (hb.mono (by simp))⟩
  by_cases h2 : proto = 58
  · subst h2
    have e0 : icmp is4 58 = decide (6 = fam is4) := by cases is4 <;> rfl
    rw [e0]
    cases is4
    all_goals
      unfold pkt
      go_enter Tryd.func9, Tryd.ntmps9
      go_wp2_with (first | (go_at_call 21; refine (family_any _ 58 sh sl dh dl sp dp ty co dz iif oif p4 p6 _ (hz.alloc _)).mono ?_; rintro e w' ⟨rfl, hb⟩; simp only [fam]) | go_in)
      go_ret
      exact ⟨by simp [fam], ((Below.refl _ _).alloc (Nat.le_refl _) _).trans (hb.mono (by simp))⟩
  have b1 : (proto == 1) = false := by simpa using h1
  have b2 : (proto == 58) = false := by simpa using h2
  have e0 : icmp is4 proto = false := by cases is4 <;> simp [icmp, b1, b2]
  rw [e0]
  clear h1 h2 e0
  unfold pkt
  go_enter Tryd.func9, Tryd.ntmps9
  go_wp2
  go_ret
  exact ⟨rfl, (Below.refl _ _).alloc (Nat.le_refl _) _⟩
end Go.Proofs.Qxb6615875aDoor
