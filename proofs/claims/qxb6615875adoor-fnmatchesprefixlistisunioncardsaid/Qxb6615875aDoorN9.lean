import Derived.Test.Qxb6615875aDoorN8
import Derived.Test.Qxb6615875aDoorH4
namespace Go.Proofs.Qxb6615875aDoor
open Go.RowKit
set_option linter.unusedSimpArgs false
set_option linter.unusedVariables false
attribute [local go_sem ↓] Go.wp_at_zero Go.wp_at_succ

/-- A load of a row where the operation is wanted, guarded or not. -/
theorem wpList_load_on {P : Program} {ops : Array Oper} {rest : List Oper} {op : Oper} {a : Act} {w : World} {Q : Exit → Act → World → Prop} (hw : Region.wanted op (yielded ops a.tmps) = true) (ty : TypeId) (x : Operand) (ho : op.op = .load ty x)
    (b o : Nat) (hx : a.eval x = .pointer (some ⟨b, o, none⟩)) (cs : List Value) (d : TypeDesc) (hc : w.rangeAt b o cs)
    (hu : P.underlying ty = some d) (hd : d.isRow = true) (hi : (P.info? ty).map (·.size) = some cs.length)
    (h : wpList P ops Q rest (a.put op.dst (.agg cs.toArray)) w) : wpList P ops Q (op :: rest) a w := by
  unfold wpList
  rw [if_pos hw]
  exact .inl (wp_load_mid ty x ho b o hx cs d hc hu hd hi h)

def Res12 (w : World) (e : Ending) (w' : World) : Prop := (∃ b, e = .returned (.bool b)) ∧ Below w.heap.size w w'
theorem res12 {w w' : World} {e : Ending} {b : Bool} (h : e = .returned (.bool b)) (hb : Below w.heap.size w w') : Res12 w e w' := ⟨⟨b, h⟩, hb⟩
set_option maxHeartbeats 2000000 in
theorem bytes12_any (proto : Int) (iif oif : ByteArray) (sis4 : Bool) (sb : Nat → UInt8) (dis4 : Bool) (db : Nat → UInt8) (ad : Option Addr) (n c : Nat) (at_ : Int) (x : LP) (w : World) (h1 : iif.size ≤ maxLen) (h2 : oif.size ≤ maxLen) (h3 : n ≤ maxLen) :
    Calls Tryd.prog 12 #[.int .u8 proto, .string iif, .string oif, .bool sis4, .agg (cells16 sb), .bool dis4, .agg (cells16 db), .slice ad n c, .int .i64 at_, .agg x.v] w fun e w' => Res12 w e w' := by
  have hbel : Below w.heap.size w (((w.alloc (.cells (cells16 sb) 22)).alloc (.cells (cells16 db) 22)).alloc (.cells x.v 55)) := (((Below.refl _ _).alloc (Nat.le_refl _) _).alloc (by simp) _).alloc (by simp; omega) _
  have HB := hid hbel
  clear hbel
  unfold maxLen at h1 h2 h3
  by_cases g1 : 1048576 < iif.size
  · go_enter Tryd.func12, Tryd.ntmps12
    go_wp2
    go_ret
    exact res12 rfl HB.out
  by_cases g2 : 1048576 < oif.size
  · go_enter Tryd.func12, Tryd.ntmps12
    go_wp2
    go_ret
    exact res12 rfl HB.out
  by_cases g2' : 1048576 < iif.size + oif.size
  · go_enter Tryd.func12, Tryd.ntmps12
    go_wp2
    go_ret
    exact res12 rfl HB.out
  by_cases g4 : 1048576 < n
  · go_enter Tryd.func12, Tryd.ntmps12
    go_wp2
    go_ret
    exact res12 rfl HB.out
  by_cases g4' : 1048576 < iif.size + oif.size + n
  · go_enter Tryd.func12, Tryd.ntmps12
    go_wp2
    go_ret
    exact res12 rfl HB.out
  go_enter Tryd.func12, Tryd.ntmps12
  go_wp2
  go_loop [21, 22] (fun t i => ∃ (k : Nat) (z : Int), k ≤ n ∧ i = .int .i64 k ∧ t = .int .i64 z ∧ 0 ≤ z ∧ z ≤ 1048576) (fun _ i => n - (intOf i).toNat)
  case atStart => exact ⟨0, _, Nat.zero_le _, rfl, rfl, by omega, by omega⟩
  case round =>
    obtain ⟨k, z, hk, rfl, rfl, hn0, hn1⟩ := hrel
    by_cases hlt : k < n
    · by_cases q2 : 1048576 < z + 16
      · go_wp2
        go_ret
        exact res12 rfl HB.out
      go_wp2
      go_round
      case rel => exact ⟨k + 1, _, by omega, by go_num, rfl, by omega, by omega⟩
      case measure => simp [intOf]; omega
    · go_wp2
      go_ret
      exact res12 rfl HB.out

/-- m prefixes' cells in a row. -/
def rowOf (ps : Nat → LP) : Nat → List Value
  | 0 => []
  | m + 1 => rowOf ps m ++ (ps m).v.toList
theorem v_len (x : LP) : x.v.toList.length = 18 := rfl
theorem rowOf_len (ps : Nat → LP) (m : Nat) : (rowOf ps m).length = m * 18 := by
  induction m with
  | zero => rfl
  | succ m ih => rw [rowOf, List.length_append, ih, v_len]; omega
theorem rowOf_get (ps : Nat → LP) (m : Nat) : ∀ i r, i < m → r < 18 → (rowOf ps m)[i * 18 + r]? = (ps i).v.toList[r]? := by
  induction m with
  | zero => intro i r hi; omega
  | succ m ih =>
    intro i r hi hr
    rw [rowOf]
    by_cases h : i = m
    · subst h
      rw [List.getElem?_append_right (by rw [rowOf_len]; omega), rowOf_len, show i * 18 + r - i * 18 = r by omega]
    · rw [List.getElem?_append_left (by rw [rowOf_len]; omega)]
      exact ih i r (by omega) hr
theorem v_one (x : LP) : ∀ u ∈ x.v.toList, u.oneCell' = true := by simp [LP.v, lpV, Value.oneCell']
theorem rowOf_one (ps : Nat → LP) (m : Nat) : ∀ u ∈ rowOf ps m, u.oneCell' = true := by
  induction m with
  | zero => intro u hu; cases hu
  | succ m ih =>
    intro u hu
    rw [rowOf] at hu
    rcases List.mem_append.1 hu with h | h
    · exact ih u h
    · exact v_one _ u h
/-- The list with x put in at place k. -/
def ins (ps : Nat → LP) (k : Nat) (x : LP) (i : Nat) : LP := if i < k then ps i else if i = k then x else ps (i - 1)
theorem ins_get (ps : Nat → LP) (k n : Nat) (x : LP) (hk : k ≤ n) (i r : Nat) (hi : i < n + 1) (hr : r < 18) :
    ((rowOf ps k ++ x.v.toList) ++ rowOf (fun i => ps (k + i)) (n - k))[i * 18 + r]? = (ins ps k x i).v.toList[r]? := by
  have hl : (rowOf ps k ++ x.v.toList).length = (k + 1) * 18 := by rw [List.length_append, rowOf_len, v_len]; omega
  unfold ins
  by_cases h1 : i < k
  · rw [if_pos h1, List.getElem?_append_left (by omega), List.getElem?_append_left (by rw [rowOf_len]; omega)]
    exact rowOf_get ps k i r h1 hr
  · rw [if_neg h1]
    by_cases h2 : i = k
    · subst h2
      rw [if_pos rfl, List.getElem?_append_left (by omega), List.getElem?_append_right (by rw [rowOf_len]; omega), rowOf_len, show i * 18 + r - i * 18 = r by omega]
    · rw [if_neg h2, List.getElem?_append_right (by omega), hl, show i * 18 + r - (k + 1) * 18 = (i - k - 1) * 18 + r by omega, rowOf_get _ _ _ _ (by omega) hr, show k + (i - k - 1) = i - 1 by omega]
theorem anyH_ins (ps : Nat → LP) (k n : Nat) (x : LP) (hk : k ≤ n) (is4 : Bool) (a : Nat → UInt8) : anyH (n + 1) (ins ps k x) is4 a = (x.holds is4 a || anyH n ps is4 a) := by
  rw [Bool.eq_iff_iff, Bool.or_eq_true]
  unfold anyH
  rw [List.any_eq_true, List.any_eq_true]
  simp only [List.mem_range]
  constructor
  · rintro ⟨i, hi, h⟩
    unfold ins at h
    by_cases h1 : i < k
    · rw [if_pos h1] at h
      exact .inr ⟨i, by omega, h⟩
    · rw [if_neg h1] at h
      by_cases h2 : i = k
      · rw [if_pos h2] at h; exact .inl h
      · rw [if_neg h2] at h; exact .inr ⟨i - 1, by omega, h⟩
  · rintro (h | ⟨i, hi, h⟩)
    · exact ⟨k, by omega, by unfold ins; rw [if_neg (Nat.lt_irrefl _), if_pos rfl]; exact h⟩
    · by_cases h1 : i < k
      · exact ⟨i, by omega, by unfold ins; rw [if_pos h1]; exact h⟩
      · exact ⟨i + 1, by omega, by unfold ins; rw [if_neg (by omega), if_neg (by omega)]; exact h⟩
/-- The grown row, read as a list. -/
theorem grown_lst {W : World} {B q n k cap : Nat} {ps : Nat → LP} {x : LP} (hk : k ≤ n) (ho : W.ownsRow B 55 18 (.slice (some ⟨q, 0, none⟩) (n + 1) cap) (n + 1) ((rowOf ps k ++ x.v.toList) ++ rowOf (fun i => ps (k + i)) (n - k))) :
    Lst W (some ⟨q, 0, none⟩) (n + 1) (ins ps k x) := fun i hi => ⟨q, 0, rfl, fun r v hv => by
  have hr : r < 18 := by have := (List.getElem?_eq_some_iff.1 hv).1; rw [v_len] at this; exact this
  rw [Nat.zero_add]
  have := ho.cellAt (i * 18 + r) (by have := ho.1; omega)
  rw [this, ins_get ps k n x hk i r hi hr]
  exact hv⟩

/-- A rule of one list, src or dest. -/
theorem ask_src (V : Value) (hV : ∃ a n c, V = .slice a n c) (proto sh sl dh dl : Int) (sz dz : Addr) (iif oif : ByteArray) (X : World) (b : Bool)
    (K3 : ∀ W, Below X.heap.size X W → Calls Tryd.prog 31 #[V, .agg #[.int .u64 sh, .int .u64 sl, .pointer (some sz)]] W fun e W' => e = .returned (.bool b) ∧ Below W.heap.size W W') :
    Calls Tryd.prog 11 #[.pointer (some ⟨X.heap.size, 0, none⟩), .agg (pkt proto sh sl sz dh dl dz 0 0 0 0 iif oif)] (X.alloc (.cells (ruleV (.slice none 0 0) (.slice none 0 0) V (.slice none 0 0) (.slice none 0 0)) 51)) fun e w' => e = .returned (.bool b) ∧ Below X.heap.size X w' := by
  have hbX : Below X.heap.size X (X.alloc (.cells (ruleV (.slice none 0 0) (.slice none 0 0) V (.slice none 0 0) (.slice none 0 0)) 51)) := (Below.refl _ _).alloc (Nat.le_refl _) _
  have hr := heap_alloc_new X (.cells (ruleV (.slice none 0 0) (.slice none 0 0) V (.slice none 0 0) (.slice none 0 0)) 51)
  generalize X.alloc (.cells (ruleV (.slice none 0 0) (.slice none 0 0) V (.slice none 0 0) (.slice none 0 0)) 51) = Y at hbX hr ⊢
  refine (zz_rule X.heap.size _ _ _ _ _ ⟨_, _, _, rfl⟩ ⟨_, _, _, rfl⟩ hV ⟨_, _, _, rfl⟩ proto sh sl dh dl 0 0 0 0 sz dz iif oif Y hr true true b true true
    (fun W _ => zones_nil _ _ _ _ _ W) (fun W _ => zones_nil _ _ _ _ _ W) (fun W hW => K3 W (hbX.trans (hW.mono hbX.size))) (fun W _ => prefixes_nil _ _ _ W) (svc_nil hr proto sh sl dh dl 0 0 0 0 sz dz iif oif)).mono ?_
  rintro e w' ⟨rfl, hb⟩
  exact ⟨by simp, hbX.trans (hb.mono hbX.size)⟩
theorem ask_dst (V : Value) (hV : ∃ a n c, V = .slice a n c) (proto sh sl dh dl : Int) (sz dz : Addr) (iif oif : ByteArray) (X : World) (b : Bool)
    (K4 : ∀ W, Below X.heap.size X W → Calls Tryd.prog 31 #[V, .agg #[.int .u64 dh, .int .u64 dl, .pointer (some dz)]] W fun e W' => e = .returned (.bool b) ∧ Below W.heap.size W W') :
    Calls Tryd.prog 11 #[.pointer (some ⟨X.heap.size, 0, none⟩), .agg (pkt proto sh sl sz dh dl dz 0 0 0 0 iif oif)] (X.alloc (.cells (ruleV (.slice none 0 0) (.slice none 0 0) (.slice none 0 0) V (.slice none 0 0)) 51)) fun e w' => e = .returned (.bool b) ∧ Below X.heap.size X w' := by
  have hbX : Below X.heap.size X (X.alloc (.cells (ruleV (.slice none 0 0) (.slice none 0 0) (.slice none 0 0) V (.slice none 0 0)) 51)) := (Below.refl _ _).alloc (Nat.le_refl _) _
  have hr := heap_alloc_new X (.cells (ruleV (.slice none 0 0) (.slice none 0 0) (.slice none 0 0) V (.slice none 0 0)) 51)
  generalize X.alloc (.cells (ruleV (.slice none 0 0) (.slice none 0 0) (.slice none 0 0) V (.slice none 0 0)) 51) = Y at hbX hr ⊢
  refine (zz_rule X.heap.size _ _ _ _ _ ⟨_, _, _, rfl⟩ ⟨_, _, _, rfl⟩ ⟨_, _, _, rfl⟩ hV proto sh sl dh dl 0 0 0 0 sz dz iif oif Y hr true true true b true
    (fun W _ => zones_nil _ _ _ _ _ W) (fun W _ => zones_nil _ _ _ _ _ W) (fun W _ => prefixes_nil _ _ _ W) (fun W hW => K4 W (hbX.trans (hW.mono hbX.size))) (svc_nil hr proto sh sl dh dl 0 0 0 0 sz dz iif oif)).mono ?_
  rintro e w' ⟨rfl, hb⟩
  exact ⟨by simp, hbX.trans (hb.mono hbX.size)⟩
end Go.Proofs.Qxb6615875aDoor
