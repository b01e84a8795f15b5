import Derived.RangeFuncNested
import Derived.RangeFuncBound
import Derived.RangeFuncCalls
import Derived.RangeFuncLeaves
import Derived.Shelf.Abstract
import Derived.Shelf.RegionOpen
import Derived.WalkKit
import Derived.OwnWalkIn
import Derived.TacticsInMore
import Derived.LoopNIn
import Derived.LoopIn
import Derived.Test.Qxb6615875aDoorC1
namespace Go.Proofs.Qxb6615875aDoor
open Go.RowKit Go.Shelf
set_option linter.unusedSimpArgs false
set_option linter.unusedVariables false
attribute [local go_sem] Oper.semAt_some

set_option maxRecDepth 100000 in
set_option maxHeartbeats 2000000 in
/-- The definitions of a rule with one service of one definition: one round. -/
theorem defs1_in (F : Fence) (n : Nat) (h52 : F.fn 52) (hro : F.round = none) (hn : 1 ≤ n) (l Bs n₀ rb s2 s1 : Nat) (J Jx : List Unit → World → Prop)
    (hY : ∀ pre (x : Unit) W, J pre W → pre.length < 1 → YieldAt F (n - 1) Tryd.prog l #[.pointer (some ⟨s1, 0, none⟩)] W fun e W' =>
      (e = .returned (.bool true) ∧ J (pre ++ [x]) W' ∧ Below n₀ W W') ∨ (e = .returned (.bool false) ∧ Jx (pre ++ [x]) W'))
    (W : World) (hBs : W.cell? ⟨Bs, 0, none⟩ = some (.pointer (some ⟨rb, 0, none⟩))) (hr : W.cell? ⟨rb, 8, none⟩ = some (.slice (some ⟨s2, 0, none⟩) 1 1))
    (h2 : W.cell? ⟨s2, 0, none⟩ = some (.slice (some ⟨s1, 0, none⟩) 1 1)) (hs2 : s2 < n₀) (h0 : J [] W) :
    CallsIn F n Tryd.prog 52 #[.func (.yield l) #[] #[], .pointer (some ⟨Bs, 0, none⟩)] W fun e W' => (∃ v, e = .returned v) ∧
      ((∃ ys, ys = [()] ∧ J ys W') ∨ (∃ pre, pre = [()] ∧ Jx pre W')) := by
  refine callsIn_of_wp Tryd.func52 rfl h52 ?_ hro
  simp only [Tryd.ntmps52, List.size_toArray, List.length_cons, List.length_nil, Nat.reduceAdd, Nat.reduceSub, Array.replicate_succ, Array.replicate_zero, List.push_toArray, List.append_toArray, List.nil_append, List.cons_append]
  gi_wp2
  gi_loopw [11] (fun i wr => (i = .int .i64 0 ∧ J [] wr ∧ Below n₀ W wr) ∨ (i = .int .i64 1 ∧ J [()] wr)) (fun i _ => 1 - (intOf i).toNat)
  case atStart => exact .inl ⟨rfl, h0, Below.refl _ _⟩
  case round =>
    rcases hrel with ⟨rfl, hJs, hnx⟩ | ⟨rfl, hJs⟩
    · have hc2 : wr.cell? ⟨s2, 0, none⟩ = some (.slice (some ⟨s1, 0, none⟩) 1 1) := (hnx.cell (p := ⟨s2, 0, none⟩) hs2).trans h2
      gi_wp2
      gi_loopw [17] (fun j wr => (j = .int .i64 0 ∧ J [] wr) ∨ (j = .int .i64 1 ∧ J [()] wr)) (fun j _ => 1 - (intOf j).toNat)
      case atStart => exact .inl ⟨rfl, hJs⟩
      case round =>
        clear hJs
        rename_i wi _
        rcases hrel with ⟨rfl, hJs⟩ | ⟨rfl, hJs⟩
        · obtain ⟨fn, tmps, assign, body, hy, hR⟩ := hY [] () _ hJs (by simp)
          gi_wp2
          refine hR.mono ?_
          rintro e W3 (⟨rfl, hJ3, hk3⟩ | ⟨rfl, hJx3⟩)
          · gi_wp2
            go_roundw
            case rel => exact .inr ⟨rfl, hJ3⟩
            case measure => simp [intOf]
          · gi_wp2
            refine bodyPost_ret (results_none rfl _ _ _) rfl ?_
            exact ⟨⟨_, rfl⟩, .inr ⟨_, rfl, hJx3⟩⟩
        · gi_wp2
          go_roundw
          case rel => exact .inr ⟨rfl, hJs⟩
          case measure => simp [intOf]
    · gi_wp2
      go_end0
      exact ⟨⟨_, rfl⟩, .inl ⟨_, rfl, hJs⟩⟩
end Go.Proofs.Qxb6615875aDoor
