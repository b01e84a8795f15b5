import Derived.Test.Qxb6615933aS7
import Derived.Deep.CutRange
import Derived.Deep.RegionHeld3
import Derived.Deep.MidRow
namespace Go.Proofs.Qxb6615933a
open Go.RowKit
set_option linter.unusedSimpArgs false
set_option linter.unusedVariables false

theorem range_row {w : World} {g t o n : Nat} {C : Array Value} {cs : List Value} (h : w.heap[g]? = some (.cells C t (0, 0))) (hc : cs = (C.toList.drop o).take n) : w.rangeAt g o cs := by
  subst hc
  intro j v hv
  rw [cell_of_row w g (o + j) _ t (0, 0) h]
  rw [List.getElem?_take] at hv
  split at hv
  · rw [List.getElem?_drop] at hv
    simpa using hv
  · simp at hv
theorem size53 : (Try.prog.info? 53).map (·.size) = some 4 := by kernel_rfl
theorem size40 : (Try.prog.info? 40).map (·.size) = some 4 := by kernel_rfl

/-- 'make' as one operation. -/
theorem oper_make {P : Program} {o : Oper} {a : Act} {w : World} {K : Act → World → Prop} {Q : Exit → Act → World → Prop} (l c : Operand) (t : TypeId) (hop : o.op = Op.makeSlice t l c)
    (kl kc : IntKind) (L C : Int) (hl : a.eval l = .int kl L) (hc : a.eval c = .int kc C) (v : Value) (w' : World)
    (hrun : (Instr.makeSlice t (.int kl L) (.int kc C)).run P w = .ok v w') (hK : K (a.put o.dst v) w') : Oper.wp P o a w K Q := by
  unfold Oper.wp
  simp [execOp, hop, hl, hc, hrun, Result.andThen]
  exact hK

theorem setAll_list : ∀ (vs : List Value) (C : Array Value) (o : Nat), o + vs.length ≤ C.size → (setAll C o vs).toList = C.toList.take o ++ vs ++ C.toList.drop (o + vs.length)
  | [], C, o, _ => by simp [setAll]
  | v :: r, C, o, h => by
    simp only [List.length_cons] at h
    have ih := setAll_list r (C.setIfInBounds o v) (o + 1) (by simp; omega)
    simp only [setAll]
    rw [ih]
    have hl : o < C.toList.length := by simp; omega
    simp only [Array.toList_setIfInBounds, List.length_cons]
    rw [List.take_add_one, List.take_set_of_le (by omega), List.getElem?_set_self hl, List.drop_set_of_lt (by omega)]
    simp [Nat.add_assoc, Nat.add_comm 1]

theorem up_one {xs : List Value} {n : Nat} {fs : Nat → D} (h : Up xs n fs) (hl : xs.length = n * 3) : ∀ u ∈ xs, u.oneCell' = true := by
  intro u hu
  obtain ⟨j, hj, rfl⟩ := List.mem_iff_getElem.1 hu
  obtain ⟨h0, h1, h2⟩ := h (j / 3) (by omega)
  have hj' := List.getElem?_eq_getElem hj
  rcases (show j = j / 3 * 3 ∨ j = j / 3 * 3 + 1 ∨ j = j / 3 * 3 + 2 by omega) with e | e | e
  · rw [← e, hj'] at h0; rw [Option.some.inj h0]; rfl
  · rw [← e, hj'] at h1; rw [Option.some.inj h1]; rfl
  · rw [← e, hj'] at h2; rw [Option.some.inj h2]
    rcases er_form (fs (j / 3)) with he | ⟨v, he⟩ <;> rw [he] <;> rfl
theorem up_cons {xs : List Value} {n : Nat} {ts : Nat → D} {d : D} (h : Up xs n ts) : Up ([.string d.p, .string d.m, er d] ++ xs) (n + 1) (pick d ts) := by
  intro i hi
  cases i with
  | zero => exact ⟨rfl, rfl, rfl⟩
  | succ i =>
    obtain ⟨h0, h1, h2⟩ := h i (by omega)
    have e : (i + 1) * 3 = i * 3 + 3 := by omega
    simp only [pick, e]
    exact ⟨h0, h1, h2⟩

/-- The value of a list of failures, head and tail. -/
def fsv (d : D) (g n : Nat) : Array Value := #[.string d.p, .string d.m, er d, .slice (some ⟨g, 0, none⟩) n n]

set_option maxRecDepth 100000 in
set_option maxHeartbeats 4000000 in
theorem toSlice_any (d : D) (ts : Nat → D) (g n B : Nat) (xs : List Value) (w : World) (hm : n ≤ 1048576) (hr : w.ownsRow B 29 3 (.slice (some ⟨g, 0, none⟩) n n) n xs) (hu : Up xs n ts) :
    Calls Try.prog 28 #[.agg (fsv d g n)] w fun e w' => (∃ v, e = .returned v ∧ Fs w w' v (n + 1) (pick d ts)) ∧ Below w.heap.size w w' := by
  have HR := hid hr
  have HU := hid hu
  have HBX := hid (heap_alloc_new w (.cells (fsv d g n) 53))
  have HE := hid (er_form d)
  have hbA : Below w.heap.size w (w.alloc (.cells (fsv d g n) 53)) := (Below.refl _ _).alloc (Nat.le_refl _) _
  have HBA := hid hbA
  clear hbA
  clear hr hu
  obtain ⟨i0, hi, hz0, hz1, hz2⟩ := info_parts Try.info29
  have HMK0 := (fun W => run_make (P := Try.prog) W 38 29 i0 (.agg #[.string ⟨#[]⟩, .string ⟨#[]⟩, .nilIface]) Try.underlying38 hi hz0 .i64 .i64 0 ((n + 1 : Nat) : Int) (by omega) (by omega) (by rw [hz2]; omega) (by omega))
  simp only [Int.toNat_zero, Int.toNat_natCast, hz1] at HMK0
  have HMK := hid HMK0
  clear HMK0 hi hz0 hz2
  have hu := Try.underlying53
  go_enter Try.func28, Try.ntmps28
  go_wp2
  refine wp_region_held_drew (S := fun W => Below (w.alloc (.cells (fsv d g n) 53)).drew.heap.size (w.alloc (.cells (fsv d g n) 53)).drew W) (by kernel_rfl) (Below.refl _ _) (fun hHeld => ?_)
  refine wpAnyH_take (i := 0) (v := _) rfl (by kernel_rfl) (by kernel_rfl) (by kernel_rfl) (fun _ _ _ h => h) (yieldsIf_load_mid (by kernel_rfl) _ _ rfl _ _ rfl (fsv d g n).toList _ (fun W hSw => range_row (o := 0) (n := 4) ((hSw.block w.heap.size (by simp)).trans HBX.out) rfl) Try.underlying53 rfl size53) (by assumption) ?_
  try simp (maxSteps := 2000000) only [Act.put, List.getElem_toArray, List.getElem_cons_succ, List.getElem_cons_zero, List.setIfInBounds_toArray, List.set_cons_zero, List.set_cons_succ]
  refine wpAnyH_take (i := 3) (v := _) rfl (by kernel_rfl) (by kernel_rfl) (by kernel_rfl) (fun _ _ _ h => h) (yieldsIf_load_mid (by kernel_rfl) _ _ rfl _ _ rfl (fsv d g n).toList _ (fun W hSw => range_row (o := 0) (n := 4) ((hSw.block w.heap.size (by simp)).trans HBX.out) rfl) Try.underlying53 rfl size53) (by assumption) ?_
  try simp (maxSteps := 2000000) only [Act.put, List.getElem_toArray, List.getElem_cons_succ, List.getElem_cons_zero, List.setIfInBounds_toArray, List.set_cons_zero, List.set_cons_succ]
  refine wpAnyH_ready (rs := [1]) (by kernel_rfl) (by simp) ?_
  refine AllReadyH.cons rfl ?_ AllReadyH.nil
  intro K hK
  rw [if_pos (by kernel_rfl)]
  go_simp
  refine (size_any d.p d.m (er d) HE.out g n _ hm).mono ?_
  rintro e w5 ⟨rfl, hb5⟩
  go_wp2_with fail
  refine hK.out _ _ (hHeld.trans (hb5.mono hHeld.size)) (fun hHeld => ?_)
  clear hK K hb5
  try simp (maxSteps := 2000000) only [Act.put, List.getElem_toArray, List.getElem_cons_succ, List.getElem_cons_zero, List.setIfInBounds_toArray, List.set_cons_zero, List.set_cons_succ]
  refine wpAnyH_ready (rs := [2]) (by kernel_rfl) (by simp) ?_
  refine AllReadyH.cons rfl ?_ AllReadyH.nil
  intro K hK
  rw [if_pos (by kernel_rfl)]
  refine oper_make _ _ 38 rfl .i64 .i64 0 ((n + 1 : Nat) : Int) rfl rfl _ _ (HMK.out _) ?_
  have h5 := hHeld
  refine hK.out _ _ (hHeld.alloc hHeld.size _) (fun hHeld => ?_)
  clear hK K
  try simp (maxSteps := 2000000) only [Act.put, List.getElem_toArray, List.getElem_cons_succ, List.getElem_cons_zero, List.setIfInBounds_toArray, List.set_cons_zero, List.set_cons_succ]
  generalize hmc : madeCells (Value.agg #[Value.string ⟨#[]⟩, Value.string ⟨#[]⟩, Value.nilIface]).cells ((n + 1) * 3) = made at hHeld
  have hms : made.size = (n + 1) * 3 := by rw [← hmc, size_madeCells]
  clear hmc
  have hbm : Below w.heap.size w (w5.alloc (.cells made 29)) := HBA.out.drew.trans (hHeld.mono HBA.out.size)
  have hq := heap_alloc_new w5 (.cells made 29)
  have hgl := owns_lt HR.out
  have hs5 : w.heap.size + 1 ≤ w5.heap.size := by have := h5.size; simpa using this
  have hxc : ∀ j u, xs[j]? = some u → (w5.alloc (.cells made 29)).cell? ⟨g, j, none⟩ = some u := by
    intro j u hj
    rw [hbm.cell (p := ⟨g, j, none⟩) hgl, HR.out.cellAt j (by have := HR.out.1; have := (List.getElem?_eq_some_iff.1 hj).1; omega)]
    exact hj
  have HC := hid (append_any d.p d.m (er d) HE.out g n w5.heap.size xs made _ hm hq hms HR.out.1 hxc (up_one HU.out HR.out.1) (by omega) (by simp; omega))
  have HM5 := hid (show Below w.heap.size w (w5.alloc (.cells made 29)) from hbm)
  have HQ := hid hq
  have HMS := hid hms
  clear hxc hq hbm hms
  refine wpAnyH_ready (rs := [4]) (by kernel_rfl) (by simp) ?_
  refine AllReadyH.cons rfl ?_ AllReadyH.nil
  intro K hK
  rw [if_pos (by kernel_rfl)]
  go_simp
  refine HC.out.mono ?_
  rintro e w6 ⟨rfl, wx, hbx, rfl⟩
  go_wp2_with fail
  have hbx' := below_setCells (B := (w.alloc (.cells (fsv d g n) 53)).drew.heap.size) (b := w5.heap.size) h5.size xs 3 (below_setCells h5.size [.string d.p, .string d.m, er d] 0 (hHeld.trans (hbx.mono hHeld.size)))
  refine hK.out _ _ hbx' (fun hHeld => ?_)
  clear hK K
  try simp (maxSteps := 2000000) only [Act.put, List.getElem_toArray, List.getElem_cons_succ, List.getElem_cons_zero, List.setIfInBounds_toArray, List.set_cons_zero, List.set_cons_succ]
  refine wpAnyH_take (i := 5) (v := ?_) rfl (by kernel_rfl) (by kernel_rfl) (by kernel_rfl) (fun _ _ _ h => h) (Or.inl ⟨by kernel_rfl, ?_⟩) (by assumption) ?_
  rotate_left
  · intro w hSw; go_simp; with_reducible rfl
  try simp (maxSteps := 2000000) only [Act.put, List.getElem_toArray, List.getElem_cons_succ, List.getElem_cons_zero, List.setIfInBounds_toArray, List.set_cons_zero, List.set_cons_succ]
  refine wpAnyH_done (by kernel_rfl) ?_ _
  go_wp2_with fail
  go_ret
  have hrow := heap_setCells w5.heap.size 29 xs _ 3 _ (heap_setCells w5.heap.size 29 [.string d.p, .string d.m, er d] made 0 wx ((hbx.block _ (by simp)).trans HQ.out))
  have hl := setAll_list xs (setAll made 0 [.string d.p, .string d.m, er d]) 3 (by rw [size_setAll, HMS.out, HR.out.1]; omega)
  rw [setAll_list [.string d.p, .string d.m, er d] made 0 (by rw [HMS.out]; simp; omega)] at hl
  have hml : made.toList.length = (n + 1) * 3 := by simpa using HMS.out
  have hxl := HR.out.1
  have hl2 : (setAll (setAll made 0 [.string d.p, .string d.m, er d]) 3 xs).toList = [.string d.p, .string d.m, er d] ++ xs := by
    rw [hl, List.drop_eq_nil_of_le (i := 3 + xs.length) (by simp only [List.length_append, List.length_drop, hml, List.take_zero, List.length_nil, List.length_cons]; omega)]
    simp
  refine ⟨⟨_, rfl, w5.heap.size, _, rfl, ⟨?_, .inr ⟨w5.heap.size, n + 1, _, rfl, by omega, hrow, Nat.le_refl _, by unfold maxLen; omega, ?_, by rw [hl2]; exact List.take_of_length_le (by rw [List.length_append, hxl]; simp; omega)⟩⟩, up_cons HU.out⟩, HBA.out.drew.trans (hHeld.mono HBA.out.size)⟩
  · rw [List.length_append, hxl]; simp; omega
  · rw [size_setAll, size_setAll, HMS.out]

end Go.Proofs.Qxb6615933a
