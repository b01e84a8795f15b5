import Derived.Test.Qxb6615933aS4
import Derived.WalkSpells
namespace Go.Proofs.Qxb6615933a
open Go.RowKit
set_option linter.unusedSimpArgs false
set_option linter.unusedVariables false

/-- The i-th of head and tail. -/
def pick (d : D) (ts : Nat → D) : Nat → D
  | 0 => d
  | i + 1 => ts i

set_option maxHeartbeats 4000000 in
theorem dataAt_any (d : D) (a : Option Addr) (n c : Nat) (ts : Nat → D) (i : Nat) (w : World) (hm : n ≤ 1048576) (hi : i ≤ n) (ht : Tl w a n ts) :
    Calls Try.prog 19 #[.agg (dv d), .slice a n c, .int .i64 i] w fun e w' => e = .returned (.agg (dv (pick d ts i))) ∧ Below w.heap.size w w' := by
  have HB := hid (show Below w.heap.size w ((w.alloc (.cells (dv d) 35)).alloc (.cells #[.string ⟨#[]⟩, .string ⟨#[]⟩, .bool false, .string ⟨#[]⟩, .string ⟨#[]⟩] 35)) from ((Below.refl _ _).alloc (Nat.le_refl _) _).alloc (by simp) _)
  cases i with
  | zero =>
    simp only [pick, dv]
    go_enter Try.func19, Try.ntmps19
    go_wp2
    exact bodyPost_ret (v := .agg #[.string d.p, .string d.m, .bool d.h, .string d.ep, .string d.em]) (by simp [results, Try.results19, go_sem]) rfl ⟨rfl, ((Below.refl _ _).alloc (Nat.le_refl _) _).alloc (by simp) _⟩
  | succ i =>
    obtain ⟨b, off, rfl⟩ := ht.some hi
    obtain ⟨c0, c1, c2, c3, c4⟩ := (ht.below HB.out).at hi
    simp only [dv] at HB c0 c1 c2 c3 c4
    obtain ⟨x, hx⟩ : ∃ x, x = ts i := ⟨_, rfl⟩
    rw [← hx] at c0 c1 c2 c3 c4
    simp only [pick, dv]
    rw [← hx]
    clear hx HB
    go_enter Try.func19, Try.ntmps19
    go_wp2
    exact bodyPost_ret (v := .agg #[.string x.p, .string x.m, .bool x.h, .string x.ep, .string x.em]) (by simp [results, Try.results19, go_sem]) rfl ⟨rfl, ((Below.refl _ _).alloc (Nat.le_refl _) _).alloc (by simp) _⟩

theorem owns_below {B : Nat} {e : TypeId} {k : Nat} {v : Value} {n : Nat} {xs : List Value} {w w' : World} (h : w.ownsRow B e k v n xs) (hb : Below w.heap.size w w') : w'.ownsRow B e k v n xs := by
  refine ⟨h.1, h.2.imp id ?_⟩
  rintro ⟨g, cap, cur, e1, e2, e3, e4⟩
  exact ⟨g, cap, cur, e1, e2, (hb.block g (Array.getElem?_eq_some_iff.1 e3).1).trans e3, e4⟩
theorem owns_lt {w : World} {base : Nat} {e : TypeId} {size n g cap : Nat} {xs : List Value} (h : w.ownsRow base e size (.slice (some ⟨g, 0, none⟩) n cap) n xs) : g < w.heap.size := (h.lt g rfl).2

theorem Try.info29 : (Try.prog.info? 29).map (fun i => (i.zero, i.size, i.bytes)) = some (some (.agg #[.string ⟨#[]⟩, .string ⟨#[]⟩, .nilIface]), 3, 48) := by kernel_rfl

/-- The first k failures lie in the list. -/
def Up (xs : List Value) (k : Nat) (fs : Nat → D) : Prop := ∀ i, i < k → xs[i * 3]? = some (.string (fs i).p) ∧ xs[i * 3 + 1]? = some (.string (fs i).m) ∧ xs[i * 3 + 2]? = some (er (fs i))
theorem Up.next {xs : List Value} {k n : Nat} {fs : Nat → D} (h : Up xs k fs) (hl : xs.length = n * 3) (hk : k < n) : Up (((xs.set (k * 3) (.string (fs k).p)).set (k * 3 + 1) (.string (fs k).m)).set (k * 3 + 2) (er (fs k))) (k + 1) fs := by
  intro i hi
  by_cases e : i = k
  · subst e
    refine ⟨?_, ?_, ?_⟩
    · rw [List.getElem?_set_ne (by omega), List.getElem?_set_ne (by omega), List.getElem?_set_self (by omega)]
    · rw [List.getElem?_set_ne (by omega), List.getElem?_set_self (by simp; omega)]
    · rw [List.getElem?_set_self (by simp; omega)]
  · obtain ⟨h0, h1, h2⟩ := h i (by omega)
    refine ⟨?_, ?_, ?_⟩
    · rw [List.getElem?_set_ne (by omega), List.getElem?_set_ne (by omega), List.getElem?_set_ne (by omega)]; exact h0
    · rw [List.getElem?_set_ne (by omega), List.getElem?_set_ne (by omega), List.getElem?_set_ne (by omega)]; exact h1
    · rw [List.getElem?_set_ne (by omega), List.getElem?_set_ne (by omega), List.getElem?_set_ne (by omega)]; exact h2

/-- A list of failures, in a block of the call's own. -/
def Fs (w w' : World) (v : Value) (n : Nat) (fs : Nat → D) : Prop := ∃ g xs, v = .slice (some ⟨g, 0, none⟩) n n ∧ w'.ownsRow w.heap.size 29 3 (.slice (some ⟨g, 0, none⟩) n n) n xs ∧ Up xs n fs

theorem er_form (d : D) : er d = .nilIface ∨ ∃ v, er d = .iface 29 v := by
  obtain ⟨p, m, h, ep, em⟩ := d
  cases h
  · exact .inl rfl
  · exact .inr ⟨_, rfl⟩
set_option maxHeartbeats 4000000 in
theorem tail_any (a : Option Addr) (n c : Nat) (ts : Nat → D) (w : World) (hm : n ≤ 1048576) (ht : Tl w a n ts) :
    Calls Try.prog 16 #[.slice a n c] w fun e w' => (∃ v, e = .returned v ∧ Fs w w' v n ts) ∧ Below w.heap.size w w' := by
  obtain ⟨i0, hi, hz0, hz1, hz2⟩ := info_parts Try.info29
  have HT := hid ht
  clear ht
  go_enter Try.func16, Try.ntmps16
  go_wp2_with (first | (at_make; refine wpList_make_full _ rfl _ _ 38 rfl w.heap.size 29 i0 (.agg #[.string ⟨#[]⟩, .string ⟨#[]⟩, .nilIface]) 3 Try.underlying38 hi hz0 hz1 _ _ _ _ n rfl rfl rfl rfl (by rw [hz2]; omega) (by unfold maxLen; omega) (by simp) ?_; intro w1 hown hgrow; have HO := hid hown; have HG := hid hgrow; clear hown hgrow))
  go_loopw [4] (fun i wr => ∃ k : Nat, k ≤ n ∧ i = .int .i64 k ∧ (∃ xs, wr.ownsRow w.heap.size 29 3 (.slice (some ⟨w.heap.size, 0, none⟩) n n) n xs ∧ Up xs k ts) ∧ Below w.heap.size w wr) (fun i _ => n - (intOf i).toNat)
  case atStart => exact ⟨0, Nat.zero_le _, rfl, ⟨_, HO.out, fun _ h => absurd h (by omega)⟩, (Below.refl _ _).grown HG.out (Nat.le_refl _) (by simp)⟩
  case round =>
    obtain ⟨k, hk, rfl, ⟨xs, ho, hx⟩, hbel⟩ := hrel
    have HX := hid hx
    clear hx HO HG
    by_cases hlt : k < n
    · obtain ⟨b, off, rfl⟩ := HT.out.some hlt
      obtain ⟨c0, c1, c2, c3, c4⟩ := (HT.out.below hbel).at hlt
      obtain ⟨x, hx⟩ : ∃ x, x = ts k := ⟨_, rfl⟩
      rw [← hx] at c0 c1 c2 c3 c4
      have HXE := hid hx
      have HW := hid ho
      have HB := hid hbel
      clear hx ho hbel
      rcases er_form x with he | ⟨v, he⟩
      all_goals
       have HE := hid he
       clear he
       go_wp2_with (go_at_call 15; refine (mk_any x _).mono ?_; rintro e w1 ⟨rfl, hb1⟩; have HW1 := hid (owns_below HW.out hb1); have HB1 := hid (HB.out.trans (hb1.mono HB.out.size)); clear hb1 HW HB; have hxl := HW1.out.1; have o0 := HW1.out.cellAt (k * 3) (by omega); have o1 := HW1.out.cellAt (k * 3 + 1) (by omega); have o2 := HW1.out.cellAt (k * 3 + 2) (by omega); rw [List.getElem?_eq_getElem (by omega)] at o0 o1 o2; have f0 := HW1.out.frozenAt (k * 3); have f1 := HW1.out.frozenAt (k * 3 + 1); have f2 := HW1.out.frozenAt (k * 3 + 2); simp only [fv]; rw [HE.out])
       go_roundw
       case rel => exact ⟨k + 1, by omega, by go_num, ⟨_, (((HW1.out.stored (k * 3) _).1.stored (k * 3 + 1) _).1.stored (k * 3 + 2) _).1, by rw [← HE.out, HXE.out]; exact HX.out.next hxl hlt⟩, ((HB1.out.setCell (Nat.le_refl _) _).setCell (Nat.le_refl _) _).setCell (Nat.le_refl _) _⟩
       case measure => simp [intOf]; omega
    · obtain rfl : k = n := by omega
      have HW := hid ho
      have HB := hid hbel
      clear ho hbel
      go_wp2
      go_ret
      exact ⟨⟨_, rfl, _, _, rfl, HW.out, HX.out⟩, HB.out⟩

end Go.Proofs.Qxb6615933a
