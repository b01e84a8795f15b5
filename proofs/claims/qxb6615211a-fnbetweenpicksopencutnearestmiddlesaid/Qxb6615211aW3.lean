import Derived.Test.Qxb6615211aW2
import Derived.Deep.QuietTactic
import Derived.BigQuiet
import Derived.WalkSmall
namespace Go.Proofs.Qxb6615211a
open Go.RowKit
open Plain

theorem Srch.below {w w' : World} {sb bb : Nat} {g b : Int} {bl : Nat → Bool} {len cap : Nat} (h : Srch w sb bb g b bl len cap) (hb : Below w.heap.size w w') (h1 : sb < w.heap.size) (h2 : bb < w.heap.size) : Srch w' sb bb g b bl len cap :=
  ⟨(hb.cell (p := ⟨sb, 2, none⟩) h1).trans h.good, (hb.cell (p := ⟨sb, 3, none⟩) h1).trans h.bad, (hb.cell (p := ⟨sb, 4, none⟩) h1).trans h.blind, fun i hi => (hb.cell (p := ⟨bb, i, none⟩) h2).trans (h.cells i hi)⟩

/-- The world inside between: old memory as it was, the two boxes as they were laid. -/
structure In (w wr : World) (sb : Nat) : Prop where
  bel : Below w.heap.size w wr
  size : w.heap.size + 2 ≤ wr.heap.size
  c0 : wr.cell? ⟨w.heap.size, 0, none⟩ = some (.pointer (some ⟨sb, 0, none⟩))
  c1 : wr.cell? ⟨w.heap.size + 1, 0, none⟩ = some (.func (.func 12) #[] #[])

theorem In.alloc {w wr : World} {sb : Nat} (h : In w wr sb) (o : Obj) : In w (wr.alloc o) sb :=
  ⟨h.bel.alloc (Nat.le_trans (by omega) h.size) o, by have := h.size; simp; omega, by rw [World.cell?_alloc_past _ _ _ (by have := h.size; simp; omega)]; exact h.c0, by rw [World.cell?_alloc_past _ _ _ (by have := h.size; simp; omega)]; exact h.c1⟩

theorem in_start (w : World) (sb nq : Nat) : In w (((w.alloc (.cells #[.pointer (some ⟨sb, 0, none⟩)] 25)).alloc (.cells #[.func (.func 12) #[] #[]] 38)).drewN nq) sb := by
  refine ⟨below_drewN (((Below.refl _ _).alloc (Nat.le_refl _) _).alloc (by simp) _) _, by simp, ?_, ?_⟩
  · rw [World.cell?_drewN, World.cell?_alloc_past _ _ _ (by simp), World.cell?_alloc_at _ _ _ _ rfl]; rfl
  · rw [World.cell?_drewN, World.cell?_alloc_at _ _ _ _ (by simp)]; rfl

theorem pair_cells (w : World) (x y : Value) (n : Nat) (hn : n = w.heap.size) : (w.alloc (.cells #[x, y] 3)).cell? ⟨n, 0, none⟩ = some x ∧ (w.alloc (.cells #[x, y] 3)).cell? ⟨n, 1, none⟩ = some y := by
  subst hn
  exact ⟨by rw [World.cell?_alloc_at _ _ _ _ rfl]; rfl, by rw [World.cell?_alloc_at _ _ _ _ rfl]; rfl⟩

set_option maxHeartbeats 2000000 in
theorem between_any (sb bb : Nat) (g b hint : Int) (bl : Nat → Bool) (len cap : Nat) (w : World) (hs : Srch w sb bb g b bl len cap) (hsb : sb < w.heap.size) (hbb : bb < w.heap.size) (hg : 0 ≤ g) (hgb : g ≤ b) (hb : b < len) (hl : len ≤ 65536) :
    Calls Try.prog 11 #[.pointer (some ⟨sb, 0, none⟩), .func (.func 12) #[] #[], .int .i64 hint] w fun e w' => ∃ r, e = .returned (.tuple #[.int .i64 r, .nilIface]) ∧ Best g b bl (g + (b - g + 1) / 2) hint r ∧ Below w.heap.size w w' := by
  have hmf : ∀ (fn : Fn) (first cap : Array Value) (w : World), (Instr.makeFunc fn first cap).run Try.prog w = .ok (.func fn first cap) w := fun _ _ _ _ => rfl
  have h2 := hs.good
  have h3 := hs.bad
  go_enter Try.func11, Try.ntmps11
  go_wp2
  go_quiet (fail)
  go_wp2
  clear h2 h3 hmf
  go_loopw [40] (fun i wr => ∃ k : Int, 0 ≤ k ∧ k ≤ 2 ∧ i = .int .i64 k ∧ In w wr sb ∧ wr.cell? ⟨w.heap.size + 1 + 1, 0, none⟩ = some (.int .i64 (g + (b - g + 1) / 2)) ∧ wr.cell? ⟨w.heap.size + 1 + 1, 1, none⟩ = some (.int .i64 hint) ∧
      (1 ≤ k → opn g b bl (g + (b - g + 1) / 2) = false) ∧ (2 ≤ k → opn g b bl hint = false)) (fun i _ => 2 - (intOf i).toNat)
  case atStart =>
    have hp := pair_cells (((w.alloc (.cells #[.pointer (some ⟨sb, 0, none⟩)] 25)).alloc (.cells #[.func (.func 12) #[] #[]] 38)).drewN nq) (.int .i64 (g + (b - g + 1) / 2)) (.int .i64 hint) (w.heap.size + 1 + 1) (by simp)
    exact ⟨0, by omega, by omega, rfl, (in_start w sb nq).alloc _, hp.1, hp.2, by omega, by omega⟩
  case round =>
    obtain ⟨k, hk0, hk, rfl, hin, hc0, hc1, ho0, ho1⟩ := hrel
    have hsr := hs.below hin.bel hsb hbb
    have hi0 := hin.c0
    have hi1 := hin.c1
    rcases (show k = 0 ∨ k = 1 ∨ k = 2 by omega) with rfl | rfl | rfl
    · clear ho0 ho1
      rcases Bool.eq_false_or_eq_true (opn g b bl (g + (b - g + 1) / 2)) with ho | ho
      ·
        have HO : Hid (opn g b bl (g + (b - g + 1) / 2) = true) := ho
        have hne : ((g + (b - g + 1) / 2) != 0) = true := by have := opn_true ho; rw [bne_iff_ne]; omega
        clear ho
        go_wp2_with (go_at_call 14; refine (try_yes sb bb _ _ g b bl len cap _ _ hsr hg hb hi0 hi1 HO.out).mono ?_; rintro e w' ⟨rfl, rfl⟩)
        go_ret2
        exact ⟨_, rfl, best_mid HO.out, hin.bel⟩
      ·
        have HO : Hid (opn g b bl (g + (b - g + 1) / 2) = false) := ho
        clear ho
        go_wp2_with (go_at_call 14; refine (try_no sb bb _ _ g b bl len cap _ _ hsr hg hb hi0 HO.out).mono ?_; rintro e w' ⟨rfl, rfl⟩)
        go_roundw
        case rel => exact ⟨1, by omega, by omega, by go_num, hin, hc0, hc1, fun _ => HO.out, by omega⟩
        case measure => simp [intOf]
    · have HM : Hid (opn g b bl (g + (b - g + 1) / 2) = false) := ho0 (by omega)
      clear ho0 ho1
      rcases Bool.eq_false_or_eq_true (opn g b bl hint) with ho | ho
      ·
        have HO : Hid (opn g b bl hint = true) := ho
        have hne : (hint != 0) = true := by have := opn_true ho; rw [bne_iff_ne]; omega
        clear ho
        go_wp2_with (go_at_call 14; refine (try_yes sb bb _ _ g b bl len cap _ _ hsr hg hb hi0 hi1 HO.out).mono ?_; rintro e w' ⟨rfl, rfl⟩)
        go_ret2
        exact ⟨_, rfl, best_hint HM.out HO.out, hin.bel⟩
      ·
        have HO : Hid (opn g b bl hint = false) := ho
        clear ho
        go_wp2_with (go_at_call 14; refine (try_no sb bb _ _ g b bl len cap _ _ hsr hg hb hi0 HO.out).mono ?_; rintro e w' ⟨rfl, rfl⟩)
        go_roundw
        case rel => exact ⟨2, by omega, by omega, by go_num, hin, hc0, hc1, fun _ => HM.out, fun _ => HO.out⟩
        case measure => simp [intOf]
    · have HS : Hid (Shut g b bl (g + (b - g + 1) / 2) hint 1) := shut_one (ho0 (by omega)) (ho1 (by omega))
      clear ho0 ho1 hc0 hc1 hsr hi0 hi1
      go_wp2
      go_loopw [14] (fun i wr => ∃ d : Int, 1 ≤ d ∧ d ≤ b - g + 1 ∧ i = .int .i64 d ∧ In w wr sb ∧ Shut g b bl (g + (b - g + 1) / 2) hint d) (fun i _ => (b - g + 1 - intOf i).toNat)
      case atStart => exact ⟨1, by omega, by omega, rfl, hin, HS.out⟩
      case round =>
        obtain ⟨wo, rfl⟩ : ∃ wo : World, wo = wr := ⟨_, rfl⟩
        obtain ⟨d, hd1, hd2, rfl, hino, hsh⟩ := hrel
        have HSH : Hid (Shut g b bl (g + (b - g + 1) / 2) hint d) := hsh
        clear hsh
        have hsr := hs.below hino.bel hsb hbb
        have hi0 := hino.c0
        have h2 := hsr.good
        have h3 := hsr.bad
        clear hsr
        by_cases hlt : g + (b - g + 1) / 2 + d < b ∨ g < g + (b - g + 1) / 2 - d
        · have hd3 : d ≤ b - g := by omega
          have HLT : Hid (g + (b - g + 1) / 2 + d < b ∨ g < g + (b - g + 1) / 2 - d) := hlt
          have htest : (∀ X : Prop, (g + (b - g + 1) / 2 + d < b → X) → (¬ g + (b - g + 1) / 2 + d < b → g < g + (b - g + 1) / 2 - d → X) → X) := by
            intro X f1 f2
            by_cases hq : g + (b - g + 1) / 2 + d < b
            · exact f1 hq
            · exact f2 hq (by omega)
          clear hlt
          refine htest _ (fun hq => ?_) (fun hq hq2 => ?_)
          all_goals
            clear htest
            go_wp2
            go_loopw [83] (fun i wr => ∃ k : Int, 0 ≤ k ∧ k ≤ 2 ∧ i = .int .i64 k ∧ In w wr sb ∧ wr.cell? ⟨wo.heap.size, 0, none⟩ = some (.int .i64 (g + (b - g + 1) / 2 + d)) ∧ wr.cell? ⟨wo.heap.size, 1, none⟩ = some (.int .i64 (g + (b - g + 1) / 2 - d)) ∧
              (1 ≤ k → opn g b bl (g + (b - g + 1) / 2 + d) = false) ∧ (2 ≤ k → opn g b bl (g + (b - g + 1) / 2 - d) = false)) (fun i _ => 2 - (intOf i).toNat)
            case atStart =>
              have hp := pair_cells wo (.int .i64 (g + (b - g + 1) / 2 + d)) (.int .i64 (g + (b - g + 1) / 2 - d)) wo.heap.size rfl
              exact ⟨0, by omega, by omega, rfl, hino.alloc _, hp.1, hp.2, by omega, by omega⟩
            case round =>
              clear hi0 h2 h3
              obtain ⟨k, hk0, hk, rfl, hin2, hc0, hc1, ho0, ho1⟩ := hrel
              have hsr := hs.below hin2.bel hsb hbb
              have hi0 := hin2.c0
              have hi1 := hin2.c1
              rcases (show k = 0 ∨ k = 1 ∨ k = 2 by omega) with rfl | rfl | rfl
              · clear ho0 ho1
                rcases Bool.eq_false_or_eq_true (opn g b bl (g + (b - g + 1) / 2 + d)) with ho | ho
                · have HO : Hid (opn g b bl (g + (b - g + 1) / 2 + d) = true) := ho
                  have hne : ((g + (b - g + 1) / 2 + d) != 0) = true := by have := opn_true ho; rw [bne_iff_ne]; omega
                  clear ho
                  go_wp2_with (go_at_call 14; refine (try_yes sb bb _ _ g b bl len cap _ _ hsr hg hb hi0 hi1 HO.out).mono ?_; rintro e w' ⟨rfl, rfl⟩)
                  go_ret2
                  exact ⟨_, rfl, best_up (by omega) HSH.out HO.out, hin2.bel⟩
                · have HO : Hid (opn g b bl (g + (b - g + 1) / 2 + d) = false) := ho
                  clear ho
                  go_wp2_with (go_at_call 14; refine (try_no sb bb _ _ g b bl len cap _ _ hsr hg hb hi0 HO.out).mono ?_; rintro e w' ⟨rfl, rfl⟩)
                  go_roundw
                  case rel => exact ⟨1, by omega, by omega, by go_num, hin2, hc0, hc1, fun _ => HO.out, by omega⟩
                  case measure => simp [intOf]
              · have HM : Hid (opn g b bl (g + (b - g + 1) / 2 + d) = false) := ho0 (by omega)
                clear ho0 ho1
                rcases Bool.eq_false_or_eq_true (opn g b bl (g + (b - g + 1) / 2 - d)) with ho | ho
                · have HO : Hid (opn g b bl (g + (b - g + 1) / 2 - d) = true) := ho
                  have hne : ((g + (b - g + 1) / 2 - d) != 0) = true := by have := opn_true ho; rw [bne_iff_ne]; omega
                  clear ho
                  go_wp2_with (go_at_call 14; refine (try_yes sb bb _ _ g b bl len cap _ _ hsr hg hb hi0 hi1 HO.out).mono ?_; rintro e w' ⟨rfl, rfl⟩)
                  go_ret2
                  exact ⟨_, rfl, best_down (by omega) HSH.out HM.out HO.out, hin2.bel⟩
                · have HO : Hid (opn g b bl (g + (b - g + 1) / 2 - d) = false) := ho
                  clear ho
                  go_wp2_with (go_at_call 14; refine (try_no sb bb _ _ g b bl len cap _ _ hsr hg hb hi0 HO.out).mono ?_; rintro e w' ⟨rfl, rfl⟩)
                  go_roundw
                  case rel => exact ⟨2, by omega, by omega, by go_num, hin2, hc0, hc1, fun _ => HM.out, fun _ => HO.out⟩
                  case measure => simp [intOf]
              · have HS2 : Hid (Shut g b bl (g + (b - g + 1) / 2) hint (d + 1)) := shut_step HSH.out (ho0 (by omega)) (ho1 (by omega))
                clear ho0 ho1 hc0 hc1 hsr hi0 hi1
                go_wp2
                go_roundw
                case rel => exact ⟨d + 1, by omega, by omega, rfl, hin2, HS2.out⟩
                case measure => simp [intOf]; omega
        · have hq1 : ¬ g + (b - g + 1) / 2 + d < b := by omega
          have hq2 : ¬ g < g + (b - g + 1) / 2 - d := by omega
          clear hlt
          go_wp2
          go_ret2
          exact ⟨_, rfl, best_none HSH.out (by omega) (by omega), hino.bel⟩
end Go.Proofs.Qxb6615211a
