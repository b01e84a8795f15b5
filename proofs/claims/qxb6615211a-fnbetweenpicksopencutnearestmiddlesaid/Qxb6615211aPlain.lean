/-
  THE PLAIN LAW of FnBetweenPicksOpenCutNearestMiddle: no Go in sight.
-/
namespace Go.Proofs.Qxb6615211a.Plain

/-- A cut is open: strictly between good and bad, not blind. -/
def opn (g b : Int) (bl : Nat → Bool) (c : Int) : Bool := decide (g < c) && (decide (c < b) && !(bl c.toNat))

def rank (c mid hint : Int) : Int := if c = mid then 0 else if c = hint then 1 else if 0 < c - mid then 2 * (c - mid) else 1 - 2 * (c - mid)

/-- r is the open cut of least rank, or 0 where no cut is open. -/
def Best (g b : Int) (bl : Nat → Bool) (mid hint r : Int) : Prop :=
  (r = 0 ∧ ∀ c, opn g b bl c = false) ∨ (opn g b bl r = true ∧ ∀ c, opn g b bl c = true → rank r mid hint ≤ rank c mid hint)

theorem rank_inj {c d mid hint : Int} (h : rank c mid hint = rank d mid hint) : c = d := by
  unfold rank at h
  split at h <;> split at h <;> (try split at h) <;> (try split at h) <;> (try split at h) <;> omega

theorem Best.uniq {g b : Int} {bl : Nat → Bool} {mid hint r s : Int} (hr : Best g b bl mid hint r) (hs : Best g b bl mid hint s) : r = s := by
  rcases hr with ⟨h0, h1⟩ | ⟨h0, h1⟩ <;> rcases hs with ⟨k0, k1⟩ | ⟨k0, k1⟩
  · omega
  · rw [h1 s] at k0; cases k0
  · rw [k1 r] at h0; cases h0
  · exact rank_inj (Int.le_antisymm (h1 s k0) (k1 r h0))

theorem opn_true {g b : Int} {bl : Nat → Bool} {c : Int} (h : opn g b bl c = true) : g < c ∧ c < b ∧ bl c.toNat = false := by
  simpa [opn] using h
theorem opn_mk {g b : Int} {bl : Nat → Bool} {c : Int} (h1 : g < c) (h2 : c < b) (h3 : bl c.toNat = false) : opn g b bl c = true := by
  simp [opn, h1, h2, h3]
theorem opn_lo {g b : Int} {bl : Nat → Bool} {c : Int} (h : c ≤ g) : opn g b bl c = false := by
  simp [opn]; omega
theorem opn_hi {g b : Int} {bl : Nat → Bool} {c : Int} (h : b ≤ c) : opn g b bl c = false := by
  simp [opn]; omega
theorem opn_blind {g b : Int} {bl : Nat → Bool} {c : Int} (h : bl c.toNat = true) : opn g b bl c = false := by
  simp [opn, h]

/-! ### between's ways out -/
theorem best_mid {g b : Int} {bl : Nat → Bool} {mid hint : Int} (h : opn g b bl mid = true) : Best g b bl mid hint mid := by
  refine .inr ⟨h, fun c _ => ?_⟩
  unfold rank
  split <;> split <;> (try split) <;> (try split) <;> (try split) <;> omega
theorem best_hint {g b : Int} {bl : Nat → Bool} {mid hint : Int} (h0 : opn g b bl mid = false) (h : opn g b bl hint = true) : Best g b bl mid hint hint := by
  refine .inr ⟨h, fun c hc => ?_⟩
  have h1 : c ≠ mid := fun e => by rw [e, h0] at hc; cases hc
  have h2 : hint ≠ mid := fun e => by rw [e, h0] at h; cases h
  unfold rank
  rw [if_neg h2, if_pos rfl, if_neg h1]
  split <;> (try split) <;> omega
/-- Nothing nearer than d is open. -/
def Shut (g b : Int) (bl : Nat → Bool) (mid hint d : Int) : Prop :=
  opn g b bl mid = false ∧ opn g b bl hint = false ∧ ∀ e, 0 < e → e < d → opn g b bl (mid + e) = false ∧ opn g b bl (mid - e) = false
theorem shut_one {g b : Int} {bl : Nat → Bool} {mid hint : Int} (h0 : opn g b bl mid = false) (h1 : opn g b bl hint = false) : Shut g b bl mid hint 1 :=
  ⟨h0, h1, fun e he hl => by omega⟩
theorem shut_step {g b : Int} {bl : Nat → Bool} {mid hint d : Int} (h : Shut g b bl mid hint d) (h0 : opn g b bl (mid + d) = false) (h1 : opn g b bl (mid - d) = false) : Shut g b bl mid hint (d + 1) := by
  refine ⟨h.1, h.2.1, fun e he hl => ?_⟩
  by_cases hed : e = d
  · subst hed; exact ⟨h0, h1⟩
  · exact h.2.2 e he (by omega)
theorem best_up {g b : Int} {bl : Nat → Bool} {mid hint d : Int} (hd : 0 < d) (h : Shut g b bl mid hint d) (h0 : opn g b bl (mid + d) = true) : Best g b bl mid hint (mid + d) := by
  refine .inr ⟨h0, fun c hc => ?_⟩
  have h1 : c ≠ mid := fun e => by rw [e, h.1] at hc; cases hc
  have h2 : c ≠ hint := fun e => by rw [e, h.2.1] at hc; cases hc
  have h3 : mid + d ≠ hint := fun e => by rw [e, h.2.1] at h0; cases h0
  have hf : ∀ e, 0 < e → e < d → c ≠ mid + e ∧ c ≠ mid - e := fun e he hl => by
    have := h.2.2 e he hl
    constructor
    · rintro rfl; rw [this.1] at hc; cases hc
    · rintro rfl; rw [this.2] at hc; cases hc
  have f1 := hf (c - mid)
  have f2 := hf (mid - c)
  unfold rank
  rw [if_neg (by omega), if_neg h3, if_pos (by omega), if_neg h1, if_neg h2]
  split <;> omega
theorem best_down {g b : Int} {bl : Nat → Bool} {mid hint d : Int} (hd : 0 < d) (h : Shut g b bl mid hint d) (hu : opn g b bl (mid + d) = false) (h0 : opn g b bl (mid - d) = true) : Best g b bl mid hint (mid - d) := by
  refine .inr ⟨h0, fun c hc => ?_⟩
  have h1 : c ≠ mid := fun e => by rw [e, h.1] at hc; cases hc
  have h2 : c ≠ hint := fun e => by rw [e, h.2.1] at hc; cases hc
  have h3 : mid - d ≠ hint := fun e => by rw [e, h.2.1] at h0; cases h0
  have h4 : c ≠ mid + d := fun e => by rw [e, hu] at hc; cases hc
  have hf : ∀ e, 0 < e → e < d → c ≠ mid + e ∧ c ≠ mid - e := fun e he hl => by
    have := h.2.2 e he hl
    constructor
    · rintro rfl; rw [this.1] at hc; cases hc
    · rintro rfl; rw [this.2] at hc; cases hc
  have f1 := hf (c - mid)
  have f2 := hf (mid - c)
  unfold rank
  rw [if_neg (by omega), if_neg h3, if_neg (by omega), if_neg h1, if_neg h2]
  split <;> omega
theorem best_none {g b : Int} {bl : Nat → Bool} {mid hint d : Int} (h : Shut g b bl mid hint d) (h1 : b ≤ mid + d) (h2 : mid - d ≤ g) : Best g b bl mid hint 0 := by
  refine .inl ⟨rfl, fun c => ?_⟩
  by_cases hl : c ≤ g
  · exact opn_lo hl
  by_cases hh : b ≤ c
  · exact opn_hi hh
  by_cases hm : c = mid
  · rw [hm]; exact h.1
  by_cases hc : mid < c
  · have := (h.2.2 (c - mid) (by omega) (by omega)).1
    rwa [show mid + (c - mid) = c by omega] at this
  · have := (h.2.2 (mid - c) (by omega) (by omega)).2
    rwa [show mid - (mid - c) = c by omega] at this

/-! ### zzNearestOpenCut's loop -/
/-- After every cut below c was tried: the best so far and its rank. -/
def Upto (g b : Int) (bl : Nat → Bool) (mid hint c best br : Int) : Prop :=
  (best = 0 ∧ br = -1 ∧ ∀ x, x < c → opn g b bl x = false) ∨
  (opn g b bl best = true ∧ br = rank best mid hint ∧ ∀ x, x < c → opn g b bl x = true → rank best mid hint ≤ rank x mid hint)
theorem rank_nonneg (c mid hint : Int) : 0 ≤ rank c mid hint := by
  unfold rank
  split <;> (try split) <;> (try split) <;> omega
theorem upto_start (g b : Int) (bl : Nat → Bool) (mid hint : Int) : Upto g b bl mid hint (g + 1) 0 (-1) :=
  .inl ⟨rfl, rfl, fun x hx => opn_lo (by omega)⟩
theorem upto_skip {g b : Int} {bl : Nat → Bool} {mid hint c best br : Int} (h : Upto g b bl mid hint c best br) (hc : opn g b bl c = false) : Upto g b bl mid hint (c + 1) best br := by
  rcases h with ⟨h1, h2, h3⟩ | ⟨h1, h2, h3⟩
  · refine .inl ⟨h1, h2, fun x hx => ?_⟩
    by_cases e : x = c
    · rw [e]; exact hc
    · exact h3 x (by omega)
  · refine .inr ⟨h1, h2, fun x hx ho => ?_⟩
    by_cases e : x = c
    · rw [e, hc] at ho; cases ho
    · exact h3 x (by omega) ho
theorem upto_take {g b : Int} {bl : Nat → Bool} {mid hint c best br : Int} (h : Upto g b bl mid hint c best br) (hc : opn g b bl c = true) (hr : br < 0 ∨ rank c mid hint < br) :
    Upto g b bl mid hint (c + 1) c (rank c mid hint) := by
  refine .inr ⟨hc, rfl, fun x hx ho => ?_⟩
  by_cases e : x = c
  · rw [e]; exact Int.le_refl _
  rcases h with ⟨h1, h2, h3⟩ | ⟨h1, h2, h3⟩
  · rw [h3 x (by omega)] at ho; cases ho
  · have := h3 x (by omega) ho
    have := rank_nonneg best mid hint
    rcases hr with hr | hr <;> omega
theorem upto_keep {g b : Int} {bl : Nat → Bool} {mid hint c best br : Int} (h : Upto g b bl mid hint c best br) (hr : ¬ (br < 0 ∨ rank c mid hint < br)) :
    Upto g b bl mid hint (c + 1) best br := by
  rcases h with ⟨h1, h2, h3⟩ | ⟨h1, h2, h3⟩
  · omega
  · refine .inr ⟨h1, h2, fun x hx ho => ?_⟩
    by_cases e : x = c
    · rw [e]; omega
    · exact h3 x (by omega) ho
theorem upto_end {g b : Int} {bl : Nat → Bool} {mid hint c best br : Int} (h : Upto g b bl mid hint c best br) (hc : b ≤ c) : Best g b bl mid hint best := by
  rcases h with ⟨h1, h2, h3⟩ | ⟨h1, h2, h3⟩
  · refine .inl ⟨h1, fun x => ?_⟩
    by_cases e : x < c
    · exact h3 x e
    · exact opn_hi (by omega)
  · refine .inr ⟨h1, fun x ho => ?_⟩
    have := opn_true ho
    exact h3 x (by omega) ho
theorem upto_br {g b : Int} {bl : Nat → Bool} {mid hint c best br : Int} (h : Upto g b bl mid hint c best br) : -1 ≤ br := by
  rcases h with ⟨h1, h2, h3⟩ | ⟨h1, h2, h3⟩
  · omega
  · have := rank_nonneg best mid hint; omega
end Go.Proofs.Qxb6615211a.Plain
