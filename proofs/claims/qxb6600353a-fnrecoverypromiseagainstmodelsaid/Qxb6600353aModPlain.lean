/-
  Seat b6600353a. FnRecoveryPromiseAgainstModel: the plain law of the map of votes after a script of promises; what Promise then answers.
-/
import Derived.Test.Qxb6600353aRecTwo
import Derived.Test.Qxb6600353aFirst
namespace Go.Proofs.Qxb6600353a
open Go.RowKit Go.Maps

/-- How many of the first k reports are the first of their acceptor. -/
def cntF (fa : Nat → Int) : Nat → Nat
  | 0 => 0
  | k + 1 => cntF fa k + if isFirst fa k = true then 1 else 0

theorem cntF_le (fa : Nat → Int) : ∀ k, cntF fa k ≤ k
  | 0 => Nat.le_refl _
  | k + 1 => by have := cntF_le fa k; simp only [cntF]; split <;> omega

/-- The map behind the first k promises. -/
def Mod (D : DataW Unit) (fa fb fv : Nat → Int) (k : Nat) : Prop :=
  ∃ gb gv, IsD D (fun x => ∃ j, j < k ∧ fa j = x) gb gv (cntF fa k) ∧ ∀ j, j < k → (∀ i, i < k → j < i → fa i ≠ fa j) → gb (fa j) = fb j ∧ gv (fa j) = fv j

theorem mod_start (fa fb fv : Nat → Int) : Mod (.map []) fa fb fv 0 := ⟨fun _ => 0, fun _ => 0, isD_zero (fun _ h => by obtain ⟨j, hj, _⟩ := h; omega), fun j hj => absurd hj (by omega)⟩

theorem mod_step {D : DataW Unit} {fa fb fv : Nat → Int} {k : Nat} (h : Mod D fa fb fv k) : Mod (D.put (.int .i64 (fa k)) (voteD (fb k) (fv k))) fa fb fv (k + 1) := by
  obtain ⟨gb, gv, hD, hg⟩ := h
  refine ⟨fun x => if x = fa k then fb k else gb x, fun x => if x = fa k then fv k else gv x, ?_, fun j hj hl => ?_⟩
  · have hS : ∀ x, (x = fa k ∨ ∃ j, j < k ∧ fa j = x) ↔ ∃ j, j < k + 1 ∧ fa j = x := fun x => by
      constructor
      · rintro (h | ⟨j, hj, e⟩)
        · exact ⟨k, by omega, h.symm⟩
        · exact ⟨j, by omega, e⟩
      · rintro ⟨j, hj, e⟩
        by_cases ek : j = k
        · subst ek; exact Or.inl e.symm
        · exact Or.inr ⟨j, by omega, e⟩
    by_cases hf : isFirst fa k = true
    · have hno : ¬ ∃ j, j < k ∧ fa j = fa k := fun ⟨j, hj, e⟩ => isFirst_iff.1 hf j hj e
      have := ((isD_put hD (fa k) (fb k) (fv k)).1 hno).congr hS (fun _ _ => rfl) (fun _ _ => rfl)
      simpa only [cntF, hf, if_true] using this
    · have hyes : ∃ j, j < k ∧ fa j = fa k := Classical.byContradiction fun hno => hf (isFirst_iff.2 fun i hi e => hno ⟨i, hi, e⟩)
      have := ((isD_put hD (fa k) (fb k) (fv k)).2 hyes).congr hS (fun _ _ => rfl) (fun _ _ => rfl)
      have e : cntF fa (k + 1) = cntF fa k := by simp only [cntF]; rw [if_neg hf]; rfl
      rw [e]; exact this
  · by_cases e : j = k
    · subst e; simp
    · have hne : fa j ≠ fa k := fun e' => hl k (by omega) (by omega) e'.symm
      simp only [if_neg hne]
      exact hg j (by omega) (fun i hi hji => hl i (by omega) hji)

/-- Each acceptor that has reported has a last report. -/
theorem last_of (fa : Nat → Int) (x : Int) : ∀ k, (∃ j, j < k ∧ fa j = x) → ∃ j, j < k ∧ fa j = x ∧ ∀ i, i < k → j < i → fa i ≠ fa j
  | 0, ⟨j, hj, _⟩ => absurd hj (by omega)
  | k + 1, h => by
    by_cases e : fa k = x
    · exact ⟨k, by omega, e, fun i hi hki => absurd hi (by omega)⟩
    · have h' : ∃ j, j < k ∧ fa j = x := by
        obtain ⟨j, hj, ej⟩ := h
        exact ⟨j, by rcases Nat.lt_or_ge j k with h | h; · exact h
                     · exact absurd ((show j = k by omega) ▸ ej) e, ej⟩
      obtain ⟨j, hj, ej, hl⟩ := last_of fa x k h'
      refine ⟨j, by omega, ej, fun i hi hji => ?_⟩
      by_cases ei : i = k
      · subst ei; rw [ej]; exact e
      · exact hl i (by omega) hji

theorem mod_at {D : DataW Unit} {fa fb fv : Nat → Int} {k : Nat} (h : Mod D fa fb fv (k + 1)) {j : Nat} (hj : j < k + 1) (hl : isLast fa j k = true) : At D (fa j) (fb j) (fv j) := by
  obtain ⟨gb, gv, hD, hg⟩ := h
  have := hD.2.2.1 (fa j) ⟨j, hj, rfl⟩
  obtain ⟨e1, e2⟩ := hg j hj (isLast_iff.1 hl)
  rw [e1, e2] at this
  exact this

theorem mod_of {D : DataW Unit} {fa fb fv : Nat → Int} {k : Nat} (h : Mod D fa fb fv (k + 1)) {x b v : Int} (hx : At D x b v) : ∃ j, j < k + 1 ∧ isLast fa j k = true ∧ fb j = b ∧ fv j = v := by
  obtain ⟨gb, gv, hD, hg⟩ := h
  obtain ⟨hs, e1, e2⟩ := hD.at hx
  obtain ⟨j, hj, ej, hl⟩ := last_of fa x (k + 1) hs
  obtain ⟨e3, e4⟩ := hg j hj hl
  rw [ej] at e3 e4
  exact ⟨j, hj, isLast_iff.2 hl, e3.symm.trans e1.symm, e4.symm.trans e2.symm⟩

/-- What the law's loop has found among the first i: the latest promises that carry a value. -/
def FM (fa fb fv : Nat → Int) (k i : Nat) (found : Bool) (mB : Int) : Prop :=
  (found = false ∧ ∀ j, j < i → ¬ (fv j ≠ 0 ∧ isLast fa j k = true)) ∨ (found = true ∧ (∃ j, j < i ∧ (fv j ≠ 0 ∧ isLast fa j k = true) ∧ fb j = mB) ∧ ∀ j, j < i → (fv j ≠ 0 ∧ isLast fa j k = true) → fb j ≤ mB)

theorem fm_skip {fa fb fv : Nat → Int} {k i : Nat} {found : Bool} {mB : Int} (h : FM fa fb fv k i found mB) (hno : ¬ (fv i ≠ 0 ∧ isLast fa i k = true)) : FM fa fb fv k (i + 1) found mB := by
  rcases h with ⟨h1, h2⟩ | ⟨h1, ⟨j, hj, hjj⟩, h3⟩
  · refine Or.inl ⟨h1, fun j hj => ?_⟩
    by_cases e : j = i
    · subst e; exact hno
    · exact h2 j (by omega)
  · refine Or.inr ⟨h1, ⟨j, by omega, hjj⟩, fun t ht hs => ?_⟩
    by_cases e : t = i
    · subst e; exact absurd hs hno
    · exact h3 t (by omega) hs

theorem fm_keep {fa fb fv : Nat → Int} {k i : Nat} {mB : Int} (h : FM fa fb fv k i true mB) (hle : fb i ≤ mB) : FM fa fb fv k (i + 1) true mB := by
  rcases h with ⟨h1, _⟩ | ⟨h1, ⟨j, hj, hjj⟩, h3⟩
  · cases h1
  · refine Or.inr ⟨h1, ⟨j, by omega, hjj⟩, fun t ht hs => ?_⟩
    by_cases e : t = i
    · subst e; exact hle
    · exact h3 t (by omega) hs

theorem fm_take {fa fb fv : Nat → Int} {k i : Nat} {found : Bool} {mB : Int} (h : FM fa fb fv k i found mB) (hs : fv i ≠ 0 ∧ isLast fa i k = true) (hy : found = false ∨ mB < fb i) : FM fa fb fv k (i + 1) true (fb i) := by
  refine Or.inr ⟨rfl, ⟨i, by omega, hs, rfl⟩, fun t ht hst => ?_⟩
  by_cases e : t = i
  · subst e; exact Int.le_refl _
  · rcases h with ⟨_, h2⟩ | ⟨h1, _, h3⟩
    · exact absurd hst (h2 t (by omega))
    · have := h3 t (by omega) hst
      rcases hy with hy | hy
      · rw [h1] at hy; cases hy
      · omega

/-- What the answer is, against the model. -/
theorem mod_answer {D : DataW Unit} {fa fb fv : Nat → Int} {k : Nat} {found : Bool} {mB rv : Int} (hM : Mod D fa fb fv (k + 1)) (hF : FM fa fb fv k (k + 1) found mB) (hP : Picks D rv) :
    (found = false → rv = 2) ∧ (found = true → ∃ j, j < k + 1 ∧ fv j ≠ 0 ∧ fb j = mB ∧ fv j = rv ∧ isLast fa j k = true) := by
  rcases hF with ⟨h1, h2⟩ | ⟨h1, ⟨j, hj, hs, hb⟩, h3⟩
  · refine ⟨fun _ => ?_, fun h => by rw [h1] at h; cases h⟩
    rcases hP with ⟨h, _⟩ | ⟨h, x, hb, hx, _⟩
    · exact h
    · obtain ⟨j, hj, hl, _, e2⟩ := mod_of hM hx
      exact absurd ⟨by rw [e2]; exact h, hl⟩ (h2 j hj)
  · refine ⟨fun h => by (rw [h1] at h; cases h), fun _ => ?_⟩
    rcases hP with ⟨_, h⟩ | ⟨h, x, hb', hx, hall⟩
    · exact absurd (h _ _ _ (mod_at hM hj hs.2)) hs.1
    · obtain ⟨j0, hj0, hl0, e1, e2⟩ := mod_of hM hx
      have l1 := h3 j0 hj0 ⟨by rw [e2]; exact h, hl0⟩
      have l2 := hall _ _ _ (mod_at hM hj hs.2) hs.1
      exact ⟨j0, hj0, by rw [e2]; exact h, by omega, e2, hl0⟩

theorem mod_size {D : DataW Unit} {fa fb fv : Nat → Int} {k : Nat} (h : Mod D fa fb fv k) : size D = cntF fa k := by obtain ⟨_, _, hD, _⟩ := h; exact hD.2.1

end Go.Proofs.Qxb6600353a
