/-
  Seat b6600353a. PLAIN MATHEMATICS: a Tally's reports as a list; what Add does to it. No Go in sight.
-/
namespace Go.Proofs.Qxb6600353a

/-- What Add does to the list of reports (acceptor, ballot, value), and the vote that it answers. -/
def addR : List (Int × Int × Int) → Int → Int → Int → List (Int × Int × Int) × Int × Int
  | [], a, b, x => ([(a, b, x)], b, x)
  | r :: R, a, b, x => if r.1 = a then (if b ≤ r.2.1 then (r :: R, r.2.1, r.2.2) else ((a, b, x) :: R, b, x)) else (r :: (addR R a b x).1, (addR R a b x).2)

/-- How many reports bear the vote (b, x). -/
def cntR (R : List (Int × Int × Int)) (b x : Int) : Nat := R.countP (fun r => r.2.1 == b && r.2.2 == x)

theorem addR_none : ∀ (R : List (Int × Int × Int)) (a b x : Int), (∀ j, j < R.length → (R.getD j (0, 0, 0)).1 ≠ a) → addR R a b x = (R ++ [(a, b, x)], b, x)
  | [], _, _, _, _ => rfl
  | r :: R, a, b, x, h => by
    have h0 : r.1 ≠ a := h 0 (by simp)
    have ih := addR_none R a b x (fun j hj => by simpa using h (j + 1) (by simpa using hj))
    rw [addR, if_neg h0, ih]
    rfl

theorem addR_some : ∀ (R : List (Int × Int × Int)) (a b x : Int) (i : Nat), i < R.length → (R.getD i (0, 0, 0)).1 = a → (∀ j, j < i → (R.getD j (0, 0, 0)).1 ≠ a) →
    (b ≤ (R.getD i (0, 0, 0)).2.1 → addR R a b x = (R, (R.getD i (0, 0, 0)).2.1, (R.getD i (0, 0, 0)).2.2)) ∧ (¬ b ≤ (R.getD i (0, 0, 0)).2.1 → addR R a b x = (R.set i (a, b, x), b, x))
  | [], _, _, _, _, h, _, _ => by simp at h
  | r :: R, a, b, x, 0, _, h1, _ => by
    have e : r.1 = a := h1
    refine ⟨fun hb => ?_, fun hb => ?_⟩
    · have hb' : b ≤ r.2.1 := hb
      rw [addR, if_pos e, if_pos hb']; rfl
    · have hb' : ¬ b ≤ r.2.1 := hb
      rw [addR, if_pos e, if_neg hb']; rfl
  | r :: R, a, b, x, i + 1, h, h1, h2 => by
    have h0 : r.1 ≠ a := h2 0 (by omega)
    obtain ⟨p, q⟩ := addR_some R a b x i (by simpa using h) (by simpa using h1) (fun j hj => by simpa using h2 (j + 1) (by omega))
    refine ⟨fun hb => ?_, fun hb => ?_⟩
    · rw [addR, if_neg h0, p (by simpa using hb)]
      simp
    · rw [addR, if_neg h0, q (by simpa using hb)]
      simp

/-- A report that is sent again turns nothing. -/
theorem addR_again : ∀ (R : List (Int × Int × Int)) (a b x : Int), addR (addR R a b x).1 a b x = addR R a b x
  | [], a, b, x => by simp [addR]
  | r :: R, a, b, x => by
    by_cases h0 : r.1 = a
    · by_cases hb : b ≤ r.2.1
      · simp [addR, h0, hb]
      · simp [addR, h0, hb]
    · have ih := addR_again R a b x
      simp [addR, h0, ih]

/-- The answer's ballot is no lower than the report's. -/
theorem addR_ge : ∀ (R : List (Int × Int × Int)) (a b x : Int), b ≤ (addR R a b x).2.1
  | [], a, b, x => Int.le_refl _
  | r :: R, a, b, x => by
    by_cases h0 : r.1 = a
    · by_cases hb : b ≤ r.2.1
      · simp [addR, h0, hb]
      · simp [addR, h0, hb]
    · have ih := addR_ge R a b x
      simpa [addR, h0] using ih

/-- The answer is the acceptor's own report. -/
theorem addR_mem : ∀ (R : List (Int × Int × Int)) (a b x : Int), (a, (addR R a b x).2.1, (addR R a b x).2.2) ∈ (addR R a b x).1
  | [], a, b, x => by simp [addR]
  | r :: R, a, b, x => by
    by_cases h0 : r.1 = a
    · by_cases hb : b ≤ r.2.1
      · have : (a, r.2.1, r.2.2) = r := by rw [← h0]
        simp [addR, h0, hb, this]
      · simp [addR, h0, hb]
    · have ih := addR_mem R a b x
      simp only [addR, h0, if_false]
      exact List.mem_cons_of_mem _ ih

theorem addR_cnt (R : List (Int × Int × Int)) (a b x : Int) : 1 ≤ cntR (addR R a b x).1 (addR R a b x).2.1 (addR R a b x).2.2 := by
  unfold cntR
  exact List.countP_pos_iff.2 ⟨_, addR_mem R a b x, by simp⟩

/-- The members behind Add. -/
theorem addR_members : ∀ (R : List (Int × Int × Int)) (a b x : Int) (r : Int × Int × Int), r ∈ (addR R a b x).1 → r ∈ R ∨ r = (a, b, x)
  | [], a, b, x, r, h => by simp [addR] at h; exact Or.inr h
  | s :: R, a, b, x, r, h => by
    by_cases h0 : s.1 = a
    · by_cases hb : b ≤ s.2.1
      · simp only [addR, h0, hb, if_true] at h; exact Or.inl h
      · simp only [addR, h0, hb, if_true, if_false] at h
        rcases List.mem_cons.1 h with h | h
        · exact Or.inr h
        · exact Or.inl (List.mem_cons_of_mem _ h)
    · simp only [addR, h0, if_false] at h
      rcases List.mem_cons.1 h with h | h
      · exact Or.inl (by rw [h]; exact List.mem_cons_self ..)
      · rcases addR_members R a b x r h with h | h
        · exact Or.inl (List.mem_cons_of_mem _ h)
        · exact Or.inr h

/-- Each old report stays, or gives way to one of its acceptor of a higher ballot. -/
theorem addR_old : ∀ (R : List (Int × Int × Int)) (a b x : Int) (r : Int × Int × Int), r ∈ R → ∃ s ∈ (addR R a b x).1, s.1 = r.1 ∧ r.2.1 ≤ s.2.1
  | s :: R, a, b, x, r, h => by
    by_cases h0 : s.1 = a
    · by_cases hb : b ≤ s.2.1
      · simp only [addR, h0, hb, if_true]; exact ⟨r, h, rfl, Int.le_refl _⟩
      · simp only [addR, h0, hb, if_true, if_false]
        rcases List.mem_cons.1 h with h | h
        · exact ⟨(a, b, x), List.mem_cons_self .., by rw [h, h0], by rw [h]; show s.2.1 ≤ b; omega⟩
        · exact ⟨r, List.mem_cons_of_mem _ h, rfl, Int.le_refl _⟩
    · simp only [addR, h0, if_false]
      rcases List.mem_cons.1 h with h | h
      · exact ⟨r, by rw [h]; exact List.mem_cons_self .., rfl, Int.le_refl _⟩
      · obtain ⟨t, ht, e⟩ := addR_old R a b x r h
        exact ⟨t, List.mem_cons_of_mem _ ht, e⟩

/-- No acceptor stands twice. -/
theorem addR_acc : ∀ (R : List (Int × Int × Int)) (a b x : Int) (r : Int × Int × Int), r ∈ (addR R a b x).1 → r.1 = a ∨ ∃ s ∈ R, s.1 = r.1 := fun R a b x r h => by
  rcases addR_members R a b x r h with h | h
  · exact Or.inr ⟨r, h, rfl⟩
  · exact Or.inl (by rw [h])

theorem addR_apart : ∀ (R : List (Int × Int × Int)) (a b x : Int), R.Pairwise (fun r s => r.1 ≠ s.1) → (addR R a b x).1.Pairwise (fun r s => r.1 ≠ s.1)
  | [], a, b, x, _ => by simp [addR]
  | s :: R, a, b, x, h => by
    obtain ⟨h1, h2⟩ := List.pairwise_cons.1 h
    by_cases h0 : s.1 = a
    · by_cases hb : b ≤ s.2.1
      · simp only [addR, h0, hb, if_true]; exact h
      · simp only [addR, h0, hb, if_true, if_false]
        exact List.pairwise_cons.2 ⟨fun t ht => by show a ≠ t.1; rw [← h0]; exact h1 t ht, h2⟩
    · simp only [addR, h0, if_false]
      refine List.pairwise_cons.2 ⟨fun t ht => ?_, addR_apart R a b x h2⟩
      rcases addR_acc R a b x t ht with e | ⟨u, hu, e⟩
      · rw [e]; exact h0
      · rw [← e]; exact h1 u hu

theorem apart_eq {R : List (Int × Int × Int)} (h : R.Pairwise (fun r s => r.1 ≠ s.1)) {r s : Int × Int × Int} (hr : r ∈ R) (hs : s ∈ R) (e : r.1 = s.1) : r = s := by
  induction R with
  | nil => simp at hr
  | cons t R ih =>
    obtain ⟨h1, h2⟩ := List.pairwise_cons.1 h
    rcases List.mem_cons.1 hr with er | hr
    · rcases List.mem_cons.1 hs with es | hs
      · rw [er, es]
      · exact absurd (er ▸ e) (h1 s hs)
    · rcases List.mem_cons.1 hs with es | hs
      · exact absurd (es ▸ e).symm (h1 r hr)
      · exact ih h2 hr hs

theorem addR_length : ∀ (R : List (Int × Int × Int)) (a b x : Int), (addR R a b x).1.length ≤ R.length + 1
  | [], a, b, x => by simp [addR]
  | s :: R, a, b, x => by
    by_cases h0 : s.1 = a
    · by_cases hb : b ≤ s.2.1
      · simp [addR, h0, hb]
      · simp [addR, h0, hb]
    · have := addR_length R a b x
      simp only [addR, h0, if_false, List.length_cons]
      omega

end Go.Proofs.Qxb6600353a
