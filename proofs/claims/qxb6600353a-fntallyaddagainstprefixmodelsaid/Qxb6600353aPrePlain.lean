/-
  Seat b6600353a. FnTallyAddAgainstPrefixModel: the plain law: each report in the list is its acceptor's earliest of its greatest ballot; the list stands in the order of the acceptors' first reports.
-/
import Derived.Test.Qxb6600353aTallyPlain
import Derived.Test.Qxb6600353aFirst
namespace Go.Proofs.Qxb6600353a

/-- Of the first m reports: acceptor a's earliest of its greatest ballot. -/
def IsB (fa fb fv : Nat → Int) (m : Nat) (a b x : Int) : Prop :=
  ∃ i, i < m ∧ fa i = a ∧ fb i = b ∧ fv i = x ∧ (∀ j, j < m → fa j = a → fb j ≤ b) ∧ ∀ j, j < i → fa j = a → fb j ≠ b

theorem isB_same {fa fb fv : Nat → Int} {m : Nat} {a b x b' x' : Int} (h : IsB fa fb fv m a b x) (h' : IsB fa fb fv m a b' x') : b = b' ∧ x = x' := by
  obtain ⟨i, h1, h2, h3, h4, h5, h6⟩ := h
  obtain ⟨i', g1, g2, g3, g4, g5, g6⟩ := h'
  have e : b = b' := by
    have l1 := h5 i' g1 g2
    have l2 := g5 i h1 h2
    omega
  subst e
  have ei : i = i' := by
    rcases Nat.lt_trichotomy i i' with hl | hl | hl
    · exact absurd h3 (g6 i hl h2)
    · exact hl
    · exact absurd g3 (h6 i' hl g2)
  subst ei
  exact ⟨rfl, h4.symm.trans g4⟩

theorem addR_cases : ∀ (R : List (Int × Int × Int)) (a b x : Int) (r : Int × Int × Int), R.Pairwise (fun r s => r.1 ≠ s.1) → r ∈ (addR R a b x).1 →
    (r.1 ≠ a ∧ r ∈ R) ∨ (r.1 = a ∧ r ∈ R ∧ b ≤ r.2.1) ∨ (r = (a, b, x) ∧ ∀ s ∈ R, s.1 = a → s.2.1 < b)
  | [], a, b, x, r, _, h => by
    simp [addR] at h
    exact Or.inr (Or.inr ⟨h, fun s hs => by simp at hs⟩)
  | s :: R, a, b, x, r, hp, h => by
    obtain ⟨h1, h2⟩ := List.pairwise_cons.1 hp
    by_cases h0 : s.1 = a
    · by_cases hb : b ≤ s.2.1
      · simp only [addR, h0, hb, if_true] at h
        rcases List.mem_cons.1 h with h | h
        · subst h; exact Or.inr (Or.inl ⟨h0, List.mem_cons_self .., hb⟩)
        · exact Or.inl ⟨fun e => h1 r h (h0.trans e.symm), List.mem_cons_of_mem _ h⟩
      · simp only [addR, h0, hb, if_true, if_false] at h
        rcases List.mem_cons.1 h with h | h
        · refine Or.inr (Or.inr ⟨h, fun t ht e => ?_⟩)
          rcases List.mem_cons.1 ht with ht | ht
          · subst ht; omega
          · exact absurd (h0.trans e.symm) (h1 t ht)
        · exact Or.inl ⟨fun e => h1 r h (h0.trans e.symm), List.mem_cons_of_mem _ h⟩
    · simp only [addR, h0, if_false] at h
      rcases List.mem_cons.1 h with h | h
      · subst h; exact Or.inl ⟨h0, List.mem_cons_self ..⟩
      · rcases addR_cases R a b x r h2 h with ⟨g1, g2⟩ | ⟨g1, g2, g3⟩ | ⟨g1, g2⟩
        · exact Or.inl ⟨g1, List.mem_cons_of_mem _ g2⟩
        · exact Or.inr (Or.inl ⟨g1, List.mem_cons_of_mem _ g2, g3⟩)
        · refine Or.inr (Or.inr ⟨g1, fun t ht e => ?_⟩)
          rcases List.mem_cons.1 ht with ht | ht
          · subst ht; exact absurd e h0
          · exact g2 t ht e

theorem addR_fst : ∀ (R : List (Int × Int × Int)) (a b x : Int), (addR R a b x).1.map (fun r => r.1) = if a ∈ R.map (fun r => r.1) then R.map (fun r => r.1) else R.map (fun r => r.1) ++ [a]
  | [], a, b, x => by simp [addR]
  | s :: R, a, b, x => by
    by_cases h0 : s.1 = a
    · by_cases hb : b ≤ s.2.1
      · simp [addR, h0, hb]
      · simp [addR, h0, hb]
    · have ih := addR_fst R a b x
      have h0' : ¬ a = s.1 := fun e => h0 e.symm
      simp only [addR, h0, if_false, List.map_cons, ih, List.mem_cons, h0', false_or]
      split <;> simp

/-- The acceptors, in the order of their first reports. -/
def FL (fa : Nat → Int) : Nat → List Int
  | 0 => []
  | k + 1 => FL fa k ++ if isFirst fa k = true then [fa k] else []

theorem mem_FL (fa : Nat → Int) (x : Int) : ∀ k, x ∈ FL fa k ↔ ∃ j, j < k ∧ fa j = x
  | 0 => by simp [FL]
  | k + 1 => by
    have ih := mem_FL fa x k
    by_cases hf : isFirst fa k = true
    · simp only [FL, hf, if_true, List.mem_append, List.mem_singleton, ih]
      constructor
      · rintro (⟨j, hj, e⟩ | e)
        · exact ⟨j, by omega, e⟩
        · exact ⟨k, by omega, e.symm⟩
      · rintro ⟨j, hj, e⟩
        by_cases ek : j = k
        · subst ek; exact Or.inr e.symm
        · exact Or.inl ⟨j, by omega, e⟩
    · have e0 : FL fa (k + 1) = FL fa k := by simp only [FL]; rw [if_neg hf]; simp
      rw [e0, ih]
      constructor
      · rintro ⟨j, hj, e⟩; exact ⟨j, by omega, e⟩
      · rintro ⟨j, hj, e⟩
        by_cases ek : j = k
        · subst ek
          obtain ⟨i, hi, ei⟩ : ∃ i, i < j ∧ fa i = fa j := Classical.byContradiction fun hno => hf (isFirst_iff.2 fun i hi e => hno ⟨i, hi, e⟩)
          exact ⟨i, hi, ei.trans e⟩
        · exact ⟨j, by omega, e⟩

theorem FL_length (fa : Nat → Int) : ∀ k, (FL fa k).length ≤ k
  | 0 => Nat.le_refl _
  | k + 1 => by
    have := FL_length fa k
    simp only [FL, List.length_append]
    split <;> simp <;> omega

structure RepB (fa fb fv : Nat → Int) (k : Nat) (R : List (Int × Int × Int)) : Prop where
  apart : R.Pairwise (fun r s => r.1 ≠ s.1)
  fst : R.map (fun r => r.1) = FL fa k
  best : ∀ r ∈ R, IsB fa fb fv k r.1 r.2.1 r.2.2

theorem repB_start (fa fb fv : Nat → Int) : RepB fa fb fv 0 [] := ⟨List.Pairwise.nil, rfl, fun _ h => absurd h (by simp)⟩
theorem RepB.len {fa fb fv : Nat → Int} {k : Nat} {R : List (Int × Int × Int)} (h : RepB fa fb fv k R) : R.length ≤ k := by
  have := FL_length fa k
  rw [← h.fst, List.length_map] at this
  exact this

theorem repB_step {fa fb fv : Nat → Int} {k : Nat} {R : List (Int × Int × Int)} (h : RepB fa fb fv k R) : RepB fa fb fv (k + 1) (addR R (fa k) (fb k) (fv k)).1 := by
  refine ⟨addR_apart _ _ _ _ h.apart, ?_, fun r hr => ?_⟩
  · rw [addR_fst, h.fst]
    by_cases hf : isFirst fa k = true
    · have hno : fa k ∉ FL fa k := fun hm => by
        obtain ⟨j, hj, e⟩ := (mem_FL fa (fa k) k).1 hm
        exact isFirst_iff.1 hf j hj e
      rw [if_neg hno]
      simp only [FL, hf, if_true]
    · have hyes : fa k ∈ FL fa k := (mem_FL fa (fa k) k).2 (Classical.byContradiction fun hno => hf (isFirst_iff.2 fun i hi e => hno ⟨i, hi, e⟩))
      rw [if_pos hyes]
      simp only [FL]; rw [if_neg hf]; simp
  · rcases addR_cases R (fa k) (fb k) (fv k) r h.apart hr with ⟨h1, h2⟩ | ⟨h1, h2, h3⟩ | ⟨h1, h2⟩
    · obtain ⟨i, g1, g2, g3, g4, g5, g6⟩ := h.best r h2
      refine ⟨i, by omega, g2, g3, g4, fun j hj e => ?_, g6⟩
      by_cases ej : j = k
      · subst ej; exact absurd e.symm h1
      · exact g5 j (by omega) e
    · obtain ⟨i, g1, g2, g3, g4, g5, g6⟩ := h.best r h2
      refine ⟨i, by omega, g2, g3, g4, fun j hj e => ?_, g6⟩
      by_cases ej : j = k
      · subst ej; exact h3
      · exact g5 j (by omega) e
    · have hold : ∀ j, j < k → fa j = fa k → fb j < fb k := fun j hj e => by
        have hm : fa k ∈ R.map (fun r => r.1) := by rw [h.fst]; exact (mem_FL fa (fa k) k).2 ⟨j, hj, e⟩
        obtain ⟨s, hs, es⟩ := List.mem_map.1 hm
        obtain ⟨i, g1, g2, g3, g4, g5, g6⟩ := h.best s hs
        have := g5 j hj (e.trans es.symm)
        have := h2 s hs es
        omega
      subst h1
      refine ⟨k, by omega, rfl, rfl, rfl, fun j hj e => ?_, fun j hj e => ?_⟩
      · by_cases ej : j = k
        · subst ej; exact Int.le_refl _
        · have := hold j (by omega) e; exact Int.le_of_lt this
      · have := hold j hj e; show fb j ≠ fb k; omega

/-- Does acceptor y's report in the list bear the vote (b, x)? -/
def bears (R : List (Int × Int × Int)) (b x y : Int) : Bool := R.any (fun r => r.1 == y && (r.2.1 == b && r.2.2 == x))

theorem bears_of {R : List (Int × Int × Int)} (h : R.Pairwise (fun r s => r.1 ≠ s.1)) {r : Int × Int × Int} (hr : r ∈ R) (b x : Int) : bears R b x r.1 = (r.2.1 == b && r.2.2 == x) := by
  by_cases hq : (r.2.1 == b && r.2.2 == x) = true
  · rw [hq]
    exact List.any_eq_true.2 ⟨r, hr, by simp [hq]⟩
  · have hq0 : (r.2.1 == b && r.2.2 == x) = false := by simpa using hq
    rw [hq0]
    refine Bool.eq_false_iff.2 fun ha => ?_
    obtain ⟨s, hs, e⟩ := List.any_eq_true.1 ha
    simp only [Bool.and_eq_true, beq_iff_eq] at e
    have := apart_eq h hs hr e.1
    subst this
    exact hq (by simp [e.2.1, e.2.2])

theorem count_bears {fa fb fv : Nat → Int} {k : Nat} {R : List (Int × Int × Int)} (h : RepB fa fb fv k R) (b x : Int) : cntR R b x = (FL fa k).countP (bears R b x) := by
  rw [← h.fst, List.countP_map]
  unfold cntR
  refine List.countP_congr fun r hr => ?_
  show _ ↔ bears R b x r.1 = true
  rw [bears_of h.apart hr]

theorem FL_count (fa : Nat → Int) (p : Int → Bool) (k : Nat) : (FL fa (k + 1)).countP p = (FL fa k).countP p + if (isFirst fa k && p (fa k)) = true then 1 else 0 := by
  simp only [FL, List.countP_append]
  by_cases hf : isFirst fa k = true
  · simp only [hf, if_true, Bool.true_and, List.countP_singleton]
  · have hf0 : isFirst fa k = false := by simpa using hf
    simp [hf0]

theorem FL_count_le (fa : Nat → Int) (p : Int → Bool) (k : Nat) : (FL fa k).countP p ≤ k := Nat.le_trans List.countP_le_length (FL_length fa k)

/-- What the model finds for acceptor fa j is what the list holds of it. -/
theorem repB_bears {fa fb fv : Nat → Int} {k j : Nat} {R : List (Int × Int × Int)} (h : RepB fa fb fv k R) (hj : j < k) {tb tv : Int} (hB : IsB fa fb fv k (fa j) tb tv) (b x : Int) : bears R b x (fa j) = (tb == b && tv == x) := by
  have hm : fa j ∈ R.map (fun r => r.1) := by rw [h.fst]; exact (mem_FL fa (fa j) k).2 ⟨j, hj, rfl⟩
  obtain ⟨r, hr, e⟩ := List.mem_map.1 hm
  have hb := h.best r hr
  rw [e] at hb
  obtain ⟨e1, e2⟩ := isB_same hb hB
  rw [← e, bears_of h.apart hr, e1, e2]

end Go.Proofs.Qxb6600353a
