/-
  Seat b6600353a. FnTallyAddAnswerIsOwnHighestReport: the plain law of the reports, and what a Tally's turn leaves as it was.
-/
import Derived.Test.Qxb6600353aTally
namespace Go.Proofs.Qxb6600353a
open Go.RowKit

/-- The reports behind the first k calls. -/
structure Rep (fa fb fv : Nat → Int) (k : Nat) (R : List (Int × Int × Int)) : Prop where
  apart : R.Pairwise (fun r s => r.1 ≠ s.1)
  up : ∀ i, i < k → ∃ r ∈ R, r.1 = fa i ∧ fb i ≤ r.2.1
  mem : ∀ r ∈ R, ∃ i, i < k ∧ fa i = r.1 ∧ fb i = r.2.1 ∧ fv i = r.2.2
  len : R.length ≤ k

theorem rep_start (fa fb fv : Nat → Int) : Rep fa fb fv 0 [] := ⟨List.Pairwise.nil, fun _ h => absurd h (by omega), fun _ h => absurd h (by simp), Nat.le_refl _⟩

theorem rep_step {fa fb fv : Nat → Int} {k : Nat} {R : List (Int × Int × Int)} (h : Rep fa fb fv k R) : Rep fa fb fv (k + 1) (addR R (fa k) (fb k) (fv k)).1 := by
  refine ⟨addR_apart _ _ _ _ h.apart, fun i hi => ?_, fun r hr => ?_, Nat.le_trans (addR_length _ _ _ _) (Nat.succ_le_succ h.len)⟩
  · by_cases e : i = k
    · subst e
      exact ⟨_, addR_mem R (fa i) (fb i) (fv i), rfl, addR_ge _ _ _ _⟩
    · obtain ⟨r, hr, e1, e2⟩ := h.up i (by omega)
      obtain ⟨s, hs, e3, e4⟩ := addR_old R (fa k) (fb k) (fv k) r hr
      exact ⟨s, hs, e3.trans e1, Int.le_trans e2 e4⟩
  · rcases addR_members R (fa k) (fb k) (fv k) r hr with h1 | h1
    · obtain ⟨i, hi, e⟩ := h.mem r h1
      exact ⟨i, by omega, e⟩
    · rw [h1]; exact ⟨k, by omega, rfl, rfl, rfl⟩

/-- The answer is the acceptor's own highest report. -/
theorem rep_answer {fa fb fv : Nat → Int} {k : Nat} {R : List (Int × Int × Int)} (h : Rep fa fb fv k R) :
    (∀ j, j < k + 1 → fa j = fa k → fb j ≤ (addR R (fa k) (fb k) (fv k)).2.1) ∧ ∃ j, j < k + 1 ∧ fa j = fa k ∧ fb j = (addR R (fa k) (fb k) (fv k)).2.1 ∧ fv j = (addR R (fa k) (fb k) (fv k)).2.2 := by
  have h1 := rep_step h
  have hm := addR_mem R (fa k) (fb k) (fv k)
  refine ⟨fun j hj e => ?_, h1.mem _ hm⟩
  obtain ⟨r, hr, e1, e2⟩ := h1.up j hj
  have := apart_eq h1.apart hr hm (e1.trans e)
  rw [this] at e2
  exact e2

theorem own_none (B : Nat) (w : World) : w.ownsRow B 55 3 (.slice none 0 0) ([] : List (Int × Int × Int)).length (repCells []) := World.ownsRow_nil w B 55 3

theorem tally_below {w w' : World} {T B : Nat} {v : Value} {R : List (Int × Int × Int)} (h : TallyAt w T B v R) (hb : Below w.heap.size w w') : TallyAt w' T B v R :=
  ⟨(hb.block T (block_lt h.1)).trans h.1, h.2.kept (row := none) ⟨hb.os, hb.tape, hb.output, hb.size, fun k hk _ => hb.block k hk⟩ (by cases h : v.ownBlock <;> simp)⟩

theorem moved_below {w0 w w' : World} {T B : Nat} {v v' : Value} {R : List (Int × Int × Int)} (h : TallyAt w T B v R) (hM : Moved w w' T v.ownBlock v'.ownBlock) (hb : Below B w0 w) (hT : B ≤ T) (hB : B ≤ w.heap.size) : Below B w0 w' :=
  hb.trans ⟨hM.os, hM.tape, hM.output, hM.size, fun k hk => hM.block k (Nat.lt_of_lt_of_le hk hB) (by omega) (fun e => by have := (h.2.lt k e).1; omega)⟩

/-- A block of cells that is no report row and not the Tally stays. -/
theorem moved_cells {w w' : World} {T B k : Nat} {v v' : Value} {R : List (Int × Int × Int)} (h : TallyAt w T B v R) (hM : Moved w w' T v.ownBlock v'.ownBlock) {cs : Array Value} {t : TypeId} {fr : Nat × Nat} (hk : w.heap[k]? = some (.cells cs t fr)) (ht : t ≠ 55) (hne : k ≠ T) : w'.heap[k]? = some (.cells cs t fr) :=
  (hM.block k (block_lt hk) hne (row_ne h.2 hk ht)).trans hk

theorem moved_row {w w' : World} {T B g n : Nat} {v v' : Value} {R : List (Int × Int × Int)} (h : TallyAt w T B v R) (hM : Moved w w' T v.ownBlock v'.ownBlock) {t : TypeId} {f : Nat → Value} (hr : w.rowIs g t n f) (ht : t ≠ 55) (ht2 : t ≠ 40) : w'.rowIs g t n f := by
  obtain ⟨c, hc, h1, h2⟩ := hr
  refine ⟨c, moved_cells h hM hc ht (fun e => ?_), h1, h2⟩
  rw [e, h.1] at hc
  injection hc with hc
  injection hc with _ h2
  exact ht2 h2.symm

theorem row_not {w : World} {T B g n : Nat} {v : Value} {R : List (Int × Int × Int)} (h : TallyAt w T B v R) {t : TypeId} {f : Nat → Value} (hr : w.rowIs g t n f) (ht2 : t ≠ 40) : g ≠ T := fun e => by
  obtain ⟨c, hc, h1, h2⟩ := hr
  rw [e, h.1] at hc
  injection hc with hc
  injection hc with _ h2
  exact ht2 h2.symm

/-- Two Tallies whose rows lie apart. -/
structure Pair (w : World) (B T U : Nat) (v u : Value) (R S : List (Int × Int × Int)) : Prop where
  one : TallyAt w T B v R
  two : TallyAt w U B u S
  ne : T ≠ U
  ap : ∀ g, v.ownBlock = some g → u.ownBlock ≠ some g

theorem Pair.swap {w : World} {B T U : Nat} {v u : Value} {R S : List (Int × Int × Int)} (h : Pair w B T U v u R S) : Pair w B U T u v S R := ⟨h.two, h.one, Ne.symm h.ne, fun g a b => h.ap g b a⟩

theorem Pair.below {w w' : World} {B T U : Nat} {v u : Value} {R S : List (Int × Int × Int)} (h : Pair w B T U v u R S) (hb : Below w.heap.size w w') : Pair w' B T U v u R S := ⟨tally_below h.one hb, tally_below h.two hb, h.ne, h.ap⟩

/-- The first Tally's turn. -/
theorem Pair.turn {w w' : World} {B T U : Nat} {v v' u : Value} {R R' S : List (Int × Int × Int)} (h : Pair w B T U v u R S) (hM : Moved w w' T v.ownBlock v'.ownBlock) (ht : TallyAt w' T B v' R') : Pair w' B T U v' u R' S := by
  refine ⟨ht, ⟨moved_cells h.one hM h.two.1 (by decide) (Ne.symm h.ne), ?_⟩, h.ne, fun g hg hu => ?_⟩
  · rcases h.two.2.2 with ⟨rfl, e⟩ | ⟨g, cap, cur, rfl, hb, hg, rest⟩
    · exact ⟨h.two.2.1, .inl ⟨rfl, e⟩⟩
    · have hg' : w'.heap[g]? = w.heap[g]? := hM.block g (block_lt hg) (fun e => by
        rw [e, h.one.1] at hg
        injection hg with hg
        injection hg with _ h2
        exact absurd h2 (by decide)) (fun e => h.ap g e rfl)
      exact ⟨h.two.2.1, .inr ⟨g, cap, cur, rfl, hb, hg'.trans hg, rest⟩⟩
  · rcases hM.made g hg with e | e
    · exact h.ap g e hu
    · have := (h.two.2.lt g hu).2; omega

theorem pair_start (B : Nat) (w : World) : Pair ((w.alloc (.cells #[.slice none 0 0] 40)).alloc (.cells #[.slice none 0 0] 40)) B w.heap.size (w.heap.size + 1) (.slice none 0 0) (.slice none 0 0) [] [] ∧ Below w.heap.size w ((w.alloc (.cells #[.slice none 0 0] 40)).alloc (.cells #[.slice none 0 0] 40)) := by
  have e : (w.alloc (.cells #[.slice none 0 0] 40)).heap.size = w.heap.size + 1 := by simp
  refine ⟨⟨⟨?_, own_none _ _⟩, ⟨?_, own_none _ _⟩, by omega, fun g hg => by cases hg⟩, ((Below.refl _ _).alloc (Nat.le_refl _) _).alloc (by simp) _⟩
  · rw [Below.heap_alloc _ _ _ (by omega)]
    exact heap_alloc_new _ _
  · rw [← e]
    exact heap_alloc_new _ _

theorem two_box (w : World) (o o' : Obj) : ((w.alloc o).alloc o').drew.heap[w.heap.size]? = some o ∧ ((w.alloc o).alloc o').drew.heap[w.heap.size + 1]? = some o' ∧ Below w.heap.size w ((w.alloc o).alloc o').drew := by
  have e : (w.alloc o).heap.size = w.heap.size + 1 := by simp
  refine ⟨?_, ?_, (((Below.refl _ _).alloc (Nat.le_refl _) _).alloc (by simp) _).drew⟩
  · show ((w.alloc o).alloc o').heap[w.heap.size]? = _
    rw [Below.heap_alloc _ _ _ (by omega)]
    exact heap_alloc_new _ _
  · show ((w.alloc o).alloc o').heap[w.heap.size + 1]? = _
    rw [← e]
    exact heap_alloc_new _ _

end Go.Proofs.Qxb6600353a
