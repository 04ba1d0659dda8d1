/-
  Seat b6600353a. What a Tally is in memory, and what Add's stores make of it.
-/
import Derived.Test.Qxb6600353aIndex
import Derived.Test.Qxb6600353aTallyPlain
import Derived.OneCell
import Derived.Deep.AppendLies
namespace Go.Proofs.Qxb6600353a
open Go.RowKit

theorem Try.info55 : (Try.prog.info? 55).map (fun i => (i.zero, i.size, i.bytes)) = some (some (.agg #[.int .i64 0, .int .i64 0, .int .i64 0]), 3, 24) := by kernel_rfl

/-- The reports' cells. -/
def repCells : List (Int × Int × Int) → List Value
  | [] => []
  | r :: R => .int .i64 r.1 :: .int .i64 r.2.1 :: .int .i64 r.2.2 :: repCells R

theorem repCells_length : ∀ R, (repCells R).length = R.length * 3
  | [] => rfl
  | r :: R => by simp only [repCells, List.length_cons, repCells_length R]; omega
theorem repCells_append : ∀ R S, repCells (R ++ S) = repCells R ++ repCells S
  | [], S => rfl
  | r :: R, S => by simp [repCells, repCells_append R S]
theorem repCells_get : ∀ (R : List (Int × Int × Int)) (i : Nat), i < R.length → (repCells R)[i * 3]? = some (.int .i64 (R.getD i (0, 0, 0)).1) ∧ (repCells R)[i * 3 + 1]? = some (.int .i64 (R.getD i (0, 0, 0)).2.1) ∧ (repCells R)[i * 3 + 2]? = some (.int .i64 (R.getD i (0, 0, 0)).2.2)
  | [], _, h => by simp at h
  | r :: R, 0, _ => ⟨rfl, rfl, rfl⟩
  | r :: R, i + 1, h => by
    have ih := repCells_get R i (by simpa using h)
    rw [show (i + 1) * 3 = i * 3 + 3 from by omega, show i * 3 + 3 + 1 = i * 3 + 1 + 3 from by omega, show i * 3 + 3 + 2 = i * 3 + 2 + 3 from by omega]
    simpa [repCells] using ih
theorem repCells_set : ∀ (R : List (Int × Int × Int)) (i : Nat) (b x : Int), i < R.length → ((repCells R).set (i * 3 + 1) (.int .i64 b)).set (i * 3 + 2) (.int .i64 x) = repCells (R.set i ((R.getD i (0, 0, 0)).1, b, x))
  | [], _, _, _, h => by simp at h
  | r :: R, 0, _, _, _ => rfl
  | r :: R, i + 1, b, x, h => by
    have ih := repCells_set R i b x (by simpa using h)
    rw [show (i + 1) * 3 + 1 = i * 3 + 1 + 3 from by omega, show (i + 1) * 3 + 2 = i * 3 + 2 + 3 from by omega]
    simpa [repCells] using ih
theorem repCells_one : ∀ R, ∀ u ∈ repCells R, u.oneCell' = true
  | [], u, h => by simp [repCells] at h
  | r :: R, u, h => by
    simp only [repCells, List.mem_cons] at h
    rcases h with rfl | rfl | rfl | h
    · rfl
    · rfl
    · rfl
    · exact repCells_one R u h

/-- Block T is a Tally whose reports are R. -/
def TallyAt (w : World) (T B : Nat) (v : Value) (R : List (Int × Int × Int)) : Prop := w.heap[T]? = some (.cells #[v] 40 (0, 0)) ∧ w.ownsRow B 55 3 v R.length (repCells R)

/-- Nothing that was there has turned but the Tally and its row. -/
structure Moved (w w' : World) (T : Nat) (m m' : Option Nat) : Prop where
  os : w'.os = w.os
  tape : w'.tape = w.tape
  output : w'.output = w.output
  size : w.heap.size ≤ w'.heap.size
  block : ∀ k, k < w.heap.size → k ≠ T → m ≠ some k → w'.heap[k]? = w.heap[k]?
  made : ∀ g, m' = some g → m = some g ∨ w.heap.size ≤ g

theorem tally_form {w : World} {T B : Nat} {v : Value} {R : List (Int × Int × Int)} (h : TallyAt w T B v R) : ∃ ao c, v = .slice ao R.length c := by
  rcases h.2.2 with ⟨rfl, e⟩ | ⟨g, cap, cur, rfl, _⟩
  · rw [e]; exact ⟨_, _, rfl⟩
  · exact ⟨_, _, rfl⟩

theorem tally_reps {w : World} {B : Nat} {ao : Option Addr} {n c : Nat} {R : List (Int × Int × Int)} (hn : R.length = n) (h : w.ownsRow B 55 3 (.slice ao n c) R.length (repCells R)) :
    Reps w ao n (fun i => (R.getD i (0, 0, 0)).1) (fun i => (R.getD i (0, 0, 0)).2.1) (fun i => (R.getD i (0, 0, 0)).2.2) := fun h0 => by
  obtain ⟨g, cap, hv, _, hlt⟩ := h.form (by omega)
  cases hv
  refine ⟨g, rfl, hlt, fun i hi => ?_⟩
  have hc := h.cells (g := g) rfl
  obtain ⟨e0, e1, e2⟩ := repCells_get R i (by omega)
  have k0 := hc _ _ e0
  have k1 := hc _ _ e1
  have k2 := hc _ _ e2
  rw [Addr.add_lit, Nat.zero_add] at k0 k1 k2
  exact ⟨k0, k1, k2⟩

/-- Three blocks laid, one behind the other. -/
theorem three_laid (w : World) (o o' o'' : Obj) : (((w.alloc o).alloc o').alloc o'').heap[w.heap.size]? = some o ∧ (((w.alloc o).alloc o').alloc o'').heap[w.heap.size + 1]? = some o' ∧ (((w.alloc o).alloc o').alloc o'').heap[w.heap.size + 1 + 1]? = some o'' ∧
    Below w.heap.size w (((w.alloc o).alloc o').alloc o'') ∧ (((w.alloc o).alloc o').alloc o'').heap.size = w.heap.size + 1 + 1 + 1 := by
  have e : (w.alloc o).heap.size = w.heap.size + 1 := by simp
  have e2 : ((w.alloc o).alloc o').heap.size = w.heap.size + 1 + 1 := by simp
  refine ⟨?_, ?_, ?_, (((Below.refl _ _).alloc (Nat.le_refl _) _).alloc (by simp) _).alloc (by simp; omega) _, by simp⟩
  · rw [Below.heap_alloc _ _ _ (by omega), Below.heap_alloc _ _ _ (by omega)]; exact heap_alloc_new _ _
  · rw [Below.heap_alloc _ _ _ (by omega), ← e]; exact heap_alloc_new _ _
  · rw [← e2]; exact heap_alloc_new _ _

/-- The Tally, the vote's box and the result's cell, inside Add. -/
def Sw (w w' : World) (T B : Nat) (m : Option Nat) (v : Value) (R : List (Int × Int × Int)) (b x : Int) : Prop :=
  w'.heap[T]? = some (.cells #[v] 40 (0, 0)) ∧ w'.ownsRow B 55 3 v R.length (repCells R) ∧ w'.heap[w.heap.size + 1]? = some (.cells #[.int .i64 b, .int .i64 x] 30 (0, 0)) ∧ w'.heap[w.heap.size + 1 + 1]? = some (.cells #[.int .i64 0, .int .i64 0] 30 (0, 0)) ∧ Moved w w' T m v.ownBlock

theorem row_ne {w : World} {B : Nat} {v : Value} {n : Nat} {xs : List Value} (h : w.ownsRow B 55 3 v n xs) {k : Nat} {cs : Array Value} {t : TypeId} {fr : Nat × Nat} (hk : w.heap[k]? = some (.cells cs t fr)) (ht : t ≠ 55) : v.ownBlock ≠ some k := fun e => by
  rcases h.2 with ⟨rfl, _⟩ | ⟨g, cap, cur, rfl, _, hg, _⟩
  · cases e
  · have : g = k := by simpa [Value.ownBlock] using e
    rw [this, hk] at hg
    injection hg with hg
    injection hg with _ h2
    exact ht h2

theorem sw_start {w w4 : World} {T B : Nat} {v : Value} {R : List (Int × Int × Int)} {b x : Int} (h1 : w4.heap[T]? = some (.cells #[v] 40 (0, 0))) (h2 : w4.ownsRow B 55 3 v R.length (repCells R))
    (h3 : w4.heap[w.heap.size + 1]? = some (.cells #[.int .i64 b, .int .i64 x] 30 (0, 0))) (h4 : w4.heap[w.heap.size + 1 + 1]? = some (.cells #[.int .i64 0, .int .i64 0] 30 (0, 0))) (hb : Below w.heap.size w w4) : Sw w w4 T B v.ownBlock v R b x :=
  ⟨h1, h2, h3, h4, hb.os, hb.tape, hb.output, hb.size, fun k hk _ _ => hb.block k hk, fun _ hg => Or.inl hg⟩

theorem sw_below {w w4 W : World} {T B : Nat} {m : Option Nat} {v : Value} {R : List (Int × Int × Int)} {b x : Int} (h : Sw w w4 T B m v R b x) (hW : Below w4.heap.size w4 W) : Sw w W T B m v R b x := by
  obtain ⟨h1, h2, h3, h4, hM⟩ := h
  refine ⟨(hW.block _ (block_lt h1)).trans h1, ?_, (hW.block _ (block_lt h3)).trans h3, (hW.block _ (block_lt h4)).trans h4, hW.os.trans hM.os, hW.tape.trans hM.tape, hW.output.trans hM.output, Nat.le_trans hM.size hW.size,
    fun k hk a b => (hW.block k (Nat.lt_of_lt_of_le hk hM.size)).trans (hM.block k hk a b), hM.made⟩
  exact h2.kept (row := none) ⟨hW.os, hW.tape, hW.output, hW.size, fun k hk _ => hW.block k hk⟩ (by cases h : v.ownBlock <;> simp)

theorem sw_none {w W w1 : World} {T B g cap : Nat} {v : Value} {R : List (Int × Int × Int)} {a b x : Int} (h : Sw w W T B v.ownBlock v R b x)
    (hown : w1.ownsRow B 55 3 (.slice (some ⟨g, 0, none⟩) (R.length + 1) cap) (R.length + 1) (repCells R ++ [.int .i64 a, .int .i64 b, .int .i64 x])) (hg : W.grownBy w1 v.ownBlock) (hat : v.ownBlock = some g ∨ g = W.heap.size) (hT : T < w.heap.size) :
    Sw w (w1.setCell ⟨T, 0, none⟩ (.slice (some ⟨g, 0, none⟩) (R.length + 1) cap)) T B v.ownBlock (.slice (some ⟨g, 0, none⟩) (R.length + 1) cap) (R ++ [(a, b, x)]) b x := by
  obtain ⟨h1, h2, h3, h4, hM⟩ := h
  have n1 := row_ne h2 h1 (by decide)
  have n3 := row_ne h2 h3 (by decide)
  have n4 := row_ne h2 h4 (by decide)
  have k1 := (hg.block _ (block_lt h1) (Ne.symm n1)).trans h1
  have k3 := (hg.block _ (block_lt h3) (Ne.symm n3)).trans h3
  have k4 := (hg.block _ (block_lt h4) (Ne.symm n4)).trans h4
  have nT := row_ne hown k1 (by decide)
  refine ⟨heap_setCell_same w1 T 0 _ _ _ k1, ?_, (Below.heap_setCell _ _ _ _ (by show w.heap.size + 1 ≠ T; omega)).trans k3, (Below.heap_setCell _ _ _ _ (by show w.heap.size + 1 + 1 ≠ T; omega)).trans k4, ?_⟩
  · have := ownsRow_setCell_other hown (a := ⟨T, 0, none⟩) nT (.slice (some ⟨g, 0, none⟩) (R.length + 1) cap)
    rw [repCells_append]
    simpa [repCells] using this
  · refine ⟨hg.os.trans hM.os, hg.tape.trans hM.tape, hg.output.trans hM.output, ?_, fun k hk a b => ?_, fun k hk => ?_⟩
    · simpa using Nat.le_trans hM.size hg.size
    · rw [Below.heap_setCell _ _ _ _ (by show k ≠ T; exact a)]
      exact (hg.block k (Nat.lt_of_lt_of_le hk hM.size) (fun e => b e.symm)).trans (hM.block k hk a b)
    · have : k = g := by simpa [Value.ownBlock] using hk.symm
      subst this
      rcases hat with e | e
      · exact Or.inl e
      · exact Or.inr (by rw [e]; exact hM.size)

theorem sw_old {w W : World} {T B : Nat} {m : Option Nat} {v : Value} {R : List (Int × Int × Int)} {b x : Int} (h : Sw w W T B m v R b x) (rb rv : Int) (hT : T < w.heap.size) :
    Sw w ((W.setCell ⟨w.heap.size + 1, 0, none⟩ (.int .i64 rb)).setCell ⟨w.heap.size + 1, 1, none⟩ (.int .i64 rv)) T B m v R rb rv := by
  obtain ⟨h1, h2, h3, h4, hM⟩ := h
  have n3 := row_ne h2 h3 (by decide)
  refine ⟨?_, ownsRow_setCell_other (ownsRow_setCell_other h2 (a := ⟨w.heap.size + 1, 0, none⟩) n3 _) (a := ⟨w.heap.size + 1, 1, none⟩) n3 _, heap_setCell_same _ _ 1 _ _ _ (heap_setCell_same _ _ 0 _ _ _ h3), ?_, ?_⟩
  · rw [Below.heap_setCell _ _ _ _ (by show T ≠ w.heap.size + 1; omega), Below.heap_setCell _ _ _ _ (by show T ≠ w.heap.size + 1; omega)]; exact h1
  · rw [Below.heap_setCell _ _ _ _ (by show w.heap.size + 1 + 1 ≠ w.heap.size + 1; omega), Below.heap_setCell _ _ _ _ (by show w.heap.size + 1 + 1 ≠ w.heap.size + 1; omega)]; exact h4
  · refine ⟨hM.os, hM.tape, hM.output, by simpa using hM.size, fun k hk a b => ?_, hM.made⟩
    rw [Below.heap_setCell _ _ _ _ (by show k ≠ w.heap.size + 1; omega), Below.heap_setCell _ _ _ _ (by show k ≠ w.heap.size + 1; omega)]
    exact hM.block k hk a b

theorem sw_upd {w W : World} {T B g n c i : Nat} {R : List (Int × Int × Int)} {b x : Int} (hn : R.length = n) (h : Sw w W T B (some g) (.slice (some ⟨g, 0, none⟩) n c) R b x) (hi : i < R.length) (a : Int) (ha : (R.getD i (0, 0, 0)).1 = a) :
    Sw w ((W.setCell ⟨g, i * 3 + 1, none⟩ (.int .i64 b)).setCell ⟨g, i * 3 + 2, none⟩ (.int .i64 x)) T B (some g) (.slice (some ⟨g, 0, none⟩) n c) (R.set i (a, b, x)) b x := by
  subst hn
  obtain ⟨h1, h2, h3, h4, hM⟩ := h
  have n1 := row_ne h2 h1 (by decide)
  have n3 := row_ne h2 h3 (by decide)
  have n4 := row_ne h2 h4 (by decide)
  have m1 : T ≠ g := fun e => n1 (by simp [Value.ownBlock, e])
  have m3 : w.heap.size + 1 ≠ g := fun e => n3 (by simp [Value.ownBlock, e])
  have m4 : w.heap.size + 1 + 1 ≠ g := fun e => n4 (by simp [Value.ownBlock, e])
  have hr := ((h2.stored (i * 3 + 1) (.int .i64 b)).1.stored (i * 3 + 2) (.int .i64 x)).1
  rw [repCells_set R i b x hi, ha] at hr
  refine ⟨?_, ?_, ?_, ?_, ?_⟩
  · rw [Below.heap_setCell _ _ _ _ m1, Below.heap_setCell _ _ _ _ m1]; exact h1
  · rw [List.length_set]; exact hr
  · rw [Below.heap_setCell _ _ _ _ m3, Below.heap_setCell _ _ _ _ m3]; exact h3
  · rw [Below.heap_setCell _ _ _ _ m4, Below.heap_setCell _ _ _ _ m4]; exact h4
  · refine ⟨hM.os, hM.tape, hM.output, by simpa using hM.size, fun k hk a b => ?_, hM.made⟩
    have hkg : k ≠ g := fun e => b (by rw [e])
    rw [Below.heap_setCell _ _ _ _ hkg, Below.heap_setCell _ _ _ _ hkg]
    exact hM.block k hk a b

theorem sw_end {w wc wr : World} {T B : Nat} {m : Option Nat} {v : Value} {R : List (Int × Int × Int)} {b x : Int} (h : Sw w wc T B m v R b x) (hb : Below wc.heap.size wc wr) (u u' : Value) (hT : T < w.heap.size) :
    TallyAt ((wr.setCell ⟨w.heap.size + 1 + 1, 0, none⟩ u).setCell ⟨w.heap.size + 1 + 1, 1, none⟩ u') T B v R ∧ Moved w ((wr.setCell ⟨w.heap.size + 1 + 1, 0, none⟩ u).setCell ⟨w.heap.size + 1 + 1, 1, none⟩ u') T m v.ownBlock := by
  obtain ⟨h1, h2, h3, h4, hM⟩ := sw_below h hb
  have n4 := row_ne h2 h4 (by decide)
  refine ⟨⟨?_, ownsRow_setCell_other (ownsRow_setCell_other h2 (a := ⟨w.heap.size + 1 + 1, 0, none⟩) n4 _) (a := ⟨w.heap.size + 1 + 1, 1, none⟩) n4 _⟩, ?_⟩
  · rw [Below.heap_setCell _ _ _ _ (by show T ≠ w.heap.size + 1 + 1; omega), Below.heap_setCell _ _ _ _ (by show T ≠ w.heap.size + 1 + 1; omega)]; exact h1
  · refine ⟨hM.os, hM.tape, hM.output, by simpa using hM.size, fun k hk a b => ?_, hM.made⟩
    rw [Below.heap_setCell _ _ _ _ (by show k ≠ w.heap.size + 1 + 1; omega), Below.heap_setCell _ _ _ _ (by show k ≠ w.heap.size + 1 + 1; omega)]
    exact hM.block k hk a b

theorem cntR_take (R : List (Int × Int × Int)) (b x : Int) {k : Nat} (hk : k < R.length) : cntR (R.take (k + 1)) b x = cntR (R.take k) b x + (if ((R.getD k (0, 0, 0)).2.1 == b && (R.getD k (0, 0, 0)).2.2 == x) = true then 1 else 0) := by
  unfold cntR
  have e : R.getD k (0, 0, 0) = R[k] := by simp [List.getD, hk]
  rw [List.take_succ_eq_append_getElem hk, List.countP_append, e, List.countP_singleton]

theorem cntR_le (R : List (Int × Int × Int)) (b x : Int) (k : Nat) : cntR (R.take k) b x ≤ k := Nat.le_trans List.countP_le_length (by simp; omega)

end Go.Proofs.Qxb6600353a
