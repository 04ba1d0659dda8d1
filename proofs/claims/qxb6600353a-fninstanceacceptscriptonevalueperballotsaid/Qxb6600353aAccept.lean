/-
  Seat b6600353a. (*Instance).Accept (function 13).
-/
import Derived.Test.Qxb6600353aBase
namespace Go.Proofs.Qxb6600353a
open Go.RowKit

/-- Block I is an Instance. -/
def Inst (w : World) (I : Nat) (p ab av : Int) : Prop := w.heap[I]? = some (.cells #[.int .i64 p, .int .i64 ab, .int .i64 av] 33 (0, 0))

theorem inst_set {w : World} {I : Nat} {p ab av : Int} (h : Inst w I p ab av) (b x : Int) : Inst ((w.setCell ⟨I, 1, none⟩ (.int .i64 b)).setCell ⟨I, 2, none⟩ (.int .i64 x)) I p b x := by
  have h1 := heap_setCell_same w I 1 _ _ (.int .i64 b) h
  have h2 := heap_setCell_same _ I 2 _ _ (.int .i64 x) h1
  exact h2
theorem Inst.of_block {w w' : World} {I : Nat} {p ab av : Int} (h : Inst w I p ab av) (e : w'.heap[I]? = w.heap[I]?) : Inst w' I p ab av := e.trans h

/-- What Accept does to the world where it takes the vote. -/
theorem take_end {w : World} {I : Nat} {p ab av : Int} (h : Inst w I p ab av) (o1 o2 : Obj) (n : Nat) (b x : Int) :
    Inst ((((w.alloc o1).alloc o2).drewN n |>.setCell ⟨I, 1, none⟩ (.int .i64 b)).setCell ⟨I, 2, none⟩ (.int .i64 x)) I p b x ∧
      w.grownBy ((((w.alloc o1).alloc o2).drewN n |>.setCell ⟨I, 1, none⟩ (.int .i64 b)).setCell ⟨I, 2, none⟩ (.int .i64 x)) (some I) := by
  have hI := block_lt h
  refine ⟨inst_set (h.of_block ?_) b x, rfl, rfl, rfl, by simp [World.setCell]; omega, fun k hk hne => ?_⟩
  · show ((w.alloc o1).alloc o2).heap[I]? = _
    rw [Below.heap_alloc _ _ _ (by simp; omega), Below.heap_alloc _ _ _ hI]
  · have hk' : k ≠ I := fun e => hne (by rw [e])
    rw [Below.heap_setCell _ _ _ _ hk', Below.heap_setCell _ _ _ _ hk']
    show ((w.alloc o1).alloc o2).heap[k]? = _
    rw [Below.heap_alloc _ _ _ (by simp; omega), Below.heap_alloc _ _ _ hk]

set_option maxRecDepth 100000 in
set_option maxHeartbeats 1600000 in
/-- It holds v already. -/
theorem accept_same (I : Nat) (p ab av : Int) (w : World) (h : Inst w I p ab av) :
    Calls Try.prog 13 #[.pointer (some ⟨I, 0, none⟩), .agg #[.int .i64 ab, .int .i64 av]] w fun e w' => e = .returned (.tuple #[.bool true, .bool true]) ∧ Below w.heap.size w w' := by
  have c0 : w.cell? ⟨I, 0, none⟩ = some (.int .i64 p) := block_cell h 0
  have c1 : w.cell? ⟨I, 1, none⟩ = some (.int .i64 ab) := block_cell h 1
  have c2 : w.cell? ⟨I, 2, none⟩ = some (.int .i64 av) := block_cell h 2
  have hI : I < w.heap.size := block_lt h
  have q := eql_vote ab av ab av
  clear h
  go_enter Try.func13, Try.ntmps13
  go_wp2
  go_ret2
  exact ⟨rfl, ((Below.refl _ _).alloc (Nat.le_refl _) _).alloc (by simp) _⟩

set_option maxRecDepth 100000 in
set_option maxHeartbeats 1600000 in
/-- It refuses: a higher ballot is promised. -/
theorem accept_low (I : Nat) (p ab av b x : Int) (w : World) (h : Inst w I p ab av) (hne : (ab == b && av == x) = false) (hb : b < p) :
    Calls Try.prog 13 #[.pointer (some ⟨I, 0, none⟩), .agg #[.int .i64 b, .int .i64 x]] w fun e w' => e = .returned (.tuple #[.bool false, .bool false]) ∧ Below w.heap.size w w' := by
  have c0 : w.cell? ⟨I, 0, none⟩ = some (.int .i64 p) := block_cell h 0
  have c1 : w.cell? ⟨I, 1, none⟩ = some (.int .i64 ab) := block_cell h 1
  have c2 : w.cell? ⟨I, 2, none⟩ = some (.int .i64 av) := block_cell h 2
  have hI : I < w.heap.size := block_lt h
  have q := eql_vote ab av b x
  rw [hne] at q
  clear h hne
  go_enter Try.func13, Try.ntmps13
  go_wp2
  go_quiet (fail)
  go_wp2
  go_ret2
  exact ⟨rfl, (((Below.refl _ _).alloc (Nat.le_refl _) _).alloc (by simp) _).trans ⟨rfl, rfl, rfl, Nat.le_refl _, fun _ _ => rfl⟩⟩

set_option maxRecDepth 100000 in
set_option maxHeartbeats 1600000 in
/-- It refuses: a value is accepted in a ballot no lower. -/
theorem accept_old (I : Nat) (p ab av b x : Int) (w : World) (h : Inst w I p ab av) (hne : (ab == b && av == x) = false) (hb : ¬ b < p) (hv : (av != 0) = true) (hle : b ≤ ab) :
    Calls Try.prog 13 #[.pointer (some ⟨I, 0, none⟩), .agg #[.int .i64 b, .int .i64 x]] w fun e w' => e = .returned (.tuple #[.bool false, .bool false]) ∧ Below w.heap.size w w' := by
  have c0 : w.cell? ⟨I, 0, none⟩ = some (.int .i64 p) := block_cell h 0
  have c1 : w.cell? ⟨I, 1, none⟩ = some (.int .i64 ab) := block_cell h 1
  have c2 : w.cell? ⟨I, 2, none⟩ = some (.int .i64 av) := block_cell h 2
  have hI : I < w.heap.size := block_lt h
  have q := eql_vote ab av b x
  rw [hne] at q
  clear h hne
  go_enter Try.func13, Try.ntmps13
  go_wp2
  go_quiet (fail)
  go_wp2
  go_ret2
  exact ⟨rfl, (((Below.refl _ _).alloc (Nat.le_refl _) _).alloc (by simp) _).trans ⟨rfl, rfl, rfl, Nat.le_refl _, fun _ _ => rfl⟩⟩

set_option maxRecDepth 100000 in
set_option maxHeartbeats 1600000 in
/-- It takes v. -/
theorem accept_take (I : Nat) (p ab av b x : Int) (w : World) (h : Inst w I p ab av) (hne : (ab == b && av == x) = false) (hb : ¬ b < p) (hv : (av != 0) = false ∨ ¬ b ≤ ab) :
    Calls Try.prog 13 #[.pointer (some ⟨I, 0, none⟩), .agg #[.int .i64 b, .int .i64 x]] w fun e w' => e = .returned (.tuple #[.bool true, .bool false]) ∧ Inst w' I p b x ∧ w.grownBy w' (some I) := by
  have c0 : w.cell? ⟨I, 0, none⟩ = some (.int .i64 p) := block_cell h 0
  have c1 : w.cell? ⟨I, 1, none⟩ = some (.int .i64 ab) := block_cell h 1
  have c2 : w.cell? ⟨I, 2, none⟩ = some (.int .i64 av) := block_cell h 2
  have f1 := block_free h 1
  have f2 := block_free h 2
  have hI : I < w.heap.size := block_lt h
  have q := eql_vote ab av b x
  rw [hne] at q
  have HI : Hid (Inst w I p ab av) := h
  clear h hne
  by_cases hv0 : (av != 0) = false
  · go_enter Try.func13, Try.ntmps13
    go_wp2
    go_quiet (fail)
    go_wp2
    go_ret2
    exact ⟨rfl, take_end HI.out _ _ nq b x⟩
  · have hv1 : (av != 0) = true := by simpa using hv0
    have hle : ¬ b ≤ ab := by rcases hv with h | h; exact absurd h hv0; exact h
    clear hv0 hv
    go_enter Try.func13, Try.ntmps13
    go_wp2
    go_quiet (fail)
    go_wp2
    go_ret2
    exact ⟨rfl, take_end HI.out _ _ nq b x⟩

end Go.Proofs.Qxb6600353a
