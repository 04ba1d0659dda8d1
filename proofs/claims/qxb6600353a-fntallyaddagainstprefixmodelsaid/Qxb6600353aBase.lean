/-
  Seat b6600353a. What all five laws share: the clones (9, 10), lawVote (11), lawMin3 (12), votes compared.
-/
import Derived.Test.Qxb6600353aRows
import Derived.WalkKit
import Derived.WalkSpells
import Derived.ProofKit
import Derived.OpenShut
import Derived.Below
import Derived.Deep.OwnRows
import Derived.Lib.SliceRun
import Derived.Lib.LazyBuf
import Derived.Laws.IdiomCopy
import Derived.Deep.RegionHeld3
import Derived.Deep.QuietTactic
import Derived.BigQuiet
namespace Go.Proofs.Qxb6600353a
open Go.RowKit

theorem Try.info2 : (Try.prog.info? 2).map (fun i => (i.zero, i.size, i.bytes)) = some (some (.int .i64 0), 1, 8) := by kernel_rfl
theorem Try.info3 : (Try.prog.info? 3).map (fun i => (i.zero, i.size, i.bytes)) = some (some (.int .i64 0), 1, 8) := by kernel_rfl
theorem Try.size2 : (Try.prog.info? 2).map (·.size) = some 1 := by kernel_rfl
theorem Try.size3 : (Try.prog.info? 3).map (·.size) = some 1 := by kernel_rfl

/-- A slice of int64 or int that came in: its numbers. -/
def Src (w : World) (a : Option Addr) (len cap : Nat) (f : Nat → Int) : Prop :=
  (0 < len → ∃ b off, a = some ⟨b, off, none⟩ ∧ ∀ j, j < len → w.cell? ⟨b, off + j, none⟩ = some (.int .i64 (f j))) ∧ (a = none → cap = 0)

/-- A slice that lies in a block of the call's own, from its head on. -/
def Own (B : Nat) (w : World) (t : TypeId) (a : Option Addr) (len : Nat) (f : Nat → Int) : Prop :=
  0 < len → ∃ g, a = some ⟨g, 0, none⟩ ∧ B ≤ g ∧ w.rowIs g t len (fun j => .int .i64 (f j))

theorem Own.below {B : Nat} {w w' : World} {t : TypeId} {a : Option Addr} {len : Nat} {f : Nat → Int} (h : Own B w t a len f) (hb : Below w.heap.size w w') : Own B w' t a len f := fun h0 => by
  obtain ⟨g, ha, hg, hr⟩ := h h0
  exact ⟨g, ha, hg, hr.of_block (hb.block g hr.lt)⟩

theorem Src.below {w w' : World} {a : Option Addr} {len cap : Nat} {f : Nat → Int} (h : Src w a len cap f) (hb : Below w.heap.size w w') : Src w' a len cap f := by
  refine ⟨fun h0 => ?_, h.2⟩
  obtain ⟨b, off, ha, hc⟩ := h.1 h0
  exact ⟨b, off, ha, fun j hj => (hb.cell (World.block_lt_of_cell? w _ (hc j hj))).trans (hc j hj)⟩

set_option maxRecDepth 100000 in
theorem cloneI64_some (b off len cap : Nat) (f : Nat → Int) (w : World) (hlen : len ≤ 1048576) (h0 : 0 < len)
    (hc : ∀ j, j < len → w.cell? ⟨b, off + j, none⟩ = some (.int .i64 (f j))) :
    Calls Try.prog 9 #[.slice (some ⟨b, off, none⟩) len cap] w fun e w' => e = .returned (.slice (some ⟨w.heap.size, 0, none⟩) len len) ∧
      w'.rowIs w.heap.size 2 len (fun j => .int .i64 (f j)) ∧ Below w.heap.size w w' := by
  have hb : b < w.heap.size := World.block_lt_of_cell? w _ (hc 0 h0)
  have hnil := fun (w : World) (a : Option Addr) (n c n' c' : Nat) => Lib.run_eql_slice_nil (P := Try.prog) w 22 2 a n c n' c' Try.underlying22
  have hmk := run_make_row' (P := Try.prog) 22 2 (.int .i64 0) 8 Try.underlying22 Try.info2 rfl .i64 .i64 len (by omega) (by omega)
  have R0 := World.rowIs_made w (.int .i64 0) len 2
  have hcs : ((List.range len).map (fun j => Value.int .i64 (f j))).length = len := by simp
  have hrun := fun ty => run_copy_cells (P := Try.prog) (w.alloc (.cells (madeCells #[.int .i64 0] len) 2)) 22 22 ty 2 w.heap.size 0 len len ⟨b, off, none⟩ len cap ((List.range len).map (fun j => Value.int .i64 (f j)))
    Try.underlying22 Try.size2 (by rw [hcs]; exact (Nat.min_self len).symm) (fun j v hv => by
      have hj : j < len := by have := (List.getElem?_eq_some_iff.1 hv).1; simpa using this
      rw [Addr.add_lit, World.cell?_alloc_old _ _ _ (by show b ≠ _; omega), hc j hj]
      simpa [hj] using hv)
    (fun j hj => by rw [hcs] at hj; have := R0.cell hj; rw [Nat.zero_add, this]; rfl) (fun j hj => by rw [Nat.zero_add]; exact R0.frozen j) (fun v hv => by obtain ⟨j, _, rfl⟩ := List.mem_map.1 hv; rfl)
  rw [hcs] at hrun
  have R1 := rowIs_setCells ((List.range len).map (fun j => Value.int .i64 (f j))) 0 _ _ R0
  have B1 : Below w.heap.size w ((w.alloc (.cells (madeCells #[.int .i64 0] len) 2)).setCells w.heap.size 0 ((List.range len).map (fun j => Value.int .i64 (f j)))) :=
    below_setCells (Nat.le_refl _) _ _ _ ((Below.refl _ _).alloc (Nat.le_refl _) _)
  have R2 := R1.congr (g := fun j => .int .i64 (f j)) (fun j hj => by rw [if_pos ⟨Nat.zero_le _, by rw [hcs]; omega⟩]; simp [hj])
  clear R0 R1 hc hcs
  generalize ((w.alloc (.cells (madeCells #[.int .i64 0] len) 2)).setCells w.heap.size 0 ((List.range len).map (fun j => Value.int .i64 (f j)))) = w2 at hrun R2 B1
  go_enter Try.func9, Try.ntmps9
  go_wp2
  go_ret
  exact ⟨rfl, R2, B1⟩

set_option maxRecDepth 100000 in
theorem cloneI64_empty (x : Addr) (cap : Nat) (w : World) :
    Calls Try.prog 9 #[.slice (some x) 0 cap] w fun e w' => ∃ a, e = .returned (.slice a 0 0) ∧ Below w.heap.size w w' := by
  have hnil := fun (w : World) (a : Option Addr) (n c n' c' : Nat) => Lib.run_eql_slice_nil (P := Try.prog) w 22 2 a n c n' c' Try.underlying22
  have hmk : ∀ w : World, (Instr.makeSlice 22 (.int .i64 0) (.int .i64 0)).run Try.prog w = .ok (.slice (some ⟨w.heap.size, 0, none⟩) 0 0) (w.alloc (.cells (madeCells #[.int .i64 0] 0) 2)) :=
    run_make_row' (P := Try.prog) 22 2 (.int .i64 0) 8 Try.underlying22 Try.info2 rfl .i64 .i64 0 (by omega) (by omega)
  have hrun := fun (w : World) ty (d a : Option Addr) dc sc => run_copy_none (P := Try.prog) w 22 22 ty 2 d a 0 dc 0 sc Try.underlying22 Try.size2 rfl
  have B0 : Below w.heap.size w (w.alloc (.cells (madeCells #[.int .i64 0] 0) 2)) := (Below.refl _ _).alloc (Nat.le_refl _) _
  go_enter Try.func9, Try.ntmps9
  go_wp2
  go_ret
  exact ⟨_, rfl, B0⟩

set_option maxRecDepth 100000 in
theorem cloneI64_nil (w : World) : Calls Try.prog 9 #[.slice none 0 0] w fun e w' => e = .returned (.slice none 0 0) ∧ w' = w := by
  have hnil := fun (w : World) (a : Option Addr) (n c n' c' : Nat) => Lib.run_eql_slice_nil (P := Try.prog) w 22 2 a n c n' c' Try.underlying22
  go_enter Try.func9, Try.ntmps9
  go_wp2
  go_ret
  exact ⟨rfl, rfl⟩

/-- Whatever slice came in: its copy. -/
theorem cloneI64_any (a : Option Addr) (len cap : Nat) (f : Nat → Int) (w : World) (hlen : len ≤ 1048576) (h : Src w a len cap f) :
    Calls Try.prog 9 #[.slice a len cap] w fun e w' => ∃ a', e = .returned (.slice a' len len) ∧ Own w.heap.size w' 2 a' len f ∧ Below w.heap.size w w' := by
  by_cases h0 : 0 < len
  · obtain ⟨b, off, rfl, hc⟩ := h.1 h0
    refine (cloneI64_some b off len cap f w hlen h0 hc).mono ?_
    rintro e w' ⟨rfl, hr, hb⟩
    exact ⟨_, rfl, fun _ => ⟨w.heap.size, rfl, Nat.le_refl _, hr⟩, hb⟩
  · obtain rfl : len = 0 := by omega
    cases a with
    | none =>
      obtain rfl := h.2 rfl
      refine (cloneI64_nil w).mono ?_
      rintro e w' ⟨rfl, rfl⟩
      exact ⟨_, rfl, fun h => absurd h (by omega), Below.refl _ _⟩
    | some x =>
      refine (cloneI64_empty x cap w).mono ?_
      rintro e w' ⟨a', rfl, hb⟩
      exact ⟨a', rfl, fun h => absurd h (by omega), hb⟩

set_option maxRecDepth 100000 in
theorem cloneInt_some (b off len cap : Nat) (f : Nat → Int) (w : World) (hlen : len ≤ 1048576) (h0 : 0 < len)
    (hc : ∀ j, j < len → w.cell? ⟨b, off + j, none⟩ = some (.int .i64 (f j))) :
    Calls Try.prog 10 #[.slice (some ⟨b, off, none⟩) len cap] w fun e w' => e = .returned (.slice (some ⟨w.heap.size, 0, none⟩) len len) ∧
      w'.rowIs w.heap.size 3 len (fun j => .int .i64 (f j)) ∧ Below w.heap.size w w' := by
  have hb : b < w.heap.size := World.block_lt_of_cell? w _ (hc 0 h0)
  have hnil := fun (w : World) (a : Option Addr) (n c n' c' : Nat) => Lib.run_eql_slice_nil (P := Try.prog) w 23 3 a n c n' c' Try.underlying23
  have hmk := run_make_row' (P := Try.prog) 23 3 (.int .i64 0) 8 Try.underlying23 Try.info3 rfl .i64 .i64 len (by omega) (by omega)
  have R0 := World.rowIs_made w (.int .i64 0) len 3
  have hcs : ((List.range len).map (fun j => Value.int .i64 (f j))).length = len := by simp
  have hrun := fun ty => run_copy_cells (P := Try.prog) (w.alloc (.cells (madeCells #[.int .i64 0] len) 3)) 23 23 ty 3 w.heap.size 0 len len ⟨b, off, none⟩ len cap ((List.range len).map (fun j => Value.int .i64 (f j)))
    Try.underlying23 Try.size3 (by rw [hcs]; exact (Nat.min_self len).symm) (fun j v hv => by
      have hj : j < len := by have := (List.getElem?_eq_some_iff.1 hv).1; simpa using this
      rw [Addr.add_lit, World.cell?_alloc_old _ _ _ (by show b ≠ _; omega), hc j hj]
      simpa [hj] using hv)
    (fun j hj => by rw [hcs] at hj; have := R0.cell hj; rw [Nat.zero_add, this]; rfl) (fun j hj => by rw [Nat.zero_add]; exact R0.frozen j) (fun v hv => by obtain ⟨j, _, rfl⟩ := List.mem_map.1 hv; rfl)
  rw [hcs] at hrun
  have R1 := rowIs_setCells ((List.range len).map (fun j => Value.int .i64 (f j))) 0 _ _ R0
  have B1 : Below w.heap.size w ((w.alloc (.cells (madeCells #[.int .i64 0] len) 3)).setCells w.heap.size 0 ((List.range len).map (fun j => Value.int .i64 (f j)))) :=
    below_setCells (Nat.le_refl _) _ _ _ ((Below.refl _ _).alloc (Nat.le_refl _) _)
  have R2 := R1.congr (g := fun j => .int .i64 (f j)) (fun j hj => by rw [if_pos ⟨Nat.zero_le _, by rw [hcs]; omega⟩]; simp [hj])
  clear R0 R1 hc hcs
  generalize ((w.alloc (.cells (madeCells #[.int .i64 0] len) 3)).setCells w.heap.size 0 ((List.range len).map (fun j => Value.int .i64 (f j)))) = w2 at hrun R2 B1
  go_enter Try.func10, Try.ntmps10
  go_wp2
  go_ret
  exact ⟨rfl, R2, B1⟩

set_option maxRecDepth 100000 in
theorem cloneInt_empty (x : Addr) (cap : Nat) (w : World) :
    Calls Try.prog 10 #[.slice (some x) 0 cap] w fun e w' => ∃ a, e = .returned (.slice a 0 0) ∧ Below w.heap.size w w' := by
  have hnil := fun (w : World) (a : Option Addr) (n c n' c' : Nat) => Lib.run_eql_slice_nil (P := Try.prog) w 23 3 a n c n' c' Try.underlying23
  have hmk : ∀ w : World, (Instr.makeSlice 23 (.int .i64 0) (.int .i64 0)).run Try.prog w = .ok (.slice (some ⟨w.heap.size, 0, none⟩) 0 0) (w.alloc (.cells (madeCells #[.int .i64 0] 0) 3)) :=
    run_make_row' (P := Try.prog) 23 3 (.int .i64 0) 8 Try.underlying23 Try.info3 rfl .i64 .i64 0 (by omega) (by omega)
  have hrun := fun (w : World) ty (d a : Option Addr) dc sc => run_copy_none (P := Try.prog) w 23 23 ty 3 d a 0 dc 0 sc Try.underlying23 Try.size3 rfl
  have B0 : Below w.heap.size w (w.alloc (.cells (madeCells #[.int .i64 0] 0) 3)) := (Below.refl _ _).alloc (Nat.le_refl _) _
  go_enter Try.func10, Try.ntmps10
  go_wp2
  go_ret
  exact ⟨_, rfl, B0⟩

set_option maxRecDepth 100000 in
theorem cloneInt_nil (w : World) : Calls Try.prog 10 #[.slice none 0 0] w fun e w' => e = .returned (.slice none 0 0) ∧ w' = w := by
  have hnil := fun (w : World) (a : Option Addr) (n c n' c' : Nat) => Lib.run_eql_slice_nil (P := Try.prog) w 23 3 a n c n' c' Try.underlying23
  go_enter Try.func10, Try.ntmps10
  go_wp2
  go_ret
  exact ⟨rfl, rfl⟩

/-- Whatever slice came in: its copy. -/
theorem cloneInt_any (a : Option Addr) (len cap : Nat) (f : Nat → Int) (w : World) (hlen : len ≤ 1048576) (h : Src w a len cap f) :
    Calls Try.prog 10 #[.slice a len cap] w fun e w' => ∃ a', e = .returned (.slice a' len len) ∧ Own w.heap.size w' 3 a' len f ∧ Below w.heap.size w w' := by
  by_cases h0 : 0 < len
  · obtain ⟨b, off, rfl, hc⟩ := h.1 h0
    refine (cloneInt_some b off len cap f w hlen h0 hc).mono ?_
    rintro e w' ⟨rfl, hr, hb⟩
    exact ⟨_, rfl, fun _ => ⟨w.heap.size, rfl, Nat.le_refl _, hr⟩, hb⟩
  · obtain rfl : len = 0 := by omega
    cases a with
    | none =>
      obtain rfl := h.2 rfl
      refine (cloneInt_nil w).mono ?_
      rintro e w' ⟨rfl, rfl⟩
      exact ⟨_, rfl, fun h => absurd h (by omega), Below.refl _ _⟩
    | some x =>
      refine (cloneInt_empty x cap w).mono ?_
      rintro e w' ⟨a', rfl, hb⟩
      exact ⟨a', rfl, fun h => absurd h (by omega), hb⟩


set_option maxRecDepth 100000 in
/-- lawVote: its result is a struct: it lies in a new block of the callee's own. -/
theorem vote_any (b v : Int) (w : World) : Calls Try.prog 11 #[.int .i64 b, .int .i64 v] w fun e w' => e = .returned (.agg #[.int .i64 b, .int .i64 v]) ∧ w' = w.alloc (.cells #[.int .i64 b, .int .i64 v] 30) := by
  go_enter Try.func11, Try.ntmps11
  go_wp2
  exact bodyPost_ret (v := .agg #[.int .i64 b, .int .i64 v]) (by simp [results, Try.results11, go_sem]) rfl ⟨rfl, rfl⟩

set_option maxRecDepth 100000 in
theorem min3_any (a b c : Nat) (w : World) : Calls Try.prog 12 #[.int .i64 (a : Int), .int .i64 (b : Int), .int .i64 (c : Int)] w fun e w' => ∃ n : Nat, e = .returned (.int .i64 (n : Int)) ∧ n ≤ a ∧ n ≤ b ∧ n ≤ c ∧ w' = w := by
  by_cases h1 : (b : Int) < (a : Int)
  · by_cases h2 : (c : Int) < (b : Int)
    · go_enter Try.func12, Try.ntmps12
      go_wp2
      go_ret
      exact ⟨c, rfl, by omega, by omega, by omega, rfl⟩
    · go_enter Try.func12, Try.ntmps12
      go_wp2
      go_ret
      exact ⟨b, rfl, by omega, by omega, by omega, rfl⟩
  · by_cases h2 : (c : Int) < (a : Int)
    · go_enter Try.func12, Try.ntmps12
      go_wp2
      go_ret
      exact ⟨c, rfl, by omega, by omega, by omega, rfl⟩
    · go_enter Try.func12, Try.ntmps12
      go_wp2
      go_ret
      exact ⟨a, rfl, by omega, by omega, by omega, rfl⟩

theorem Try.fields30 : Try.prog.underlying 30 = some (.struct (Try.prog.fieldsOf 30)) := by kernel_rfl
theorem Try.held30 : Try.prog.stoodInHeld 30 = false := by kernel_rfl
/-- Two votes compared. -/
theorem eql_vote (a b c d : Int) (w : World) : (binOp .eql 30 (.agg #[.int .i64 a, .int .i64 b]) (.agg #[.int .i64 c, .int .i64 d])).run Try.prog w = .ok (.bool (a == c && b == d)) w := by
  rw [run_eql_struct, run_equalIn_agg w 9999 30 _ _ Try.fields30 Try.held30]
  go_simp
  by_cases h1 : a = c <;> by_cases h2 : b = d <;> simp [h1, h2]
theorem neq_vote (a b c d : Int) (w : World) : (binOp .neq 30 (.agg #[.int .i64 a, .int .i64 b]) (.agg #[.int .i64 c, .int .i64 d])).run Try.prog w = .ok (.bool (!(a == c && b == d))) w := by
  rw [run_neq_struct, run_equalIn_agg w 9999 30 _ _ Try.fields30 Try.held30]
  go_simp
  by_cases h1 : a = c <;> by_cases h2 : b = d <;> simp [h1, h2]

/-- A block known whole: a cell of it, and that none of it is frozen. -/
theorem block_cell {w : World} {b : Nat} {cs : Array Value} {t : TypeId} (h : w.heap[b]? = some (.cells cs t (0, 0))) (j : Nat) : w.cell? ⟨b, j, none⟩ = cs[j]? := by
  simp [World.cell?, h]
theorem block_free {w : World} {b : Nat} {cs : Array Value} {t : TypeId} (h : w.heap[b]? = some (.cells cs t (0, 0))) (j : Nat) : w.frozen? ⟨b, j, none⟩ = false := by
  simp [World.frozen?, h]
theorem block_lt {w : World} {b : Nat} {o : Obj} (h : w.heap[b]? = some o) : b < w.heap.size := (Array.getElem?_eq_some_iff.1 h).1

end Go.Proofs.Qxb6600353a
