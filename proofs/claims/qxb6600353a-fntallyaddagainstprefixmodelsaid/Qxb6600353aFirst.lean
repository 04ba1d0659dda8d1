/-
  Seat b6600353a. lawFirstOfItsAcceptor (function 17), lawLatestOfItsAcceptor (function 21).
-/
import Derived.Test.Qxb6600353aBase
import Derived.BigQuiet
import Derived.Deep.LoopGhost
namespace Go.Proofs.Qxb6600353a
open Go.RowKit

/-- No report ahead of j is of j's acceptor. -/
def isFirst (fa : Nat → Int) (j : Nat) : Bool := decide (∀ i, i < j → fa i ≠ fa j)
/-- No report behind j, up to k, is of j's acceptor. -/
def isLast (fa : Nat → Int) (j k : Nat) : Bool := decide (∀ i, i < k + 1 → j < i → fa i ≠ fa j)

theorem isFirst_iff {fa : Nat → Int} {j : Nat} : isFirst fa j = true ↔ ∀ i, i < j → fa i ≠ fa j := by simp [isFirst]
theorem isLast_iff {fa : Nat → Int} {j k : Nat} : isLast fa j k = true ↔ ∀ i, i < k + 1 → j < i → fa i ≠ fa j := by simp [isLast]

set_option maxRecDepth 100000 in
set_option maxHeartbeats 1600000 in
theorem first_any (g l j : Nat) (fa : Nat → Int) (w : World) (hl : l ≤ 1000000) (hj : j < l) (hr : w.rowIs g 3 l (fun j => .int .i64 (fa j))) :
    Calls Try.prog 17 #[.slice (some ⟨g, 0, none⟩) l l, .int .i64 (j : Int)] w fun e w' => e = .returned (.bool (isFirst fa j)) ∧ ∃ m, w' = w.drewN m := by
  have HR : Hid (w.rowIs g 3 l (fun j => .int .i64 (fa j))) := hr
  clear hr
  have cj : w.cell? ⟨g, j, none⟩ = some (.int .i64 (fa j)) := HR.out.cell (i := j) hj
  have x0 : (0 : Int) ≤ (j : Int) := by omega
  have x1 : (j : Int) < (l : Int) := by omega
  go_enter Try.func17, Try.ntmps17
  go_wp2
  go_loopg [5] j (fun gk s wr => ∃ (i m : Nat), i ≤ j ∧ gk = j - i ∧ s = .int .i64 i ∧ wr = w.drewN m ∧ Hid (∀ t, t < i → fa t ≠ fa j))
  case atStart => exact ⟨0, 0, Nat.zero_le _, rfl, rfl, rfl, fun t ht => absurd ht (by omega)⟩
  case round =>
    obtain ⟨i, m, hi, rfl, rfl, rfl, hno⟩ := hrel
    by_cases hlt : i < j
    · have ci : w.cell? ⟨g, i, none⟩ = some (.int .i64 (fa i)) := HR.out.cell (i := i) (by omega)
      have z0 : (0 : Int) ≤ (i : Int) := by omega
      have z1 : (i : Int) < (j : Int) := by omega
      have z2 : (i : Int) < (l : Int) := by omega
      by_cases hx : (fa i == fa j) = true
      · go_wp2
        go_quiet (fail)
        go_wp2
        go_ret
        refine ⟨?_, m + nq, World.drewN_drewN ..⟩
        rw [show isFirst fa j = false from by simp only [isFirst, decide_eq_false_iff_not]; exact fun h => h i hlt (by simpa using hx)]; rfl
      · have hx0 : (fa i == fa j) = false := by simpa using hx
        go_wp2
        go_quiet (fail)
        go_wp2
        go_roundg (j - (i + 1))
        case measure => omega
        case rel => exact ⟨i + 1, m + nq, by omega, rfl, by go_num, rfl, fun t ht => by
          by_cases e : t = i
          · subst e; simpa using hx0
          · exact hno.out t (by omega)⟩
    · obtain rfl : i = j := by omega
      go_wp2
      go_ret
      exact ⟨by rw [isFirst_iff.2 hno.out]; rfl, _, rfl⟩

set_option maxRecDepth 100000 in
set_option maxHeartbeats 1600000 in
theorem last_any (g l j k : Nat) (fa : Nat → Int) (w : World) (hl : l ≤ 1000000) (hj : j < k + 1) (hk : k < l) (hr : w.rowIs g 3 l (fun j => .int .i64 (fa j))) :
    Calls Try.prog 21 #[.slice (some ⟨g, 0, none⟩) l l, .int .i64 (j : Int), .int .i64 (k : Int)] w fun e w' => e = .returned (.bool (isLast fa j k)) ∧ ∃ m, w' = w.drewN m := by
  have HR : Hid (w.rowIs g 3 l (fun j => .int .i64 (fa j))) := hr
  clear hr
  have cj : w.cell? ⟨g, j, none⟩ = some (.int .i64 (fa j)) := HR.out.cell (i := j) (by omega)
  have x0 : (0 : Int) ≤ (j : Int) := by omega
  have x1 : (j : Int) < (l : Int) := by omega
  go_enter Try.func21, Try.ntmps21
  go_wp2
  go_loopg [7] (k - j) (fun gk s wr => ∃ (i m : Nat), j + 1 ≤ i ∧ i ≤ k + 1 ∧ gk = k + 1 - i ∧ s = .int .i64 i ∧ wr = w.drewN m ∧ Hid (∀ t, t < i → j < t → fa t ≠ fa j))
  case atStart => exact ⟨j + 1, 0, Nat.le_refl _, by omega, by omega, by go_num, rfl, fun t ht h => absurd ht (by omega)⟩
  case round =>
    obtain ⟨i, m, hji, hi, rfl, rfl, rfl, hno⟩ := hrel
    by_cases hlt : i ≤ k
    · have ci : w.cell? ⟨g, i, none⟩ = some (.int .i64 (fa i)) := HR.out.cell (i := i) (by omega)
      have z0 : (0 : Int) ≤ (i : Int) := by omega
      have z1 : (i : Int) ≤ (k : Int) := by omega
      have z2 : (i : Int) < (l : Int) := by omega
      by_cases hx : (fa i == fa j) = true
      · go_wp2
        go_quiet (fail)
        go_wp2
        go_ret
        refine ⟨?_, m + nq, World.drewN_drewN ..⟩
        rw [show isLast fa j k = false from by simp only [isLast, decide_eq_false_iff_not]; exact fun h => h i (by omega) (by omega) (by simpa using hx)]; rfl
      · have hx0 : (fa i == fa j) = false := by simpa using hx
        go_wp2
        go_quiet (fail)
        go_wp2
        go_roundg (k + 1 - (i + 1))
        case measure => omega
        case rel => exact ⟨i + 1, m + nq, by omega, by omega, rfl, by go_num, rfl, fun t ht h => by
          by_cases e : t = i
          · subst e; simpa using hx0
          · exact hno.out t (by omega) h⟩
    · obtain rfl : i = k + 1 := by omega
      have z3 : ¬ ((k : Int) + 1 ≤ (k : Int)) := by omega
      go_wp2
      go_ret
      exact ⟨by rw [isLast_iff.2 hno.out]; rfl, _, rfl⟩

end Go.Proofs.Qxb6600353a
