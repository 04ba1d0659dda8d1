/-
  Seat b6600353a. slices.IndexFunc at []report (function 23) with Add's closure (function 24).
-/
import Derived.Test.Qxb6600353aBase
import Derived.Deep.LoopGhost
namespace Go.Proofs.Qxb6600353a
open Go.RowKit

set_option maxRecDepth 100000 in
theorem same_any (a ra rb rv : Int) (P : Nat) (w : World) (hp : w.cell? ⟨P, 0, none⟩ = some (.int .i64 a)) :
    Calls Try.prog 24 #[.agg #[.int .i64 ra, .int .i64 rb, .int .i64 rv], .pointer (some ⟨P, 0, none⟩)] w fun e w' => e = .returned (.bool (ra == a)) ∧ w' = w.alloc (.cells #[.int .i64 ra, .int .i64 rb, .int .i64 rv] 55) := by
  have hP : P < w.heap.size := World.block_lt_of_cell? w _ hp
  go_enter Try.func24, Try.ntmps24
  go_wp2
  go_ret
  exact ⟨rfl, rfl⟩

/-- A row of reports: acceptor, ballot, value of each. -/
def Reps (w : World) (ao : Option Addr) (n : Nat) (fa fB fV : Nat → Int) : Prop :=
  0 < n → ∃ g, ao = some ⟨g, 0, none⟩ ∧ g < w.heap.size ∧ ∀ i, i < n → w.cell? ⟨g, i * 3, none⟩ = some (.int .i64 (fa i)) ∧ w.cell? ⟨g, i * 3 + 1, none⟩ = some (.int .i64 (fB i)) ∧ w.cell? ⟨g, i * 3 + 2, none⟩ = some (.int .i64 (fV i))

/-- The first report of acceptor a, or -1. -/
def Found (fa : Nat → Int) (n : Nat) (a r : Int) : Prop := (r = -1 ∧ ∀ j, j < n → fa j ≠ a) ∨ ∃ i : Nat, r = i ∧ i < n ∧ fa i = a ∧ ∀ j, j < i → fa j ≠ a

set_option maxRecDepth 100000 in
set_option maxHeartbeats 1600000 in
theorem index_any (ao : Option Addr) (n c : Nat) (fa fB fV : Nat → Int) (P : Nat) (a : Int) (w : World) (hn : n ≤ 1000000) (hP : w.cell? ⟨P, 0, none⟩ = some (.int .i64 a)) (hr : Reps w ao n fa fB fV) :
    Calls Try.prog 23 #[.slice ao n c, .func (Fn.func 24) #[] #[.pointer (some ⟨P, 0, none⟩)]] w fun e w' => ∃ r : Int, e = .returned (.int .i64 r) ∧ Found fa n a r ∧ Below w.heap.size w w' := by
  have hPl : P < w.heap.size := World.block_lt_of_cell? w _ hP
  have HP : Hid (w.cell? ⟨P, 0, none⟩ = some (.int .i64 a)) := hP
  have HR : Hid (Reps w ao n fa fB fV) := hr
  clear hP hr
  go_enter Try.func23, Try.ntmps23
  go_wp2
  go_loopg [5, 8] n (fun gk _ s8 wr => ∃ k : Nat, k ≤ n ∧ gk = n - k ∧ s8 = .int .i64 k ∧ Hid (∀ j, j < k → fa j ≠ a) ∧ Below w.heap.size w wr)
  case atStart => exact ⟨0, Nat.zero_le _, rfl, rfl, fun j hj => absurd hj (by omega), Below.refl _ _⟩
  case round =>
    obtain ⟨k, hk, rfl, rfl, hno, hbel⟩ := hrel
    by_cases hlt : k < n
    · obtain ⟨g, rfl, hg, hc⟩ := HR.out (by omega)
      obtain ⟨e0, e1, e2⟩ := hc k hlt
      have d0 := (hbel.cell (p := ⟨g, k * 3, none⟩) hg).trans e0
      have d1 := (hbel.cell (p := ⟨g, k * 3 + 1, none⟩) hg).trans e1
      have d2 := (hbel.cell (p := ⟨g, k * 3 + 2, none⟩) hg).trans e2
      have dp := (hbel.cell (p := ⟨P, 0, none⟩) hPl).trans HP.out
      clear e0 e1 e2 hc
      have z0 : (0 : Int) ≤ (k : Int) := by omega
      have z1 : (k : Int) < (n : Int) := by omega
      have HN : Hid (fa k ≠ a → ∀ j, j < k + 1 → fa j ≠ a) := fun h j hj => by
        by_cases e : j = k
        · subst e; exact h
        · exact hno.out j (by omega)
      have HY : Hid (fa k = a → Found fa n a (k : Int)) := fun h => Or.inr ⟨k, rfl, hlt, h, hno.out⟩
      generalize fa k = ra at d0 HN HY
      generalize fB k = rb at d1
      generalize fV k = rv at d2
      go_wp2_with fail
      refine (same_any a ra rb rv P wr dp).mono ?_
      rintro e w' ⟨rfl, rfl⟩
      have hb2 : Below w.heap.size w (wr.alloc (.cells #[.int .i64 ra, .int .i64 rb, .int .i64 rv] 55)) := hbel.alloc hbel.size _
      by_cases hx : (ra == a) = true
      · go_wp2
        go_ret
        exact ⟨_, rfl, HY.out (by simpa using hx), hb2⟩
      · have hx0 : (ra == a) = false := by simpa using hx
        clear hx
        go_wp2
        go_roundg (n - (k + 1))
        case measure => omega
        case rel => exact ⟨k + 1, by omega, rfl, by go_num, HN.out (by simpa using hx0), hb2⟩
    · obtain rfl : n = k := by omega
      go_wp2
      go_ret
      exact ⟨_, rfl, Or.inl ⟨rfl, hno.out⟩, hbel⟩

end Go.Proofs.Qxb6600353a
