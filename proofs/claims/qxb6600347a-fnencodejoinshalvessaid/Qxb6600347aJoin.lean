/-
  Seat b6600347a. FnEncodeJoinsHalves (function 8): the walks.
-/
import Derived.Test.Qxb6600347aClone
import Derived.Test.Qxb6600347aEncode
namespace Go.Proofs.Qxb6600347a
open Go.RowKit

set_option maxRecDepth 100000 in
/-- zzBytes: the lengths' sum is small. -/
theorem bytes2_yes (a0 a1 : Option Addr) (l0 c0 l1 c1 : Nat) (w : World) (h : l0 + l1 ≤ 1048576) :
    Calls Try.prog 18 #[.slice a0 l0 c0, .slice a1 l1 c1] w fun e w' => e = .returned (.bool true) ∧ w' = w := by
  have h0 : ¬ (1048576 : Int) < (l0 : Int) := by omega
  have h1 : ¬ (1048576 : Int) < (l1 : Int) := by omega
  have h2 : ¬ (1048576 : Int) < (l0 : Int) + (l1 : Int) := by omega
  go_enter Try.func18, Try.ntmps18
  go_wp2
  go_ret
  exact ⟨rfl, rfl⟩

set_option maxRecDepth 100000 in
/-- zzBytes: the lengths' sum is great. -/
theorem bytes2_no (a0 a1 : Option Addr) (l0 c0 l1 c1 : Nat) (w : World) (m0 : l0 ≤ 9223372036854775807) (m1 : l1 ≤ 9223372036854775807) (h : ¬ l0 + l1 ≤ 1048576) :
    Calls Try.prog 18 #[.slice a0 l0 c0, .slice a1 l1 c1] w fun e w' => e = .returned (.bool false) ∧ w' = w := by
  by_cases h0 : (1048576 : Int) < (l0 : Int)
  · go_enter Try.func18, Try.ntmps18
    go_wp2
    go_ret
    exact ⟨rfl, rfl⟩
  · by_cases h1 : (1048576 : Int) < (l1 : Int)
    · go_enter Try.func18, Try.ntmps18
      go_wp2
      go_ret
      exact ⟨rfl, rfl⟩
    · have h2 : (1048576 : Int) < (l0 : Int) + (l1 : Int) := by omega
      go_enter Try.func18, Try.ntmps18
      go_wp2
      go_ret
      exact ⟨rfl, rfl⟩

set_option maxRecDepth 100000 in
theorem join_great (a0 a1 : Option Addr) (l0 c0 l1 c1 : Nat) (w : World) (m0 : l0 ≤ 9223372036854775807) (m1 : l1 ≤ 9223372036854775807) (h : ¬ l0 + l1 ≤ 1048576) :
    Calls Try.prog 8 #[.slice a0 l0 c0, .slice a1 l1 c1] w fun e w' => e = .returned (.bool true) ∧ w' = w := by
  go_enter Try.func8, Try.ntmps8
  go_wp2_with fail
  refine (bytes2_no a0 a1 l0 c0 l1 c1 w m0 m1 h).mono ?_
  rintro e w' ⟨rfl, rfl⟩
  go_wp2
  go_ret
  exact ⟨rfl, rfl⟩

set_option maxRecDepth 100000 in
set_option maxHeartbeats 800000 in
theorem join_short (a0 a1 : Option Addr) (l0 c0 l1 c1 : Nat) (w : World) (h : l0 + l1 ≤ 1048576) (hs : l0 = 0 ∨ l1 = 0 ∨ ¬ (l0 : Int) % 2 = 0 ∨ ¬ (l1 : Int) % 2 = 0) :
    Calls Try.prog 8 #[.slice a0 l0 c0, .slice a1 l1 c1] w fun e w' => e = .returned (.bool true) ∧ w' = w := by
  have h0 : ¬ (1048576 : Int) < (l0 : Int) := by omega
  have h1 : ¬ (1048576 : Int) < (l1 : Int) := by omega
  have h2 : ¬ (1048576 : Int) < (l0 : Int) + (l1 : Int) := by omega
  by_cases e0 : l0 = 0
  · subst e0
    go_enter Try.func8, Try.ntmps8
    go_wp2_with fail
    refine (bytes2_yes a0 a1 0 c0 l1 c1 w h).mono ?_
    rintro e w' ⟨rfl, rfl⟩
    go_wp2
    go_ret
    exact ⟨rfl, rfl⟩
  · have k0 : ((l0 : Int) == 0) = false := by simp; omega
    by_cases e1 : l1 = 0
    · subst e1
      go_enter Try.func8, Try.ntmps8
      go_wp2_with fail
      refine (bytes2_yes a0 a1 l0 c0 0 c1 w h).mono ?_
      rintro e w' ⟨rfl, rfl⟩
      go_wp2
      go_ret
      exact ⟨rfl, rfl⟩
    · have k1 : ((l1 : Int) == 0) = false := by simp; omega
      by_cases e2 : (l0 : Int) % 2 = 0
      · have k2 : ((l0 : Int) % 2 != 0) = false := by simp; omega
        have k3 : ((l1 : Int) % 2 != 0) = true := by simp; omega
        clear e2 hs
        go_enter Try.func8, Try.ntmps8
        go_wp2_with fail
        refine (bytes2_yes a0 a1 l0 c0 l1 c1 w h).mono ?_
        rintro e w' ⟨rfl, rfl⟩
        go_wp2
        go_ret
        exact ⟨rfl, rfl⟩
      · have k2 : ((l0 : Int) % 2 != 0) = true := by simp; omega
        clear e2 hs
        go_enter Try.func8, Try.ntmps8
        go_wp2_with fail
        refine (bytes2_yes a0 a1 l0 c0 l1 c1 w h).mono ?_
        rintro e w' ⟨rfl, rfl⟩
        go_wp2
        go_ret
        exact ⟨rfl, rfl⟩

end Go.Proofs.Qxb6600347a
