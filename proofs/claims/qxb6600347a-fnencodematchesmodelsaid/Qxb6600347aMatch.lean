/-
  Seat b6600347a. FnEncodeMatchesModel (function 6): the walks.
-/
import Derived.Test.Qxb6600347aClone
import Derived.Test.Qxb6600347aModel
import Derived.Deep.QuietTactic
import Derived.BigQuiet
namespace Go.Proofs.Qxb6600347a
open Go.RowKit

set_option maxRecDepth 100000 in
theorem bytes1_yes (a0 : Option Addr) (l0 c0 : Nat) (w : World) (h : l0 ≤ 1048576) :
    Calls Try.prog 13 #[.slice a0 l0 c0] w fun e w' => e = .returned (.bool true) ∧ w' = w := by
  have h0 : ¬ (1048576 : Int) < (l0 : Int) := by omega
  go_enter Try.func13, Try.ntmps13
  go_wp2
  go_ret
  exact ⟨rfl, rfl⟩

set_option maxRecDepth 100000 in
theorem match_great (a0 : Option Addr) (l0 c0 : Nat) (w : World) (h : ¬ l0 ≤ 1048576) :
    Calls Try.prog 6 #[.slice a0 l0 c0] w fun e w' => e = .returned (.bool true) ∧ w' = w := by
  have h0 : (1048576 : Int) < (l0 : Int) := by omega
  go_enter Try.func6, Try.ntmps6
  go_wp2
  go_ret
  exact ⟨rfl, rfl⟩

set_option maxRecDepth 100000 in
theorem match_odd (a0 : Option Addr) (l0 c0 : Nat) (w : World) (h : l0 ≤ 1048576) (ho : ((l0 : Int) % 2 != 0) = true) :
    Calls Try.prog 6 #[.slice a0 l0 c0] w fun e w' => e = .returned (.bool true) ∧ w' = w := by
  have h0 : ¬ (1048576 : Int) < (l0 : Int) := by omega
  go_enter Try.func6, Try.ntmps6
  go_wp2_with fail
  refine (bytes1_yes a0 l0 c0 w h).mono ?_
  rintro e w' ⟨rfl, rfl⟩
  go_wp2
  go_ret
  exact ⟨rfl, rfl⟩

set_option maxRecDepth 100000 in
theorem match_nil (w : World) :
    Calls Try.prog 6 #[.slice none 0 0] w fun e w' => e = .returned (.bool true) ∧ Below w.heap.size w w' := by
  go_enter Try.func6, Try.ntmps6
  go_wp2_with fail
  refine (bytes1_yes none 0 0 w (by omega)).mono ?_
  rintro e w' ⟨rfl, rfl⟩
  go_wp2_with fail
  refine (clone_nil _).mono ?_
  rintro e w' ⟨rfl, rfl⟩
  go_wp2_with fail
  refine (encode_empty none 0 _).mono ?_
  rintro e w2 ⟨rfl, b2⟩
  go_wp2
  go_ret
  exact ⟨rfl, b2⟩

set_option maxRecDepth 100000 in
theorem match_empty (x : Addr) (c : Nat) (w : World) :
    Calls Try.prog 6 #[.slice (some x) 0 c] w fun e w' => e = .returned (.bool true) ∧ Below w.heap.size w w' := by
  go_enter Try.func6, Try.ntmps6
  go_wp2_with fail
  refine (bytes1_yes (some x) 0 c w (by omega)).mono ?_
  rintro e w' ⟨rfl, rfl⟩
  go_wp2_with fail
  refine (clone_empty x c _).mono ?_
  rintro e w1 ⟨a, rfl, b1⟩
  go_wp2_with fail
  refine (encode_empty a 0 _).mono ?_
  rintro e w2 ⟨rfl, b2⟩
  go_wp2
  go_ret
  exact ⟨rfl, b1.trans (b2.mono b1.size)⟩

/-- What the law asks of the string, all of it, in the walk's words. -/
theorem encoded (f : Nat → Int) (m : Nat) (hm : 0 < m) : ∃ l : List UInt8, strOf (encTo f m) = l ∧ l.length = 6 * m - 1 ∧
    (∀ k, k < m → 0 < k → ∀ w, (Instr.index 9 (.string ⟨l.toArray⟩) (.int .i64 (6 * (k : Int) - 1))).run Try.prog w = .ok (.int .u8 45) w) ∧
    (∀ k, k < m → ∀ t : Nat, t < 5 → ∀ w, (Instr.index 9 (.string ⟨l.toArray⟩) (.int .i64 (6 * (k : Int) + (t : Int)))).run Try.prog w = .ok (.int .u8 ((word (f (2 * k) * 256 + f (2 * k + 1))).getD t 0)) w) := by
  obtain ⟨p, rfl⟩ : ∃ p, m = p + 1 := ⟨m - 1, by omega⟩
  have hl : (strOf (encTo f (p + 1))).length = 6 * p + 5 := by rw [strOf_length, encTo_length]
  have hget : ∀ j (hj : j < (strOf (encTo f (p + 1))).length), (((strOf (encTo f (p + 1)))[j]).toNat : Int) = (encTo f (p + 1)).getD j 0 := fun j hj => strOf_get (encTo_byte f (p + 1)) hj
  refine ⟨_, rfl, by rw [hl]; omega, fun k hk hk0 w => ?_, fun k hk t ht w => ?_⟩
  · have := run_at (strOf (encTo f (p + 1))) (6 * k - 1) 45 (by rw [hl]; omega) (by
      rw [hget]
      obtain ⟨d, hd⟩ : ∃ d, p + 1 = (k + 1) + d := ⟨p - k, by omega⟩
      rw [hd, encTo_more f (k + 1) d _ (by rw [encTo_length]; omega), encTo_dash f k hk0]) w
    rw [show ((6 * k - 1 : Nat) : Int) = 6 * (k : Int) - 1 from by omega] at this
    exact this
  · have := run_at (strOf (encTo f (p + 1))) (6 * k + t) ((word (f (2 * k) * 256 + f (2 * k + 1))).getD t 0) (by rw [hl]; omega) (by
      rw [hget]
      obtain ⟨d, hd⟩ : ∃ d, p + 1 = (k + 1) + d := ⟨p - k, by omega⟩
      rw [hd, encTo_more f (k + 1) d _ (by rw [encTo_length]; omega), encTo_word f k t ht]) w
    rw [show ((6 * k + t : Nat) : Int) = 6 * (k : Int) + (t : Int) from by omega] at this
    exact this

set_option maxRecDepth 100000 in
set_option maxHeartbeats 3200000 in
theorem match_main (b0 o0 n c0 : Nat) (f : Nat → Int) (w : World) (hn0 : 0 < n) (hn : n ≤ 1048576) (hev : ((n : Int) % 2 != 0) = false) (hf : ∀ j, 0 ≤ f j ∧ f j ≤ 255)
    (hc : ∀ j, j < n → w.cell? ⟨b0, o0 + j, none⟩ = some (.int .u8 (f j))) (hb0 : b0 < w.heap.size) :
    Calls Try.prog 6 #[.slice (some ⟨b0, o0, none⟩) n c0] w fun e w' => e = .returned (.bool true) ∧ Below w.heap.size w w' := by
  have h0 : decide ((1048576 : Int) < (n : Int)) = false := decide_eq_false (by omega)
  obtain ⟨l, el, hl, hdash, hword⟩ := encoded f (n / 2) (by simp at hev; omega)
  have hz : (((n : Int) / 2) == 0) = false := by simp at hev ⊢; omega
  have hlen : ((l.length : Int) != 6 * ((n : Int) / 2) - 1) = false := by simp at hev ⊢; omega
  have HF : Hid (∀ j, 0 ≤ f j ∧ f j ≤ 255) := hf
  have HC : Hid (∀ j, j < n → w.cell? ⟨b0, o0 + j, none⟩ = some (.int .u8 (f j))) := hc
  have EL : Hid (strOf (encTo f (n / 2)) = l) := el
  have HD := show Hid _ from hdash
  have HW := show Hid _ from hword
  clear hf hc el hl hdash hword
  go_enter Try.func6, Try.ntmps6
  go_wp2_with fail
  refine (bytes1_yes _ n c0 w hn).mono ?_
  rintro e w' ⟨rfl, hw⟩
  obtain rfl := hw.symm
  clear hw
  go_wp2_with fail
  refine (clone_any b0 o0 n c0 f _ hn HC.out hb0).mono ?_
  rintro e w1 ⟨rfl, row1, sz1, bel1⟩
  have S1 : Hid (w1.heap.size = w.heap.size + 1) := sz1
  clear sz1
  go_wp2_with fail
  refine (encode_any w.heap.size n n f _ hev hn HF.out (fun j hj => row1.cell hj) row1.lt).mono ?_
  rintro e w2 ⟨rfl, bel2⟩
  rw [EL.out]
  have rowA : w2.rowIs w.heap.size 5 n (fun j => .int .u8 (f j)) := row1.of_block (bel2.block _ row1.lt)
  have HR : Hid (w2.rowIs w.heap.size 5 n (fun j => .int .u8 (f j))) := rowA
  clear row1 rowA
  have hbel : Below w.heap.size w w2 := bel1.trans (bel2.mono bel1.size)
  clear bel1 bel2
  go_wp2
  go_loopw [5] (fun i wr => ∃ k m : Nat, k ≤ n / 2 ∧ i = .int .i64 k ∧ wr = w2.drewN m) (fun i _ => n / 2 - (intOf i).toNat)
  case atStart => exact ⟨0, 0, Nat.zero_le _, rfl, rfl⟩
  case round =>
    obtain ⟨k, m, hk, rfl, rfl⟩ := hrel
    by_cases hlt : k < n / 2
    · have f0 := HF.out (2 * k)
      have f1 := HF.out (2 * k + 1)
      obtain ⟨f00, f01⟩ := f0
      obtain ⟨f10, f11⟩ := f1
      have cx := HR.out.cell (i := 2 * k) (by omega)
      have cy := HR.out.cell (i := 2 * k + 1) (by omega)
      have W0 := HW.out k hlt 0 (by omega)
      have W1 := HW.out k hlt 1 (by omega)
      have W2 := HW.out k hlt 2 (by omega)
      have W3 := HW.out k hlt 3 (by omega)
      have W4 := HW.out k hlt 4 (by omega)
      have M := fun w => modelWord_any l (6 * (k : Int)) (f (2 * k) * 256 + f (2 * k + 1)) (by omega) (by omega) w (by omega) (by omega) (fun w => by have := W0 w; rw [show 6 * (k : Int) + ((0 : Nat) : Int) = 6 * (k : Int) from by omega] at this; exact this) W1 W2 W3 W4
      have HM := show Hid _ from M
      clear M W0 W1 W2 W3 W4
      generalize f (2 * k) = x at cx f00 f01 HM
      generalize f (2 * k + 1) = y at cy f10 f11 HM
      have q0 : (k : Int) < (n : Int) / 2 := by omega
      have q1 : (0 : Int) ≤ 2 * (k : Int) := by omega
      have q2 : 2 * (k : Int) < (n : Int) := by omega
      have q3 : (0 : Int) ≤ 2 * (k : Int) + 1 := by omega
      have q4 : 2 * (k : Int) + 1 < (n : Int) := by omega
      have q5 : (2 * (k : Int)).toNat = 2 * k := by omega
      have q6 : (2 * (k : Int) + 1).toNat = 2 * k + 1 := by omega
      have q7 : (x * 256 + y != x * 256 + y) = false := by simp
      by_cases hk0 : 0 < (k : Int)
      · have D := HD.out k hlt (by omega)
        go_wp2
        go_quiet ((go_at_call 16; refine (HM.out _).mono ?_; rintro e w'' ⟨rfl, rfl⟩; exact ⟨rfl, _, rfl⟩))
        go_wp2
        go_roundw
        case rel => exact ⟨k + 1, _, by omega, by go_num, rfl⟩
        case measure => simp [intOf]; omega
      · go_wp2
        go_quiet ((go_at_call 16; refine (HM.out _).mono ?_; rintro e w'' ⟨rfl, rfl⟩; exact ⟨rfl, _, rfl⟩))
        go_wp2
        go_roundw
        case rel => exact ⟨k + 1, _, by omega, by go_num, rfl⟩
        case measure => simp [intOf]; omega
    · have q0 : ¬ (k : Int) < (n : Int) / 2 := by omega
      go_wp2
      go_ret
      exact ⟨rfl, hbel.trans ⟨rfl, rfl, rfl, Nat.le_refl _, fun _ _ => rfl⟩⟩

end Go.Proofs.Qxb6600347a
