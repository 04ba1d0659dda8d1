/-
  Seat b6600347a. zzCompareBytes (function 12) at two slices of one length; ZZappendWord (function 11).
-/
import Derived.Test.Qxb6600347aWord
import Derived.Deep.QuietTactic
import Derived.BigQuiet
namespace Go.Proofs.Qxb6600347a
open Go.RowKit

theorem cmp_drop : ∀ (k : Nat) (A B : List Int), k ≤ A.length → k ≤ B.length → (∀ j, j < k → A.getD j 0 = B.getD j 0) → cmpL A B = cmpL (A.drop k) (B.drop k)
  | 0, _, _, _, _, _ => by simp
  | k + 1, [], _, h, _, _ => by simp at h
  | k + 1, _ :: _, [], _, h, _ => by simp at h
  | k + 1, x :: xs, y :: ys, h1, h2, h => by
    have e : x = y := by simpa using h 0 (by omega)
    subst e
    have := cmp_drop k xs ys (by simpa using h1) (by simpa using h2) (fun j hj => by simpa using h (j + 1) (by omega))
    simpa [cmpL] using this

theorem cmp_at {k : Nat} {A B : List Int} (h1 : k < A.length) (h2 : k < B.length) (h : ∀ j, j < k → A.getD j 0 = B.getD j 0) :
    (A.getD k 0 < B.getD k 0 → cmpL A B = -1) ∧ (B.getD k 0 < A.getD k 0 → cmpL A B = 1) := by
  rw [cmp_drop k A B (by omega) (by omega) h, List.drop_eq_getElem_cons h1, List.drop_eq_getElem_cons h2]
  have e1 : A.getD k 0 = A[k] := by simp [List.getD, h1]
  have e2 : B.getD k 0 = B[k] := by simp [List.getD, h2]
  rw [e1, e2]
  refine ⟨fun h => by simp [cmpL, h], fun h => ?_⟩
  have : ¬ A[k] < B[k] := by omega
  simp [cmpL, h, this]

theorem cmp_end {n : Nat} {A B : List Int} (h1 : A.length = n) (h2 : B.length = n) (h : ∀ j, j < n → A.getD j 0 = B.getD j 0) : cmpL A B = 0 := by
  rw [cmp_drop n A B (by omega) (by omega) h, List.drop_of_length_le (by omega), List.drop_of_length_le (by omega)]
  rfl

theorem drewN_two {w v : World} (j : Nat) (h : ∃ m, v = w.drewN m) : ∃ m, v.drewN j = w.drewN m := by
  obtain ⟨m, rfl⟩ := h
  exact ⟨_, World.drewN_drewN _ _ _⟩

theorem ret_int {k : IntKind} {a b : Int} (h : a = b) : Ending.returned (.int k a) = .returned (.int k b) := by rw [h]

set_option maxRecDepth 100000 in
set_option maxHeartbeats 1600000 in
theorem compare_any (ga ca gb cb n : Nat) (A B : List Int) (w : World) (hlA : A.length = n) (hlB : B.length = n) (hn : n ≤ 1000000)
    (hA : ∀ j, j < n → w.cell? ⟨ga, j, none⟩ = some (.int .u8 (A.getD j 0))) (hB : ∀ j, j < n → w.cell? ⟨gb, j, none⟩ = some (.int .u8 (B.getD j 0))) :
    Calls Try.prog 12 #[.slice (some ⟨ga, 0, none⟩) n ca, .slice (some ⟨gb, 0, none⟩) n cb] w fun e w' => e = .returned (.int .i64 (cmpL A B)) ∧ ∃ m, w' = w.drewN m := by
  have HlA : Hid (A.length = n) := hlA
  have HlB : Hid (B.length = n) := hlB
  have HA : Hid (∀ j, j < n → w.cell? ⟨ga, j, none⟩ = some (.int .u8 (A.getD j 0))) := hA
  have HB : Hid (∀ j, j < n → w.cell? ⟨gb, j, none⟩ = some (.int .u8 (B.getD j 0))) := hB
  clear hlA hlB hA hB
  go_enter Try.func12, Try.ntmps12
  go_wp2
  go_loopw [6] (fun i wr => ∃ k m : Nat, k ≤ n ∧ i = .int .i64 k ∧ wr = w.drewN m ∧ Hid (∀ j, j < k → A.getD j 0 = B.getD j 0)) (fun i _ => n - (intOf i).toNat)
  case atStart => exact ⟨0, 0, Nat.zero_le _, rfl, rfl, fun j hj => by omega⟩
  case round =>
    obtain ⟨k, m, hk, rfl, rfl, Hpre⟩ := hrel
    by_cases hlt : k < n
    · have g1 := HA.out k hlt
      have g2 := HB.out k hlt
      have c1 := cmp_at (A := A) (B := B) (k := k) (by rw [HlA.out]; exact hlt) (by rw [HlB.out]; exact hlt) Hpre.out
      have Hc : Hid ((A.getD k 0 < B.getD k 0 → cmpL A B = -1) ∧ (B.getD k 0 < A.getD k 0 → cmpL A B = 1)) := c1
      clear c1
      have Hn : Hid (A.getD k 0 = B.getD k 0 → ∀ j, j < k + 1 → A.getD j 0 = B.getD j 0) := fun e j hj => by
        by_cases ej : j = k
        · subst ej; exact e
        · exact Hpre.out j (by omega)
      generalize A.getD k 0 = x at g1 Hc Hn
      generalize B.getD k 0 = y at g2 Hc Hn
      have hb0 : (0 : Int) ≤ (k : Int) := by omega
      have hb1 : (k : Int) < (n : Int) := by omega
      rcases Int.lt_trichotomy x y with hxy | hxy | hxy
      · go_wp2
        go_quiet (fail)
        go_wp2
        go_ret
        exact ⟨ret_int (Hc.out.1 hxy).symm, drewN_two _ ⟨_, rfl⟩⟩
      · subst hxy
        go_wp2
        go_quiet (fail)
        go_wp2
        go_quiet (fail)
        go_wp2
        go_roundw
        case rel => exact ⟨k + 1, _, by omega, by go_num, rfl, Hn.out trivial⟩
        case measure => simp [intOf]; omega
      · have hxy' : ¬ x < y := by omega
        go_wp2
        go_quiet (fail)
        go_wp2
        go_quiet (fail)
        go_wp2
        go_ret
        exact ⟨ret_int (Hc.out.2 hxy).symm, drewN_two _ (drewN_two _ ⟨_, rfl⟩)⟩
    · have hkn : k = n := by omega
      subst hkn
      have e := cmp_end HlA.out HlB.out Hpre.out
      have He : Hid (cmpL A B = 0) := e
      clear e
      go_wp2
      go_ret
      exact ⟨ret_int He.out.symm, _, rfl⟩

/-- A slice that owns what it holds: its cells. -/
theorem owned_cells {w : World} {base n g cap : Nat} {zs : List Int} (h : w.ownsRow base 5 1 (.slice (some ⟨g, 0, none⟩) n cap) n (zs.map (Value.int .u8))) :
    ∀ j, j < n → w.cell? ⟨g, j, none⟩ = some (.int .u8 (zs.getD j 0)) := fun j hj => by
  have hl : zs.length = n := by have := h.1; simpa using this
  have := h.cells (g := g) rfl j (.int .u8 (zs.getD j 0)) (by simp [List.getD, show j < zs.length by omega])
  rwa [Addr.add_lit, Nat.zero_add] at this

set_option maxRecDepth 100000 in
set_option maxHeartbeats 1600000 in
theorem zzAppend_nil (x : Int) (h0 : 0 ≤ x) (h1 : x ≤ 65535) (w : World) :
    Calls Try.prog 11 #[.slice none 0 0, .int .u16 x] w fun e w' => ∃ g cap, e = .returned (.slice (some ⟨g, 0, none⟩) 5 cap) ∧
      (∀ j, j < 5 → w'.cell? ⟨g, j, none⟩ = some (.int .u8 ((word x).getD j 0))) ∧ g < w'.heap.size ∧ Below w.heap.size w w' := by
  go_enter Try.func11, Try.ntmps11
  go_wp2_with fail
  refine (appendWord_own x h0 h1 (.slice none 0 0) 0 w.heap.size [] w (World.ownsRow_nil _ _ _ _) (Nat.le_refl _) (by omega)).mono ?_
  rintro e w1 ⟨g, cap, rfl, hown, hgrow, hat⟩
  go_wp2
  go_ret
  refine ⟨g, cap, by simp, fun j hj => owned_cells (by simpa using hown) j hj, ?_, (Below.refl _ _).grown hgrow (Nat.le_refl _) (fun k hk => by simp [Value.ownBlock] at hk)⟩
  obtain ⟨g', cap', hv, _, hlt⟩ := hown.form (by omega)
  cases hv
  exact hlt

end Go.Proofs.Qxb6600347a
