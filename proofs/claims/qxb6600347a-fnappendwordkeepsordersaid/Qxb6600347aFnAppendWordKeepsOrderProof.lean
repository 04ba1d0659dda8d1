/-
  Seat b6600347a: the proof of 'Rows.FnAppendWordKeepsOrderSaid', on the frame that the kit's skeleton writer made for this function.
-/
import Derived.Test.Qxb6600347aRows
import Derived.WalkKit
import Derived.ProofKit
import Derived.OpenShut
import Derived.ShutString
import Derived.ChangeOld
import Derived.Below
import Derived.Test.Qxb6600347aCmp
namespace Go.Proofs.Qxb6600347a.fnAppendWordKeepsOrder
open Go.ChangeShapes Go.WideShapes Go.ChangeAt Go.RowKit
open Go.ChangeMaps (open_string shut_string)
set_option linter.unusedVariables false      -- a walk need not use every 'w<i>' (that an integer argument fits its kind)

theorem own : ownKnob Try.prog.godebug = none := by kernel_rfl

/-! ### STEP 1: THE WALK: the Go text returns true, and writes nothing that was there. -/
set_option maxRecDepth 100000 in
set_option maxHeartbeats 1600000 in
theorem walk (a0 : Int) (a1 : Int) (w0 : (Lit.int .u16 a0).wf = true) (w1 : (Lit.int .u16 a1).wf = true) (w : World) :
    Calls Try.prog 5 #[.int .u16 a0, .int .u16 a1] w fun e w' => e = .returned (.bool true) ∧ Below w.heap.size w w' := by
  have b0 := bounds_u16 w0
  have b1 := bounds_u16 w1
  clear w0 w1
  obtain ⟨b00, b01⟩ := b0
  obtain ⟨b10, b11⟩ := b1
  go_enter Try.func5, Try.ntmps5
  go_wp2_with fail
  refine (zzAppend_nil a0 b00 b01 _).mono ?_
  rintro e v1 ⟨g0, c0, rfl, hc0, hg0, hb0⟩
  have HC0 := show Hid _ from hc0
  clear hc0
  go_wp2_with fail
  refine (zzAppend_nil a1 b10 b11 _).mono ?_
  rintro e v2 ⟨g1, c1, rfl, hc1, hg1, hb1⟩
  have HC1 := show Hid _ from hc1
  clear hc1
  go_wp2_with fail
  refine (compare_any g0 c0 g1 c1 5 (word a0) (word a1) _ rfl rfl (by omega) (fun j hj => (hb1.cell (by exact hg0)).trans (HC0.out j hj)) HC1.out).mono ?_
  rintro e v3 ⟨rfl, m, rfl⟩
  have hbel : Below w.heap.size w (v2.drewN m) := (hb0.trans (hb1.mono hb0.size)).trans ⟨rfl, rfl, rfl, Nat.le_refl _, fun _ _ => rfl⟩
  rcases Int.lt_trichotomy a0 a1 with h | h | h
  · have e1 := word_cmp_lt b00 h b11
    rw [e1]
    go_wp2
    go_ret
    exact ⟨rfl, hbel⟩
  · subst h
    rw [cmp_self]
    go_wp2
    go_ret
    exact ⟨rfl, hbel⟩
  · have e1 := word_cmp_gt b10 h b01
    rw [e1]
    have h' : ¬ a0 < a1 := by omega
    go_wp2
    go_ret
    exact ⟨rfl, hbel⟩

/-! ### THE ROW's STEP: WRITTEN OUT: LEAVE IT -/
set_option maxRecDepth 100000 in
theorem lifted (os : Os) (started : os.Started) (H : Type) (enc : TypeId × Value → H) :
    ReturnsInHanded {} Try.checked os 5 .any (Rows.fnAppendWordKeepsOrderSpec.pre6 enc Try.prog Try.f5 Rows.fnAppendWordKeepsOrderRow.domain false) (Rows.fnAppendWordKeepsOrderSpec.post enc Try.prog Try.f5 false true false false) := by
  refine returnsInHanded_of_change (C := Try.checked) own started (by kernel_rfl) Try.func5
    (ChangeSpec.witness6 (enc := enc) (C := Try.checked) false ⟨#[], #[.int .u16 0, .int .u16 0], []⟩ 8 (by kernel_rfl) (by kernel_rfl) (by kernel_rfl) (by kernel_rfl)) ?_
  intro W base args ds gs before hval0 hW hcnd _
  have hval : ∀ (j : Nat) t v, Try.f5.params[j]? = some t → args[j]? = some v → Value.okWide Try.prog W .any base t v := hval0
  have hW' := hW
  obtain ⟨p, q, hA0, hV, rfl, hfz, hnd⟩ := hW
  have hA : DataW.TrodAll enc Try.prog W 0 (fun _ => true) true Try.f5.params.toList args.toList ds p := hA0
  rw [Try.params5] at hA hval
  obtain ⟨v0, vs0, d0, ds0, p0, q0, hargs, rfl, rfl, h0, r0⟩ := trodAll_cons hA
  obtain ⟨v1, vs1, d1, ds1, p1, q1, rfl, rfl, rfl, h1, r1⟩ := trodAll_cons r0
  obtain ⟨rfl, rfl, rfl⟩ := trodAll_nil r1
  obtain rfl : args = #[v0, v1] := by cases args; simp_all
  obtain ⟨rfl, rfl⟩ := trodVars_none hV
  obtain ⟨a0, rfl, rfl, rfl, w0⟩ := open_int Try.underlying23 (hval 0 23 v0 rfl rfl) h0
  obtain ⟨a1, rfl, rfl, rfl, w1⟩ := open_int Try.underlying23 (hval 1 23 v1 rfl rfl) h1
  clear hA0 hval0
  refine (walk a0 a1 w0 w1 W).mono fun e W' ⟨he, bel⟩ => ?_
  subst he
  exact ⟨_, rfl, _, _, _, [], _, [], hW', trodAll_mk1 (shut_bool Try.underlying4 _), (trodAll_cons_mk (shut_int Try.underlying23 w0) (trodAll_cons_mk (shut_int Try.underlying23 w1) trodAll_mk0)), rfl, bel.frame _, fun h => by cases h⟩

theorem over : Rows.fnAppendWordKeepsOrderRow.holds Try.pinned (OpenSpec.ofChange Rows.fnAppendWordKeepsOrderSpec) :=
  OpenClaim.holds_of_wide 5 Try.f5 rfl rfl rfl rfl rfl rfl rfl ⟨rfl, rfl, rfl, rfl, rfl⟩ rfl rfl rfl rfl rfl (by kernel_rfl) Try.func5 (by kernel_rfl)
    (of_decide_eq_true (by kernel_rfl)) (by unfold Func.isWrapper; first | (rw [if_pos (by decide +kernel)]; kernel_rfl) | (rw [if_neg (by decide +kernel)]; exact ⟨rfl, rfl⟩))
    (fun os started H enc _ => lifted os started H enc)

/-- ████ THE STATEMENT ████ -/
theorem proved : Rows.FnAppendWordKeepsOrderSaid :=
  over
#print axioms proved
end Go.Proofs.Qxb6600347a.fnAppendWordKeepsOrder
