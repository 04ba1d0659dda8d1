/-
  Seat b6600353a. A MAP OF VOTES (map[int]Vote), as the kit's words on maps tell it; what Promise picks out of one. No walk here.
-/
import Derived.Test.Qxb6600353aBase
import Derived.Maps.RangeWalk
import Derived.Maps.Ext
namespace Go.Proofs.Qxb6600353a
open Go.RowKit Go.Maps

/-- A vote, as a datum. -/
def voteD (b v : Int) : DataW Unit := .agg [.lit (.int .i64 b), .lit (.int .i64 v)]
/-- How a vote in a map reads. -/
def voteR (x : Value) : Option (DataW Unit × List MemPlace) :=
  match x with
  | .agg cs => match cs.toList with
    | [.int .i64 b, .int .i64 v] => some (voteD b v, [])
    | _ => none
  | _ => none
theorem voteR_mk (b v : Int) : voteR (.agg #[.int .i64 b, .int .i64 v]) = some (voteD b v, []) := rfl
theorem voteR_inv {x : Value} {y : DataW Unit × List MemPlace} (h : voteR x = some y) : ∃ c : Int × Int, x = .agg #[.int .i64 c.1, .int .i64 c.2] ∧ y = (voteD c.1 c.2, []) := by
  unfold voteR at h
  split at h
  · rename_i cs
    split at h
    · rename_i b v e
      obtain ⟨l⟩ := cs
      simp only at e
      subst e
      cases h
      exact ⟨(b, v), rfl, rfl⟩
    · cases h
  · cases h
theorem voteD_inj {a b c d : Int} (h : voteD a b = voteD c d) : a = c ∧ b = d := by
  simp only [voteD, DataW.agg.injEq, List.cons.injEq, DataW.lit.injEq, Lit.int.injEq] at h
  exact ⟨h.1.2, h.2.1.2⟩

theorem law3 : Keyed Try.prog 3 := int_keyed Try.underlying3

/-- The map D holds the vote (b, v) at acceptor x. -/
def At (D : DataW Unit) (x b v : Int) : Prop := ∀ z, D.atKey (.int .i64 x) z = voteD b v

theorem At.same {D : DataW Unit} {x b v b' v' : Int} (h : At D x b v) (h' : At D x b' v') : b = b' ∧ v = v' := voteD_inj ((h .nil).symm.trans (h' .nil))
theorem At.has {D : DataW Unit} {x b v : Int} (h : At D x b v) : has D (.int .i64 x) = true := has_true_of_atKey h

/-- What has been found of the votes that have come: nothing of a value; or one of the highest ballot. -/
def Best (D : DataW Unit) (left : Lit → Bool) (hb hv : Int) : Prop :=
  (hv = 0 → ∀ x b v, At D x b v → left (.int .i64 x) = false → v = 0) ∧
  (hv ≠ 0 → (∃ x, At D x hb hv) ∧ ∀ x b v, At D x b v → left (.int .i64 x) = false → v ≠ 0 → b ≤ hb)

theorem best_start (D : DataW Unit) : Best D (has D) 0 0 :=
  ⟨fun _ x b v h hl => (by rw [h.has] at hl; exact absurd hl (by simp)), fun h => absurd rfl h⟩

theorem left_strike {left : Lit → Bool} {x y : Int} (h : (left (.int .i64 y) && !(Lit.int .i64 y).sameKey (.int .i64 x)) = false) : y = x ∨ left (.int .i64 y) = false := by
  cases hl : left (.int .i64 y)
  · exact Or.inr rfl
  · rw [hl] at h
    simp at h
    exact Or.inl (by have := WideAt.sameKey_eq h; cases this; rfl)

/-- The vote at x has come, and is not taken. -/
theorem best_keep {D : DataW Unit} {left : Lit → Bool} {hb hv x b v : Int} (hB : Best D left hb hv) (hx : At D x b v) (hno : v = 0 ∨ (hv ≠ 0 ∧ b ≤ hb)) :
    Best D (fun z => left z && !z.sameKey (.int .i64 x)) hb hv := by
  refine ⟨fun h0 y b' v' hy hl => ?_, fun h0 => ⟨(hB.2 h0).1, fun y b' v' hy hl hv' => ?_⟩⟩
  · rcases left_strike hl with rfl | hl
    · have := hx.same hy
      rcases hno with hno | hno
      · omega
      · exact absurd h0 hno.1
    · exact hB.1 h0 y b' v' hy hl
  · rcases left_strike hl with rfl | hl
    · have := hx.same hy
      rcases hno with hno | hno <;> omega
    · exact (hB.2 h0).2 y b' v' hy hl hv'

/-- The vote at x has come, and is taken. -/
theorem best_take {D : DataW Unit} {left : Lit → Bool} {hb hv x b v : Int} (hB : Best D left hb hv) (hx : At D x b v) (hv0 : v ≠ 0) (hyes : hv = 0 ∨ hb < b) :
    Best D (fun z => left z && !z.sameKey (.int .i64 x)) b v := by
  refine ⟨fun h0 => absurd h0 hv0, fun _ => ⟨⟨x, hx⟩, fun y b' v' hy hl hv' => ?_⟩⟩
  rcases left_strike hl with rfl | hl
  · have := hx.same hy; omega
  · by_cases h0 : hv = 0
    · exact absurd (hB.1 h0 y b' v' hy hl) hv'
    · have := (hB.2 h0).2 y b' v' hy hl hv'
      rcases hyes with h | h
      · exact absurd h h0
      · omega

/-- What Promise answers: 'aborted' (2) where no vote bears a value; else the value of a vote of the highest ballot. -/
def Picks (D : DataW Unit) (rv : Int) : Prop :=
  (rv = 2 ∧ ∀ x b v, At D x b v → v = 0) ∨ (rv ≠ 0 ∧ ∃ x hb, At D x hb rv ∧ ∀ y b v, At D y b v → v ≠ 0 → b ≤ hb)

theorem best_end {D : DataW Unit} {left : Lit → Bool} {hb hv : Int} (hB : Best D left hb hv) (hl : ∀ kl, left kl = false) : (hv = 0 → Picks D 2) ∧ (hv ≠ 0 → Picks D hv) := by
  refine ⟨fun h0 => Or.inl ⟨rfl, fun x b v h => hB.1 h0 x b v h (hl _)⟩, fun h0 => ?_⟩
  obtain ⟨⟨x, hx⟩, hall⟩ := hB.2 h0
  exact Or.inr ⟨h0, x, hb, hx, fun y b v h hv => hall y b v h (hl _) hv⟩

/-- THE STEP of a range over a map of votes. -/
theorem wpList_next_votes (w : World) {ops : Array Oper} {rest : List Oper} {o : Oper} {a : Act} {Q : Exit → Act → World → Prop} (hg : o.guard = none) (it : Operand) (hop : o.op = Op.next it false)
    (b r n : Nat) (D : DataW Unit) (left : Lit → Bool) (cnt : Nat) (hit : a.eval it = .pointer (some ⟨r, 0, none⟩)) (h : w.ranges Try.prog 3 voteR b r n D left cnt)
    (hDone : cnt = 0 → (∀ kl, left kl = false) → wpList Try.prog ops Q rest (a.put o.dst (.tuple #[.bool false])) w)
    (hMore : ∀ (x cb cv : Int) (w' : World) (cnt' : Nat), left (.int .i64 x) = true → At D x cb cv → w'.ranges Try.prog 3 voteR b r n D (fun z => left z && !z.sameKey (.int .i64 x)) cnt' → cnt' < cnt →
      w.grownBy w' (some r) → w'.heap.size = w.heap.size → (Instr.entry (.pointer (some ⟨r, 0, none⟩))).run Try.prog w' = .ok (.tuple #[.int .i64 x, .agg #[.int .i64 cb, .int .i64 cv]]) w' → wpList Try.prog ops Q rest (a.put o.dst (.tuple #[.bool true, .int .i64 x, .agg #[.int .i64 cb, .int .i64 cv]])) w') :
    wpList Try.prog ops Q (o :: rest) a w :=
  wpList_next_ranges w hg it hop 3 law3 voteR (Value.int .i64) (fun c : Int × Int => .agg #[.int .i64 c.1, .int .i64 c.2]) (fun key kl hkey => by obtain ⟨x, rfl, _⟩ := Maps.keyOf_int_inv Try.underlying3 hkey; exact ⟨x, rfl⟩)
    (fun v y hv => by obtain ⟨c, rfl, _⟩ := voteR_inv hv; exact ⟨c, rfl⟩)
    b r n D left cnt hit h hDone (fun x c kl y w' cnt' hkey hlk hv hat hrg hlt hgr hsz hen => by
      obtain ⟨x', ex, rfl, hwx⟩ := Maps.keyOf_int_inv Try.underlying3 hkey
      cases ex
      have e : y = (voteD c.1 c.2, []) := by have := voteR_mk c.1 c.2; rw [this] at hv; exact (Option.some.inj hv).symm
      subst e
      exact hMore x c.1 c.2 w' cnt' hlk hat hrg hlt hgr hsz hen)

end Go.Proofs.Qxb6600353a
