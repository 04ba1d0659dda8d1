/-
  Seat b6600353a. PLAIN LAWS on a map of votes: what it holds after a script of promises; what Promise then answers. No walk here.
-/
import Derived.Test.Qxb6600353aRec
namespace Go.Proofs.Qxb6600353a
open Go.RowKit Go.Maps

/-- The map D holds just the acceptors of S, m of them, each with its vote. -/
def IsD (D : DataW Unit) (S : Int → Prop) (gb gv : Int → Int) (m : Nat) : Prop :=
  Tidy D ∧ size D = m ∧ (∀ x, S x → At D x (gb x) (gv x)) ∧ ∀ x, ¬ S x → has D (.int .i64 x) = false

theorem isD_empty (gb gv : Int → Int) : IsD (.map []) (fun _ => False) gb gv 0 := ⟨tidy_empty, rfl, fun _ h => h.elim, fun _ _ => rfl⟩

theorem key_ne {x a : Int} (h : x ≠ a) : (Lit.int .i64 x) ≠ .int .i64 a := fun e => h (by cases e; rfl)

theorem at_put_same {D : DataW Unit} (h : IsMap D) (a b v : Int) : At (D.put (.int .i64 a) (voteD b v)) a b v := fun z => atKey_put_same (k := .int .i64 a) h trivial _ z
theorem at_put_other {D : DataW Unit} {x a : Int} (hne : x ≠ a) (b v : Int) {b' v' : Int} (h : At D x b' v') : At (D.put (.int .i64 a) (voteD b v)) x b' v' := fun z => (atKey_put_other (key_ne hne) _ z).trans (h z)

/-- A promise of an acceptor, new or not. -/
theorem isD_put {D : DataW Unit} {S : Int → Prop} {gb gv : Int → Int} {m : Nat} (h : IsD D S gb gv m) (a b v : Int) :
    (¬ S a → IsD (D.put (.int .i64 a) (voteD b v)) (fun x => x = a ∨ S x) (fun x => if x = a then b else gb x) (fun x => if x = a then v else gv x) (m + 1)) ∧
    (S a → IsD (D.put (.int .i64 a) (voteD b v)) (fun x => x = a ∨ S x) (fun x => if x = a then b else gb x) (fun x => if x = a then v else gv x) m) := by
  obtain ⟨ht, hs, h1, h2⟩ := h
  have hat : ∀ x, (x = a ∨ S x) → At (D.put (.int .i64 a) (voteD b v)) x (if x = a then b else gb x) (if x = a then v else gv x) := fun x hx => by
    by_cases e : x = a
    · subst e; simpa using at_put_same ht.isMap x b v
    · rcases hx with hx | hx
      · exact absurd hx e
      · rw [if_neg e, if_neg e]; exact at_put_other e b v (h1 x hx)
  have hno : ∀ x, ¬ (x = a ∨ S x) → has (D.put (.int .i64 a) (voteD b v)) (.int .i64 x) = false := fun x hx => by
    have e : x ≠ a := fun e => hx (Or.inl e)
    rw [has_put_other (key_ne e)]
    exact h2 x (fun hs => hx (Or.inr hs))
  have hsz := size_put (k := .int .i64 a) ht (voteD b v)
  refine ⟨fun hS => ⟨ht.put (k := .int .i64 a) trivial _, ?_, hat, hno⟩, fun hS => ⟨ht.put (k := .int .i64 a) trivial _, ?_, hat, hno⟩⟩
  · rw [hsz, h2 a hS, hs]; simp
  · rw [hsz, (h1 a hS).has, hs]; simp

/-- The same said otherwise. -/
theorem IsD.congr {D : DataW Unit} {S S' : Int → Prop} {gb gv gb' gv' : Int → Int} {m : Nat} (h : IsD D S gb gv m) (hS : ∀ x, S x ↔ S' x) (hb : ∀ x, S x → gb x = gb' x) (hv : ∀ x, S x → gv x = gv' x) : IsD D S' gb' gv' m :=
  ⟨h.1, h.2.1, fun x hx => by have hx' := (hS x).2 hx; rw [← hb x hx', ← hv x hx']; exact h.2.2.1 x hx', fun x hx => h.2.2.2 x (fun hs => hx ((hS x).1 hs))⟩

theorem IsD.at {D : DataW Unit} {S : Int → Prop} {gb gv : Int → Int} {m : Nat} (h : IsD D S gb gv m) {x b v : Int} (hx : At D x b v) : S x ∧ b = gb x ∧ v = gv x := by
  by_cases hS : S x
  · exact ⟨hS, hx.same (h.2.2.1 x hS)⟩
  · have := h.2.2.2 x hS
    rw [hx.has] at this
    cases this

/-! ### Law 'DistinctOrderFree' -/
/-- What the law's first loop has found of the first k votes. -/
def FMax (fb fv : Nat → Int) (k : Nat) (found : Bool) (mB mV : Int) : Prop :=
  (found = false ∧ mB = 0 ∧ mV = 0 ∧ ∀ j, j < k → fv j = 0) ∨
  (found = true ∧ (∃ j, j < k ∧ fv j ≠ 0 ∧ fb j = mB ∧ fv j = mV) ∧ ∀ i, i < k → fv i ≠ 0 → fb i ≤ mB)

theorem fmax_skip {fb fv : Nat → Int} {k : Nat} {found : Bool} {mB mV : Int} (h : FMax fb fv k found mB mV) (h0 : fv k = 0) : FMax fb fv (k + 1) found mB mV := by
  rcases h with ⟨h1, h2, h3, h4⟩ | ⟨h1, ⟨j, hj⟩, h3⟩
  · refine Or.inl ⟨h1, h2, h3, fun j hj => ?_⟩
    by_cases e : j = k
    · subst e; exact h0
    · exact h4 j (by omega)
  · refine Or.inr ⟨h1, ⟨j, by omega, hj.2⟩, fun i hi hv => ?_⟩
    by_cases e : i = k
    · subst e; exact absurd h0 hv
    · exact h3 i (by omega) hv

theorem fmax_keep {fb fv : Nat → Int} {k : Nat} {mB mV : Int} (h : FMax fb fv k true mB mV) (hle : fb k ≤ mB) : FMax fb fv (k + 1) true mB mV := by
  rcases h with ⟨h1, _⟩ | ⟨h1, ⟨j, hj⟩, h3⟩
  · cases h1
  · refine Or.inr ⟨h1, ⟨j, by omega, hj.2⟩, fun i hi hv => ?_⟩
    by_cases e : i = k
    · subst e; exact hle
    · exact h3 i (by omega) hv

theorem fmax_take {fb fv : Nat → Int} {k : Nat} {found : Bool} {mB mV : Int} (h : FMax fb fv k found mB mV) (h0 : fv k ≠ 0) (hy : found = false ∨ mB < fb k) : FMax fb fv (k + 1) true (fb k) (fv k) := by
  refine Or.inr ⟨rfl, ⟨k, by omega, h0, rfl, rfl⟩, fun i hi hv => ?_⟩
  by_cases e : i = k
  · subst e; exact Int.le_refl _
  · rcases h with ⟨_, _, _, h4⟩ | ⟨h1, _, h3⟩
    · exact absurd (h4 i (by omega)) hv
    · have := h3 i (by omega) hv
      rcases hy with hy | hy
      · rw [h1] at hy; cases hy
      · omega

/-- The set 0 .. n-1 of acceptors. -/
def Up (n : Nat) (x : Int) : Prop := 0 ≤ x ∧ x < n

/-- What Promise answers once all n have promised. -/
theorem ans_all {D : DataW Unit} {fb fv : Nat → Int} {n : Nat} {found : Bool} {mB mV bal q rb rv : Int} {ok : Bool} (hD : IsD D (Up n) (fun x => fb x.toNat) (fun x => fv x.toNat) n) (hF : FMax fb fv n found mB mV)
    (hag : ∀ k, k < n → fv k ≠ 0 → fb k = mB → fv k = mV) (hA : Ans D bal q rb rv ok) :
    ((n : Int) < q ∧ ok = false ∧ rb = 0 ∧ rv = 0) ∨ (¬ (n : Int) < q ∧ ok = true ∧ rb = bal ∧ rv = if found then mV else 2) := by
  rcases hA with ⟨h1, h2, h3, h4⟩ | ⟨h1, h2, h3, h4⟩
  · rw [hD.2.1] at h1; exact Or.inl ⟨h1, h2, h3, h4⟩
  · rw [hD.2.1] at h1
    refine Or.inr ⟨h1, h2, h3, ?_⟩
    rcases hF with ⟨hf, _, _, hz⟩ | ⟨hf, ⟨j, hj, hj0, hjb, hjv⟩, hmax⟩
    · subst hf
      rcases h4 with ⟨h5, _⟩ | ⟨h5, x, hb, hx, _⟩
      · simpa using h5
      · obtain ⟨hs, _, ev⟩ := hD.at hx
        exact absurd (ev.trans (hz x.toNat (by obtain ⟨a, b⟩ := hs; omega))) h5
    · subst hf
      have hAt : At D (j : Int) (fb j) (fv j) := by simpa using hD.2.2.1 (j : Int) ⟨by omega, by omega⟩
      rcases h4 with ⟨_, h6⟩ | ⟨h5, x, hb, hx, hall⟩
      · exact absurd (h6 _ _ _ hAt) hj0
      · obtain ⟨hs, eb, ev⟩ := hD.at hx
        have hxn : x.toNat < n := by obtain ⟨a, b⟩ := hs; omega
        have l1 := hall _ _ _ hAt hj0
        have l2 := hmax x.toNat hxn (by rw [← ev]; exact h5)
        have := hag x.toNat hxn (by rw [← ev]; exact h5) (by omega)
        simp [ev, this]

/-- Of the first k, in order. -/
theorem isD_up {D : DataW Unit} {fb fv : Nat → Int} {k : Nat} (h : IsD D (Up k) (fun x => fb x.toNat) (fun x => fv x.toNat) k) : IsD (D.put (.int .i64 (k : Int)) (voteD (fb k) (fv k))) (Up (k + 1)) (fun x => fb x.toNat) (fun x => fv x.toNat) (k + 1) := by
  refine ((isD_put h (k : Int) (fb k) (fv k)).1 (fun hs => by have := hs.2; omega)).congr (fun x => ?_) (fun x _ => ?_) (fun x _ => ?_)
  · unfold Up; omega
  · by_cases e : x = (k : Int)
    · subst e; simp
    · simp [e]
  · by_cases e : x = (k : Int)
    · subst e; simp
    · simp [e]

/-- The last k of n. -/
def Dn (n k : Nat) (x : Int) : Prop := (n : Int) - k ≤ x ∧ x < n
theorem isD_dn {D : DataW Unit} {fb fv : Nat → Int} {n k j : Nat} (hk : k < n) (hj : j = n - 1 - k) (h : IsD D (Dn n k) (fun x => fb x.toNat) (fun x => fv x.toNat) k) : IsD (D.put (.int .i64 (j : Int)) (voteD (fb j) (fv j))) (Dn n (k + 1)) (fun x => fb x.toNat) (fun x => fv x.toNat) (k + 1) := by
  refine ((isD_put h (j : Int) (fb j) (fv j)).1 (fun hs => by have := hs.1; omega)).congr (fun x => ?_) (fun x _ => ?_) (fun x _ => ?_)
  · unfold Dn; omega
  · by_cases e : x = (j : Int)
    · subst e; simp
    · simp [e]
  · by_cases e : x = (j : Int)
    · subst e; simp
    · simp [e]
theorem dn_up {D : DataW Unit} {gb gv : Int → Int} {n m : Nat} (h : IsD D (Dn n n) gb gv m) : IsD D (Up n) gb gv m := h.congr (fun x => by unfold Dn Up; omega) (fun _ _ => rfl) (fun _ _ => rfl)
theorem isD_zero {gb gv : Int → Int} {S : Int → Prop} (hS : ∀ x, ¬ S x) : IsD (.map []) S gb gv 0 := (isD_empty gb gv).congr (fun x => ⟨fun h => h.elim, fun h => hS x h⟩) (fun _ h => h.elim) (fun _ h => h.elim)

/-- A promise that is sent again. -/
theorem isD_again {D : DataW Unit} {fb fv : Nat → Int} {n j : Nat} (hj : j < n) (h : IsD D (Up n) (fun x => fb x.toNat) (fun x => fv x.toNat) n) : IsD (D.put (.int .i64 (j : Int)) (voteD (fb j) (fv j))) (Up n) (fun x => fb x.toNat) (fun x => fv x.toNat) n := by
  refine ((isD_put h (j : Int) (fb j) (fv j)).2 ⟨by omega, by omega⟩).congr (fun x => ?_) (fun x _ => ?_) (fun x _ => ?_)
  · unfold Up; omega
  · by_cases e : x = (j : Int)
    · subst e; simp
    · simp [e]
  · by_cases e : x = (j : Int)
    · subst e; simp
    · simp [e]

/-- 'ok' by the number of those that have promised. -/
theorem ans_ok {D : DataW Unit} {S : Int → Prop} {gb gv : Int → Int} {m : Nat} {bal q rb rv : Int} {ok : Bool} (hD : IsD D S gb gv m) (hA : Ans D bal q rb rv ok) : ok = decide (q ≤ (m : Int)) := by
  rcases hA with ⟨h1, h2, _⟩ | ⟨h1, h2, _⟩
  · rw [hD.2.1] at h1; rw [h2]; simp; omega
  · rw [hD.2.1] at h1; rw [h2]; simp; omega

end Go.Proofs.Qxb6600353a
