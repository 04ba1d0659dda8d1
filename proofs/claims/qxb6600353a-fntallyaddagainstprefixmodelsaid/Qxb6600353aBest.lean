/-
  Seat b6600353a. lawTallyBest (function 16).
-/
import Derived.Test.Qxb6600353aPrePlain
import Derived.Deep.RegionHeld3
import Derived.BigQuiet
namespace Go.Proofs.Qxb6600353a
open Go.RowKit

/-- What the first loop has found among the first i. -/
def FB (fa fb : Nat → Int) (a : Int) (i : Nat) (found : Bool) (mB : Int) : Prop :=
  (found = false ∧ ∀ j, j < i → fa j ≠ a) ∨ (found = true ∧ (∃ j, j < i ∧ fa j = a ∧ fb j = mB) ∧ ∀ j, j < i → fa j = a → fb j ≤ mB)

theorem fb_skip {fa fb : Nat → Int} {a : Int} {i : Nat} {found : Bool} {mB : Int} (h : FB fa fb a i found mB) (hno : fa i ≠ a) : FB fa fb a (i + 1) found mB := by
  rcases h with ⟨h1, h2⟩ | ⟨h1, ⟨j, hj, hjj⟩, h3⟩
  · refine Or.inl ⟨h1, fun j hj => ?_⟩
    by_cases e : j = i
    · subst e; exact hno
    · exact h2 j (by omega)
  · refine Or.inr ⟨h1, ⟨j, by omega, hjj⟩, fun t ht hs => ?_⟩
    by_cases e : t = i
    · subst e; exact absurd hs hno
    · exact h3 t (by omega) hs

theorem fb_keep {fa fb : Nat → Int} {a : Int} {i : Nat} {mB : Int} (h : FB fa fb a i true mB) (hle : fb i ≤ mB) : FB fa fb a (i + 1) true mB := by
  rcases h with ⟨h1, _⟩ | ⟨h1, ⟨j, hj, hjj⟩, h3⟩
  · cases h1
  · refine Or.inr ⟨h1, ⟨j, by omega, hjj⟩, fun t ht hs => ?_⟩
    by_cases e : t = i
    · subst e; exact hle
    · exact h3 t (by omega) hs

theorem fb_take {fa fb : Nat → Int} {a : Int} {i : Nat} {found : Bool} {mB : Int} (h : FB fa fb a i found mB) (hs : fa i = a) (hy : found = false ∨ mB < fb i) : FB fa fb a (i + 1) true (fb i) := by
  refine Or.inr ⟨rfl, ⟨i, by omega, hs, rfl⟩, fun t ht hst => ?_⟩
  by_cases e : t = i
  · subst e; exact Int.le_refl _
  · rcases h with ⟨_, h2⟩ | ⟨h1, _, h3⟩
    · exact absurd hst (h2 t (by omega))
    · have := h3 t (by omega) hst
      rcases hy with hy | hy
      · rw [h1] at hy; cases hy
      · omega

/-- The three rows of the law. -/
def Rows3 (w : World) (g0 g1 g2 l0 l1 l2 : Nat) (fa fb fv : Nat → Int) : Prop :=
  w.rowIs g0 3 l0 (fun j => .int .i64 (fa j)) ∧ w.rowIs g1 2 l1 (fun j => .int .i64 (fb j)) ∧ w.rowIs g2 3 l2 (fun j => .int .i64 (fv j))

theorem Rows3.below {w w' : World} {g0 g1 g2 l0 l1 l2 : Nat} {fa fb fv : Nat → Int} (h : Rows3 w g0 g1 g2 l0 l1 l2 fa fb fv) (hb : Below w.heap.size w w') : Rows3 w' g0 g1 g2 l0 l1 l2 fa fb fv :=
  ⟨h.1.of_block (hb.block _ h.1.lt), h.2.1.of_block (hb.block _ h.2.1.lt), h.2.2.of_block (hb.block _ h.2.2.lt)⟩

theorem below_put2 {w wr : World} {K : Nat} (h : Below w.heap.size w wr) (hK : w.heap.size ≤ K) (u v : Value) : Below w.heap.size w ((wr.setCell ⟨K, 0, none⟩ u).setCell ⟨K, 1, none⟩ v) := (h.setCell (p := ⟨K, 0, none⟩) hK u).setCell (p := ⟨K, 1, none⟩) hK v

set_option maxRecDepth 100000 in
set_option maxHeartbeats 3200000 in
theorem best_any (g0 g1 g2 l0 l1 l2 k : Nat) (a : Int) (fa fb fv : Nat → Int) (w : World) (h0 : l0 ≤ 1000000) (k0 : k < l0) (k1 : k < l1) (k2 : k < l2) (hr : Rows3 w g0 g1 g2 l0 l1 l2 fa fb fv) (hex : ∃ j, j < k + 1 ∧ fa j = a) :
    Calls Try.prog 16 #[.slice (some ⟨g0, 0, none⟩) l0 l0, .slice (some ⟨g1, 0, none⟩) l1 l1, .slice (some ⟨g2, 0, none⟩) l2 l2, .int .i64 (k : Int), .int .i64 a] w fun e w' => ∃ rb rv, e = .returned (.agg #[.int .i64 rb, .int .i64 rv]) ∧ IsB fa fb fv (k + 1) a rb rv ∧ Below w.heap.size w w' := by
  have bA : Below w.heap.size w (w.alloc (.cells #[.int .i64 0, .int .i64 0] 30)) := (Below.refl _ _).alloc (Nat.le_refl _) _
  have HR : Hid (Rows3 (w.alloc (.cells #[.int .i64 0, .int .i64 0] 30)) g0 g1 g2 l0 l1 l2 fa fb fv) := hr.below bA
  have HZ : Hid ((w.alloc (.cells #[.int .i64 0, .int .i64 0] 30)).heap[w.heap.size]? = some (.cells #[.int .i64 0, .int .i64 0] 30 (0, 0))) := heap_alloc_new _ _
  have HEX : Hid (∃ j, j < k + 1 ∧ fa j = a) := hex
  have kx : (k : Int) < (l0 : Int) := by omega
  clear hr hex
  go_enter Try.func16, Try.ntmps16
  go_wp2
  generalize hS : w.heap.size = S at bA HZ ⊢
  generalize (w.alloc (.cells #[.int .i64 0, .int .i64 0] 30)) = wA at bA HR HZ ⊢
  go_loopg [11, 12, 13] (k + 1) (fun gk s11 s12 s13 wr => wA = wr ∧ ∃ (i : Nat) (found : Bool) (mB : Int), i ≤ k + 1 ∧ gk = k + 1 - i ∧ s11 = .bool found ∧ s12 = .int .i64 mB ∧ s13 = .int .i64 i ∧ Hid (FB fa fb a i found mB))
  case atStart => exact ⟨rfl, 0, false, 0, Nat.zero_le _, rfl, rfl, rfl, rfl, Or.inl ⟨rfl, fun j hj => absurd hj (by omega)⟩⟩
  case round =>
    obtain ⟨rfl, i, found, mB, hi, rfl, rfl, rfl, rfl, hF⟩ := hrel
    by_cases hik : i ≤ k
    · have c0 : wA.cell? ⟨g0, i, none⟩ = some (.int .i64 (fa i)) := HR.out.1.cell (i := i) (by omega)
      have c1 : wA.cell? ⟨g1, i, none⟩ = some (.int .i64 (fb i)) := HR.out.2.1.cell (i := i) (by omega)
      have HK : Hid (fa i ≠ a → FB fa fb a (i + 1) found mB) := fb_skip hF.out
      have HL : Hid (found = true → fb i ≤ mB → FB fa fb a (i + 1) true mB) := fun e h => fb_keep (e ▸ hF.out) h
      have HT : Hid (fa i = a → (found = false ∨ mB < fb i) → FB fa fb a (i + 1) true (fb i)) := fb_take hF.out
      generalize fa i = ai at c0 HK HT
      generalize fb i = bi at c1 HL HT
      clear hF
      have y0 : (0 : Int) ≤ (i : Int) := by omega
      have y1 : (i : Int) ≤ (k : Int) := by omega
      have y2 : (i : Int) < (l0 : Int) := by omega
      have y3 : (i : Int) < (l1 : Int) := by omega
      by_cases hx : (ai != a) = true
      · go_wp2
        go_roundg (k + 1 - (i + 1))
        case measure => omega
        case rel => exact ⟨rfl, i + 1, found, mB, by omega, rfl, rfl, rfl, by go_num, HK.out (by simpa using hx)⟩
      · have hx0 : (ai != a) = false := by simpa using hx
        have hxe : ai = a := by simpa using hx
        have HXE : Hid (ai = a) := hxe
        clear hx hxe
        cases found with
        | false =>
          go_wp2
          go_roundg (k + 1 - (i + 1))
          case measure => omega
          case rel => exact ⟨rfl, i + 1, true, bi, by omega, rfl, rfl, rfl, by go_num, HT.out HXE.out (Or.inl trivial)⟩
        | true =>
          by_cases hb : mB < bi
          · go_wp2
            go_roundg (k + 1 - (i + 1))
            case measure => omega
            case rel => exact ⟨rfl, i + 1, true, bi, by omega, rfl, rfl, rfl, by go_num, HT.out HXE.out (Or.inr hb)⟩
          · go_wp2
            go_roundg (k + 1 - (i + 1))
            case measure => omega
            case rel => exact ⟨rfl, i + 1, true, mB, by omega, rfl, rfl, rfl, by go_num, HL.out trivial (by omega)⟩
    · obtain rfl : i = k + 1 := by omega
      have e2 : ¬ ((k : Int) + 1 ≤ (k : Int)) := by omega
      rcases hF.out with ⟨_, hno⟩ | ⟨rfl, hy, hmx⟩
      · obtain ⟨j, hj, ej⟩ := HEX.out
        exact absurd ej (hno j hj)
      · have HY : Hid (∃ j, j < k + 1 ∧ fa j = a ∧ fb j = mB) := hy
        have HMX : Hid (∀ j, j < k + 1 → fa j = a → fb j ≤ mB) := hmx
        clear hy hmx hF hi hik
        go_wp2
        go_loopg [14] (k + 1) (fun gk s14 wr => wA = wr ∧ ∃ (i : Nat), i ≤ k + 1 ∧ gk = k + 1 - i ∧ s14 = .int .i64 i ∧ Hid (∀ j, j < i → ¬ (fa j = a ∧ fb j = mB)))
        case atStart => exact ⟨rfl, 0, Nat.zero_le _, rfl, rfl, fun j hj => absurd hj (by omega)⟩
        case round =>
          obtain ⟨rfl, i, hi, rfl, rfl, hno⟩ := hrel
          by_cases hik : i ≤ k
          · have c0 : wA.cell? ⟨g0, i, none⟩ = some (.int .i64 (fa i)) := HR.out.1.cell (i := i) (by omega)
            have c1 : wA.cell? ⟨g1, i, none⟩ = some (.int .i64 (fb i)) := HR.out.2.1.cell (i := i) (by omega)
            have c2 : wA.cell? ⟨g2, i, none⟩ = some (.int .i64 (fv i)) := HR.out.2.2.cell (i := i) (by omega)
            have HN : Hid (¬ (fa i = a ∧ fb i = mB) → ∀ j, j < i + 1 → ¬ (fa j = a ∧ fb j = mB)) := fun h j hj => by
              by_cases e : j = i
              · subst e; exact h
              · exact hno.out j (by omega)
            have HB : Hid (fa i = a → fb i = mB → IsB fa fb fv (k + 1) a (fb i) (fv i)) := fun e1 e2 => ⟨i, by omega, e1, rfl, rfl, fun j hj e => by rw [e2]; exact HMX.out j hj e, fun j hj e e' => hno.out j hj ⟨e, e'.trans e2⟩⟩
            generalize fa i = ai at c0 HN HB
            generalize fb i = bi at c1 HN HB
            generalize fv i = xi at c2 HB
            have y0 : (0 : Int) ≤ (i : Int) := by omega
            have y1 : (i : Int) ≤ (k : Int) := by omega
            have y2 : (i : Int) < (l0 : Int) := by omega
            have y3 : (i : Int) < (l1 : Int) := by omega
            have y4 : (i : Int) < (l2 : Int) := by omega
            by_cases hx : (ai == a) = true
            · by_cases hb : (bi == mB) = true
              · have z0 : wA.cell? ⟨S, 0, none⟩ = some (.int .i64 0) := block_cell HZ.out 0
                have z1 : wA.cell? ⟨S, 1, none⟩ = some (.int .i64 0) := block_cell HZ.out 1
                have zf0 : wA.frozen? ⟨S, 0, none⟩ = false := block_free HZ.out 0
                have zf1 : wA.frozen? ⟨S, 1, none⟩ = false := block_free HZ.out 1
                have zl : S < wA.heap.size := block_lt HZ.out
                have n1 : g1 ≠ S := fun e => by obtain ⟨c, hc, _⟩ := HR.out.2.1; rw [e, HZ.out] at hc; cases hc
                have n2 : g2 ≠ S := fun e => by obtain ⟨c, hc, _⟩ := HR.out.2.2; rw [e, HZ.out] at hc; cases hc
                have HBB : Hid (IsB fa fb fv (k + 1) a bi xi) := HB.out (by simpa using hx) (by simpa using hb)
                have sz : ((wA.setCell ⟨S, 0, none⟩ (.int .i64 bi)).setCell ⟨S, 1, none⟩ (.int .i64 xi)).heap.size = wA.heap.size := by simp [World.setCell]
                have m1 : (((wA.setCell ⟨S, 0, none⟩ (.int .i64 bi)).setCell ⟨S, 1, none⟩ (.int .i64 xi)).alloc (.cells #[.int .i64 bi, .int .i64 xi] 30)).cell? ⟨g1, i, none⟩ = some (.int .i64 bi) := (World.cell?_of_block (w := wA) (by
                  show (((wA.setCell ⟨S, 0, none⟩ (.int .i64 bi)).setCell ⟨S, 1, none⟩ (.int .i64 xi)).alloc (.cells #[.int .i64 bi, .int .i64 xi] 30)).heap[g1]? = wA.heap[g1]?
                  rw [Below.heap_alloc _ _ _ (by rw [sz]; exact HR.out.2.1.lt), Below.heap_setCell _ _ _ _ n1, Below.heap_setCell _ _ _ _ n1])).trans c1
                have m2 : (((wA.setCell ⟨S, 0, none⟩ (.int .i64 bi)).setCell ⟨S, 1, none⟩ (.int .i64 xi)).alloc (.cells #[.int .i64 bi, .int .i64 xi] 30)).cell? ⟨g2, i, none⟩ = some (.int .i64 xi) := (World.cell?_of_block (w := wA) (by
                  show (((wA.setCell ⟨S, 0, none⟩ (.int .i64 bi)).setCell ⟨S, 1, none⟩ (.int .i64 xi)).alloc (.cells #[.int .i64 bi, .int .i64 xi] 30)).heap[g2]? = wA.heap[g2]?
                  rw [Below.heap_alloc _ _ _ (by rw [sz]; exact HR.out.2.2.lt), Below.heap_setCell _ _ _ _ n2, Below.heap_setCell _ _ _ _ n2])).trans c2
                have hX : (((wA.setCell ⟨S, 0, none⟩ (.int .i64 bi)).setCell ⟨S, 1, none⟩ (.int .i64 xi)).alloc (.cells #[.int .i64 bi, .int .i64 xi] 30)).heap[S]? = some (.cells #[.int .i64 bi, .int .i64 xi] 30 (0, 0)) := by
                  rw [Below.heap_alloc _ _ _ (by rw [sz]; exact zl)]
                  exact heap_setCell_same _ _ 1 _ _ _ (heap_setCell_same _ _ 0 _ _ _ HZ.out)
                have x0 : (((wA.setCell ⟨S, 0, none⟩ (.int .i64 bi)).setCell ⟨S, 1, none⟩ (.int .i64 xi)).alloc (.cells #[.int .i64 bi, .int .i64 xi] 30)).cell? ⟨S, 0, none⟩ = some (.int .i64 bi) := block_cell hX 0
                have x1 : (((wA.setCell ⟨S, 0, none⟩ (.int .i64 bi)).setCell ⟨S, 1, none⟩ (.int .i64 xi)).alloc (.cells #[.int .i64 bi, .int .i64 xi] 30)).cell? ⟨S, 1, none⟩ = some (.int .i64 xi) := block_cell hX 1
                have HBW : Hid (Below S w (((wA.setCell ⟨S, 0, none⟩ (.int .i64 bi)).setCell ⟨S, 1, none⟩ (.int .i64 xi)).alloc (.cells #[.int .i64 bi, .int .i64 xi] 30))) := ((bA.setCell (p := ⟨S, 0, none⟩) (Nat.le_refl _) _).setCell (p := ⟨S, 1, none⟩) (Nat.le_refl _) _).alloc (by rw [sz]; omega) _
                clear hX sz
                go_wp2_with fail
                go_region_held3 (fun w' => w'.cell? ⟨g1, i, none⟩ = some (.int .i64 bi) ∧ w'.cell? ⟨g2, i, none⟩ = some (.int .i64 xi)) (first | exact ⟨m1, m2⟩ | go_keep)
                  ((go_at_call 11; refine (vote_any _ _ _).mono ?_; rintro e w' ⟨rfl, rfl⟩))
                all_goals go_wp2
                exact bodyPost_ret (v := .agg #[.int .i64 bi, .int .i64 xi]) (by simp [results, Try.results16, go_sem, x0, x1]) rfl ⟨bi, xi, rfl, HBB.out, by rw [hS]; exact HBW.out.drew⟩
              · have hb0 : (bi == mB) = false := by simpa using hb
                go_wp2
                go_roundg (k + 1 - (i + 1))
                case measure => omega
                case rel => exact ⟨rfl, i + 1, by omega, rfl, by go_num, HN.out (fun h => absurd h.2 (by simpa using hb0))⟩
            · have hx0 : (ai == a) = false := by simpa using hx
              go_wp2
              go_roundg (k + 1 - (i + 1))
              case measure => omega
              case rel => exact ⟨rfl, i + 1, by omega, rfl, by go_num, HN.out (fun h => absurd h.1 (by simpa using hx0))⟩
          · exfalso
            obtain ⟨j, hj, h1, h2⟩ := HY.out
            exact hno.out j (by omega) ⟨h1, h2⟩

end Go.Proofs.Qxb6600353a
