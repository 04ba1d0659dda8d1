/-
  Seat b6600353a. FnTallyAddAgainstPrefixModel (function 4): the walk.
-/
import Derived.Test.Qxb6600353aHighPlain
import Derived.Test.Qxb6600353aBest
namespace Go.Proofs.Qxb6600353a
open Go.RowKit

set_option maxRecDepth 100000 in
theorem pre_bytes_yes (q : Int) (a0 a1 a2 : Option Addr) (l0 c0 l1 c1 l2 c2 : Nat) (w : World) (h : l0 + l1 + l2 ≤ 1048576) :
    Calls Try.prog 14 #[.slice a0 l0 c0, .slice a1 l1 c1, .slice a2 l2 c2, .int .i64 q] w fun e w' => e = .returned (.bool true) ∧ w' = w := by
  have h0 : ¬ (1048576 : Int) < (l0 : Int) := by omega
  have h1 : ¬ (1048576 : Int) < (l1 : Int) := by omega
  have h2 : ¬ (1048576 : Int) < (l0 : Int) + (l1 : Int) := by omega
  have h3 : ¬ (1048576 : Int) < (l2 : Int) := by omega
  have h4 : ¬ (1048576 : Int) < (l0 : Int) + (l1 : Int) + (l2 : Int) := by omega
  go_enter Try.func14, Try.ntmps14
  go_wp2
  go_ret
  exact ⟨rfl, rfl⟩

set_option maxRecDepth 100000 in
/-- A slice too long: the law answers true at once. -/
theorem pre_great (q : Int) (a0 a1 a2 : Option Addr) (l0 c0 l1 c1 l2 c2 : Nat) (w : World) (m0 : l0 ≤ 9223372036854775807) (m1 : l1 ≤ 9223372036854775807) (m2 : l2 ≤ 9223372036854775807) (h : ¬ (l0 ≤ 256 ∧ l1 ≤ 256 ∧ l2 ≤ 256)) :
    Calls Try.prog 4 #[.slice a0 l0 c0, .slice a1 l1 c1, .slice a2 l2 c2, .int .i64 q] w fun e w' => e = .returned (.bool true) ∧ w' = w := by
  by_cases t0 : (1048576 : Int) < (l0 : Int)
  · go_enter Try.func4, Try.ntmps4
    go_wp2
    go_ret
    exact ⟨rfl, rfl⟩
  · have _t := trivial
    by_cases t1 : (1048576 : Int) < (l1 : Int)
    · go_enter Try.func4, Try.ntmps4
      go_wp2
      go_ret
      exact ⟨rfl, rfl⟩
    · have _t := trivial
      by_cases t2 : (1048576 : Int) < (l0 : Int) + (l1 : Int)
      · go_enter Try.func4, Try.ntmps4
        go_wp2
        go_ret
        exact ⟨rfl, rfl⟩
      · have _t := trivial
        by_cases t3 : (1048576 : Int) < (l2 : Int)
        · go_enter Try.func4, Try.ntmps4
          go_wp2
          go_ret
          exact ⟨rfl, rfl⟩
        · have _t := trivial
          by_cases t4 : (1048576 : Int) < (l0 : Int) + (l1 : Int) + (l2 : Int)
          · go_enter Try.func4, Try.ntmps4
            go_wp2
            go_ret
            exact ⟨rfl, rfl⟩
          · have _t := trivial
            by_cases t5 : (256 : Int) < (l0 : Int)
            · go_enter Try.func4, Try.ntmps4
              go_wp2
              go_ret
              exact ⟨rfl, rfl⟩
            · have _t := trivial
              by_cases t6 : (256 : Int) < (l1 : Int)
              · go_enter Try.func4, Try.ntmps4
                go_wp2
                go_ret
                exact ⟨rfl, rfl⟩
              · have _t := trivial
                have t9 : (256 : Int) < (l2 : Int) := by omega
                go_enter Try.func4, Try.ntmps4
                go_wp2
                go_ret
                exact ⟨rfl, rfl⟩

theorem pre_kind {w : World} {k V : Nat} {cs cs' : Array Value} {t t' : TypeId} {fr fr' : Nat × Nat} (h : w.heap[k]? = some (.cells cs t fr)) (h' : w.heap[V]? = some (.cells cs' t' fr')) (ht : t ≠ t') : k ≠ V := fun e => by
  rw [e, h'] at h
  injection h with h
  injection h with _ h2
  exact ht h2.symm

/-- The state of the law's Tally and rows. -/
structure TSt (w : World) (B T g0 g1 g2 l0 l1 l2 : Nat) (fa fb fv : Nat → Int) (v : Value) (R : List (Int × Int × Int)) : Prop where
  t : TallyAt w T B v R
  r : Rows3 w g0 g1 g2 l0 l1 l2 fa fb fv

section
variable {w w' : World} {B T g0 g1 g2 l0 l1 l2 : Nat} {fa fb fv : Nat → Int} {v v' : Value} {R R' : List (Int × Int × Int)}

theorem TSt.below (h : TSt w B T g0 g1 g2 l0 l1 l2 fa fb fv v R) (hb : Below w.heap.size w w') : TSt w' B T g0 g1 g2 l0 l1 l2 fa fb fv v R := ⟨tally_below h.t hb, h.r.below hb⟩

theorem TSt.turn (h : TSt w B T g0 g1 g2 l0 l1 l2 fa fb fv v R) (hM : Moved w w' T v.ownBlock v'.ownBlock) (ht : TallyAt w' T B v' R') : TSt w' B T g0 g1 g2 l0 l1 l2 fa fb fv v' R' :=
  ⟨ht, moved_row h.t hM h.r.1 (by decide) (by decide), moved_row h.t hM h.r.2.1 (by decide) (by decide), moved_row h.t hM h.r.2.2 (by decide) (by decide)⟩

theorem TSt.set2 (h : TSt w B T g0 g1 g2 l0 l1 l2 fa fb fv v R) {V : Nat} {cs : Array Value} (hV : w.heap[V]? = some (.cells cs 30 (0, 0))) (u u' : Value) : TSt ((w.setCell ⟨V, 0, none⟩ u).setCell ⟨V, 1, none⟩ u') B T g0 g1 g2 l0 l1 l2 fa fb fv v R := by
  have m : ∀ {k : Nat}, k ≠ V → ((w.setCell ⟨V, 0, none⟩ u).setCell ⟨V, 1, none⟩ u').heap[k]? = w.heap[k]? := fun hk => (Below.heap_setCell _ _ _ _ hk).trans (Below.heap_setCell _ _ _ _ hk)
  obtain ⟨c0, e0, x0⟩ := h.r.1
  obtain ⟨c1, e1, x1⟩ := h.r.2.1
  obtain ⟨c2, e2, x2⟩ := h.r.2.2
  have nV := row_ne h.t.2 hV (by decide)
  exact ⟨⟨(m (pre_kind h.t.1 hV (by decide))).trans h.t.1, ownsRow_setCell_other (ownsRow_setCell_other h.t.2 (a := ⟨V, 0, none⟩) nV _) (a := ⟨V, 1, none⟩) nV _⟩, ⟨c0, (m (pre_kind e0 hV (by decide))).trans e0, x0⟩, ⟨c1, (m (pre_kind e1 hV (by decide))).trans e1, x1⟩, ⟨c2, (m (pre_kind e2 hV (by decide))).trans e2, x2⟩⟩
end

/-- A call of Add with all that the law keeps. -/
theorem add_at {wr W : World} {B T g0 g1 g2 l0 l1 l2 : Nat} {fa fb fv : Nat → Int} {v : Value} {R : List (Int × Int × Int)} (w0 : World) (a b x q rb rv : Int) (ok : Bool) (R1 : List (Int × Int × Int)) (h : TSt wr B T g0 g1 g2 l0 l1 l2 fa fb fv v R) (hW : Below wr.heap.size wr W) (h0 : Below B w0 wr) (hB : B ≤ wr.heap.size) (hT : B ≤ T) (hn : R.length ≤ 100000)
    (hA : addR R a b x = (R1, rb, rv)) (hok : decide (q ≤ (cntR R1 rb rv : Int)) = ok) :
    Calls Try.prog 15 #[.pointer (some ⟨T, 0, none⟩), .int .i64 a, .agg #[.int .i64 b, .int .i64 x], .int .i64 q] W fun e w5 => ∃ v', e = .returned (.tuple #[.agg #[.int .i64 rb, .int .i64 rv], .bool ok]) ∧
      TSt w5 B T g0 g1 g2 l0 l1 l2 fa fb fv v' R1 ∧ Below B w0 w5 ∧ B ≤ w5.heap.size ∧ (∀ (k : Nat) (cs : Array Value) (fr : Nat × Nat), W.heap[k]? = some (.cells cs 30 fr) → w5.heap[k]? = some (.cells cs 30 fr)) := by
  have h1 := h.below hW
  have hBW : B ≤ W.heap.size := Nat.le_trans hB hW.size
  have hc := add_core T B a b x q v R W h1.t hBW hn
  rw [hA] at hc
  rw [← hok]
  refine hc.mono ?_
  rintro e w5 ⟨v', rfl, ht, hM⟩
  exact ⟨v', rfl, h1.turn hM ht, moved_below h1.t hM (h0.trans (hW.mono hB)) hT hBW, Nat.le_trans hBW hM.size, fun k cs fr hk => moved_cells h1.t hM hk (by decide) (pre_kind hk h1.t.1 (by decide))⟩

theorem play1 (w : World) (o : Obj) : Below w.heap.size w (w.alloc o).drew := ((Below.refl _ _).alloc (Nat.le_refl _) _).drew
theorem play2 (w : World) (o o' : Obj) : Below w.heap.size w ((w.alloc o).alloc o').drew := (((Below.refl _ _).alloc (Nat.le_refl _) _).alloc (by simp) _).drew

set_option maxRecDepth 100000 in
set_option maxHeartbeats 6400000 in
theorem pre_main (q : Int) (a0 a1 a2 : Option Addr) (l0 c0 l1 c1 l2 c2 : Nat) (fa fb fv : Nat → Int) (w : World) (h0 : l0 ≤ 256) (h1 : l1 ≤ 256) (h2 : l2 ≤ 256) (s0 : Src w a0 l0 c0 fa) (s1 : Src w a1 l1 c1 fb) (s2 : Src w a2 l2 c2 fv) :
    Calls Try.prog 4 #[.slice a0 l0 c0, .slice a1 l1 c1, .slice a2 l2 c2, .int .i64 q] w fun e w' => e = .returned (.bool true) ∧ Below w.heap.size w w' := by
  have q0 : decide ((256 : Int) < (l0 : Int)) = false := decide_eq_false (by omega)
  have q1 : decide ((256 : Int) < (l1 : Int)) = false := decide_eq_false (by omega)
  have q2 : decide ((256 : Int) < (l2 : Int)) = false := decide_eq_false (by omega)
  have HS0 : Hid (Src w a0 l0 c0 fa) := s0
  have HS1 : Hid (Src w a1 l1 c1 fb) := s1
  have HS2 : Hid (Src w a2 l2 c2 fv) := s2
  clear s0 s1 s2
  go_enter Try.func4, Try.ntmps4
  go_wp2_with fail
  refine (pre_bytes_yes q a0 a1 a2 l0 c0 l1 c1 l2 c2 w (by omega)).mono ?_
  rintro e w' ⟨rfl, hw⟩
  obtain rfl := hw.symm
  clear hw
  go_wp2_with fail
  refine (cloneInt_any a0 l0 c0 fa w (by omega) HS0.out).mono ?_
  rintro e w1 ⟨a0', rfl, o0, b1⟩
  go_wp2_with fail
  refine (cloneI64_any a1 l1 c1 fb w1 (by omega) (HS1.out.below b1)).mono ?_
  rintro e w2 ⟨a1', rfl, o1, b2⟩
  have b2' : Below w.heap.size w w2 := b1.trans (b2.mono b1.size)
  go_wp2_with fail
  refine (cloneInt_any a2 l2 c2 fv w2 (by omega) (HS2.out.below b2')).mono ?_
  rintro e w3 ⟨a2', rfl, o2, b3⟩
  have O0 : Own w.heap.size w3 3 a0' l0 fa := (o0.below b2).below b3
  have O1 : Own w.heap.size w3 2 a1' l1 fb := Own.below (fun h => by obtain ⟨g, e1, e2, e3⟩ := o1 h; exact ⟨g, e1, Nat.le_trans b1.size e2, e3⟩) b3
  have O2 : Own w.heap.size w3 3 a2' l2 fv := fun h => by obtain ⟨g, e1, e2, e3⟩ := o2 h; exact ⟨g, e1, Nat.le_trans b2'.size e2, e3⟩
  have hb3 : Below w.heap.size w w3 := b2'.trans (b3.mono b2'.size)
  have bA : Below w3.heap.size w3 (w3.alloc (.cells #[.slice none 0 0] 40)) := (Below.refl _ _).alloc (Nat.le_refl _) _
  have HTA : Hid (TallyAt (w3.alloc (.cells #[.slice none 0 0] 40)) w3.heap.size w.heap.size (.slice none 0 0) []) := ⟨heap_alloc_new _ _, own_none _ _⟩
  have HO : Hid (Own w.heap.size (w3.alloc (.cells #[.slice none 0 0] 40)) 3 a0' l0 fa ∧ Own w.heap.size (w3.alloc (.cells #[.slice none 0 0] 40)) 2 a1' l1 fb ∧ Own w.heap.size (w3.alloc (.cells #[.slice none 0 0] 40)) 3 a2' l2 fv) := ⟨O0.below bA, O1.below bA, O2.below bA⟩
  have hb4 : Below w.heap.size w (w3.alloc (.cells #[.slice none 0 0] 40)) := hb3.trans (bA.mono hb3.size)
  have hTB : w.heap.size ≤ w3.heap.size := hb3.size
  clear o0 o1 o2 b1 b2 b3 b2' O0 O1 O2 hb3 bA HS0 HS1 HS2
  go_wp2_with fail
  refine (min3_any l0 l1 l2 _).mono ?_
  rintro e w' ⟨n, rfl, n0, n1, n2, hw⟩
  obtain rfl := hw.symm
  clear hw
  go_wp2
  generalize (w3.alloc (.cells #[.slice none 0 0] 40)) = w5 at HTA HO hb4 ⊢
  generalize w3.heap.size = T at HTA hTB ⊢
  clear w1 w2 w3
  go_loopg [11] n (fun gk i wr => ∃ (k : Nat) (v : Value) (R : List (Int × Int × Int)), k ≤ n ∧ gk = n - k ∧ i = .int .i64 k ∧ Hid (TallyAt wr T w.heap.size v R ∧ RepB fa fb fv k R) ∧ Hid (Own w.heap.size wr 3 a0' l0 fa ∧ Own w.heap.size wr 2 a1' l1 fb ∧ Own w.heap.size wr 3 a2' l2 fv) ∧ Below w.heap.size w wr)
  case atStart => exact ⟨0, _, [], Nat.zero_le _, rfl, rfl, ⟨HTA.out, repB_start fa fb fv⟩, HO, hb4⟩
  case round =>
    clear HTA HO hb4
    obtain ⟨k, v, R, hk, rfl, rfl, hM, hO, hbel⟩ := hrel
    by_cases hlt : k < n
    · obtain ⟨g0, rfl, hg0, r0⟩ := hO.out.1 (by omega)
      obtain ⟨g1, rfl, hg1, r1⟩ := hO.out.2.1 (by omega)
      obtain ⟨g2, rfl, hg2, r2⟩ := hO.out.2.2 (by omega)
      have d0 : wr.cell? ⟨g0, k, none⟩ = some (.int .i64 (fa k)) := r0.cell (i := k) (by omega)
      have d1 : wr.cell? ⟨g1, k, none⟩ = some (.int .i64 (fb k)) := r1.cell (i := k) (by omega)
      have d2 : wr.cell? ⟨g2, k, none⟩ = some (.int .i64 (fv k)) := r2.cell (i := k) (by omega)
      have HMS : Hid (TSt wr w.heap.size T g0 g1 g2 l0 l1 l2 fa fb fv v R) := ⟨hM.out.1, r0, r1, r2⟩
      have HM1 : Hid (RepB fa fb fv (k + 1) (addR R (fa k) (fb k) (fv k)).1) := repB_step hM.out.2
      have hRl := hM.out.2.len
      have hmem := addR_mem R (fa k) (fb k) (fv k)
      clear r0 r1 r2 hO hM
      obtain ⟨a, hka⟩ : ∃ a, fa k = a := ⟨_, rfl⟩
      obtain ⟨b, hkb⟩ : ∃ b, fb k = b := ⟨_, rfl⟩
      obtain ⟨x, hkx⟩ : ∃ x, fv k = x := ⟨_, rfl⟩
      have HX : Hid (fa k = a ∧ fb k = b ∧ fv k = x) := ⟨hka, hkb, hkx⟩
      rw [hka] at d0 HM1 hmem
      rw [hkb] at d1 HM1 hmem
      rw [hkx] at d2 HM1 hmem
      clear hka hkb hkx
      obtain ⟨R1, hR1⟩ : ∃ R1, (addR R a b x).1 = R1 := ⟨_, rfl⟩
      obtain ⟨rb, hrb⟩ : ∃ rb, (addR R a b x).2.1 = rb := ⟨_, rfl⟩
      obtain ⟨rv, hrv⟩ : ∃ rv, (addR R a b x).2.2 = rv := ⟨_, rfl⟩
      have HA : Hid (addR R a b x = (R1, rb, rv)) := by
        show addR R a b x = (R1, rb, rv)
        rw [← hR1, ← hrb, ← hrv]
      rw [hR1, hrb, hrv] at hmem
      rw [hR1] at HM1
      have HBK : Hid (IsB fa fb fv (k + 1) a rb rv) := HM1.out.best _ hmem
      clear hR1 hrb hrv hmem
      obtain ⟨ok, hok⟩ : ∃ ok, decide (q ≤ (cntR R1 rb rv : Int)) = ok := ⟨_, rfl⟩
      have HOK : Hid (decide (q ≤ (cntR R1 rb rv : Int)) = ok) := hok
      clear hok
      have z0 : (0 : Int) ≤ (k : Int) := by omega
      have z1 : (k : Int) < (n : Int) := by omega
      have z2 : (k : Int) < (l0 : Int) := by omega
      have z3 : (k : Int) < (l1 : Int) := by omega
      have z4 : (k : Int) < (l2 : Int) := by omega
      have hbs := hbel.size
      go_upto_region 17 with fail
      go_cut [12, 13] (fun s12 s13 wc => ∃ (V : Nat) (v5 : Value), s12 = .pointer (some ⟨V, 0, none⟩) ∧ s13 = .bool ok ∧ Hid (wc.heap[V]? = some (.cells #[.int .i64 rb, .int .i64 rv] 30 (0, 0))) ∧ Hid (TSt wc w.heap.size T g0 g1 g2 l0 l1 l2 fa fb fv v5 R1) ∧ Below w.heap.size w wc)
      case first =>
        go_region_held3 (fun w' => w'.cell? ⟨g0, k, none⟩ = some (.int .i64 a) ∧ w'.cell? ⟨g1, k, none⟩ = some (.int .i64 b) ∧ w'.cell? ⟨g2, k, none⟩ = some (.int .i64 x))
          (first | exact ⟨p1, p2, p3⟩ | exact ⟨m1, m2, m3⟩ | go_keep)
          (first
            | (go_at_call 11; refine (vote_any _ _ _).mono ?_; rintro e w' ⟨rfl, rfl⟩)
            | (go_at_call 15; refine (add_at w a b x q rb rv ok R1 HMS.out (play1 wr _) hbel hbs hTB (by omega) HA.out HOK.out).mono ?_; rintro e w5 ⟨v5, rfl, hst, hb5, hs5, hkeep⟩
               have p1 : w5.cell? ⟨g0, k, none⟩ = some (.int .i64 a) := (hst.r.1.cell (i := k) (by omega)).trans (by rw [HX.out.1])
               have p2 : w5.cell? ⟨g1, k, none⟩ = some (.int .i64 b) := (hst.r.2.1.cell (i := k) (by omega)).trans (by rw [HX.out.2.1])
               have p3 : w5.cell? ⟨g2, k, none⟩ = some (.int .i64 x) := (hst.r.2.2.cell (i := k) (by omega)).trans (by rw [HX.out.2.2]))
            | (go_at_call 15; refine (add_at w a b x q rb rv ok R1 HMS.out (play2 wr (.cells #[.int .i64 b, .int .i64 x] 30) (.cells #[.int .i64 0, .int .i64 0] 30)) hbel hbs hTB (by omega) HA.out HOK.out).mono ?_; rintro e w5 ⟨v5, rfl, hst, hb5, hs5, hkeep⟩
               have p1 : w5.cell? ⟨g0, k, none⟩ = some (.int .i64 a) := (hst.r.1.cell (i := k) (by omega)).trans (by rw [HX.out.1])
               have p2 : w5.cell? ⟨g1, k, none⟩ = some (.int .i64 b) := (hst.r.2.1.cell (i := k) (by omega)).trans (by rw [HX.out.2.1])
               have p3 : w5.cell? ⟨g2, k, none⟩ = some (.int .i64 x) := (hst.r.2.2.cell (i := k) (by omega)).trans (by rw [HX.out.2.2])
               have hv : w5.heap[wr.heap.size + 1]? = some (.cells #[.int .i64 0, .int .i64 0] 30 (0, 0)) := hkeep _ _ _ (two_box wr (.cells #[.int .i64 b, .int .i64 x] 30) (.cells #[.int .i64 0, .int .i64 0] 30)).2.1
               have p4 : w5.cell? ⟨wr.heap.size + 1, 0, none⟩ = some (.int .i64 0) := block_cell hv 0
               have p5 : w5.cell? ⟨wr.heap.size + 1, 1, none⟩ = some (.int .i64 0) := block_cell hv 1
               have p6 : w5.frozen? ⟨wr.heap.size + 1, 0, none⟩ = false := block_free hv 0
               have p7 : w5.frozen? ⟨wr.heap.size + 1, 1, none⟩ = false := block_free hv 1
               have HV5 : Hid (w5.heap[wr.heap.size + 1]? = some (.cells #[.int .i64 0, .int .i64 0] 30 (0, 0))) := hv
               have hs2 := hst.set2 hv (.int .i64 rb) (.int .i64 rv)
               have m1 : ((w5.setCell ⟨wr.heap.size + 1, 0, none⟩ (.int .i64 rb)).setCell ⟨wr.heap.size + 1, 1, none⟩ (.int .i64 rv)).cell? ⟨g0, k, none⟩ = some (.int .i64 a) := (hs2.r.1.cell (i := k) (by omega)).trans (by rw [HX.out.1])
               have m2 : ((w5.setCell ⟨wr.heap.size + 1, 0, none⟩ (.int .i64 rb)).setCell ⟨wr.heap.size + 1, 1, none⟩ (.int .i64 rv)).cell? ⟨g1, k, none⟩ = some (.int .i64 b) := (hs2.r.2.1.cell (i := k) (by omega)).trans (by rw [HX.out.2.1])
               have m3 : ((w5.setCell ⟨wr.heap.size + 1, 0, none⟩ (.int .i64 rb)).setCell ⟨wr.heap.size + 1, 1, none⟩ (.int .i64 rv)).cell? ⟨g2, k, none⟩ = some (.int .i64 x) := (hs2.r.2.2.cell (i := k) (by omega)).trans (by rw [HX.out.2.2])
               have HS2 : Hid (TSt ((w5.setCell ⟨wr.heap.size + 1, 0, none⟩ (.int .i64 rb)).setCell ⟨wr.heap.size + 1, 1, none⟩ (.int .i64 rv)) w.heap.size T g0 g1 g2 l0 l1 l2 fa fb fv v5 R1) := hs2
               clear hv hs2)
            | (go_at_call 15; refine (add_at w a b x q rb rv ok R1 HMS.out (play2 wr (.cells #[.int .i64 0, .int .i64 0] 30) (.cells #[.int .i64 b, .int .i64 x] 30)) hbel hbs hTB (by omega) HA.out HOK.out).mono ?_; rintro e w5 ⟨v5, rfl, hst, hb5, hs5, hkeep⟩
               have p1 : w5.cell? ⟨g0, k, none⟩ = some (.int .i64 a) := (hst.r.1.cell (i := k) (by omega)).trans (by rw [HX.out.1])
               have p2 : w5.cell? ⟨g1, k, none⟩ = some (.int .i64 b) := (hst.r.2.1.cell (i := k) (by omega)).trans (by rw [HX.out.2.1])
               have p3 : w5.cell? ⟨g2, k, none⟩ = some (.int .i64 x) := (hst.r.2.2.cell (i := k) (by omega)).trans (by rw [HX.out.2.2])
               have hv : w5.heap[wr.heap.size]? = some (.cells #[.int .i64 0, .int .i64 0] 30 (0, 0)) := hkeep _ _ _ (two_box wr (.cells #[.int .i64 0, .int .i64 0] 30) (.cells #[.int .i64 b, .int .i64 x] 30)).1
               have p4 : w5.cell? ⟨wr.heap.size, 0, none⟩ = some (.int .i64 0) := block_cell hv 0
               have p5 : w5.cell? ⟨wr.heap.size, 1, none⟩ = some (.int .i64 0) := block_cell hv 1
               have p6 : w5.frozen? ⟨wr.heap.size, 0, none⟩ = false := block_free hv 0
               have p7 : w5.frozen? ⟨wr.heap.size, 1, none⟩ = false := block_free hv 1
               have HV5 : Hid (w5.heap[wr.heap.size]? = some (.cells #[.int .i64 0, .int .i64 0] 30 (0, 0))) := hv
               have hs2 := hst.set2 hv (.int .i64 rb) (.int .i64 rv)
               have m1 : ((w5.setCell ⟨wr.heap.size, 0, none⟩ (.int .i64 rb)).setCell ⟨wr.heap.size, 1, none⟩ (.int .i64 rv)).cell? ⟨g0, k, none⟩ = some (.int .i64 a) := (hs2.r.1.cell (i := k) (by omega)).trans (by rw [HX.out.1])
               have m2 : ((w5.setCell ⟨wr.heap.size, 0, none⟩ (.int .i64 rb)).setCell ⟨wr.heap.size, 1, none⟩ (.int .i64 rv)).cell? ⟨g1, k, none⟩ = some (.int .i64 b) := (hs2.r.2.1.cell (i := k) (by omega)).trans (by rw [HX.out.2.1])
               have m3 : ((w5.setCell ⟨wr.heap.size, 0, none⟩ (.int .i64 rb)).setCell ⟨wr.heap.size, 1, none⟩ (.int .i64 rv)).cell? ⟨g2, k, none⟩ = some (.int .i64 x) := (hs2.r.2.2.cell (i := k) (by omega)).trans (by rw [HX.out.2.2])
               have HS2 : Hid (TSt ((w5.setCell ⟨wr.heap.size, 0, none⟩ (.int .i64 rb)).setCell ⟨wr.heap.size, 1, none⟩ (.int .i64 rv)) w.heap.size T g0 g1 g2 l0 l1 l2 fa fb fv v5 R1) := hs2
               clear hv hs2))
        all_goals (go_wp2_with fail)
        all_goals go_meet
        · exact ⟨_, v5, rfl, rfl, heap_alloc_new _ _, hst.below ((Below.refl _ _).alloc (Nat.le_refl _) _), hb5.alloc hs5 _⟩
        · exact ⟨_, v5, rfl, rfl, heap_setCell_same _ _ 1 _ _ _ (heap_setCell_same _ _ 0 _ _ _ HV5.out), HS2, (hb5.setCell (p := ⟨wr.heap.size + 1, 0, none⟩) (Nat.le_succ_of_le hbs) _).setCell (p := ⟨wr.heap.size + 1, 1, none⟩) (Nat.le_succ_of_le hbs) _⟩
        · exact ⟨_, v5, rfl, rfl, heap_setCell_same _ _ 1 _ _ _ (heap_setCell_same _ _ 0 _ _ _ HV5.out), HS2, (hb5.setCell (p := ⟨wr.heap.size, 0, none⟩) hbs _).setCell (p := ⟨wr.heap.size, 1, none⟩) hbs _⟩
      case rest =>
        obtain ⟨V, v5, rfl, rfl, HV, HST, hbc⟩ := hcut
        have d0' : wc.cell? ⟨g0, k, none⟩ = some (.int .i64 a) := (HST.out.r.1.cell (i := k) (by omega)).trans (by rw [HX.out.1])
        clear HMS hbel hbs d0 d1 d2
        go_wp2_with fail
        refine (best_any g0 g1 g2 l0 l1 l2 k a fa fb fv wc (by omega) (by omega) (by omega) (by omega) HST.out.r ⟨k, by omega, HX.out.1⟩).mono ?_
        rintro e w6 ⟨tb, tv, rfl, hB6, b6⟩
        obtain ⟨rfl, rfl⟩ := isB_same HBK.out hB6
        go_upto_region 19 with fail
        have bB : Below w6.heap.size w6 (w6.alloc (.cells #[.int .i64 rb, .int .i64 rv] 30)) := (Below.refl _ _).alloc (Nat.le_refl _) _
        have b7 : Below wc.heap.size wc (w6.alloc (.cells #[.int .i64 rb, .int .i64 rv] 30)) := b6.trans (bB.mono b6.size)
        have HST7 : Hid (TSt (w6.alloc (.cells #[.int .i64 rb, .int .i64 rv] 30)) w.heap.size T g0 g1 g2 l0 l1 l2 fa fb fv v5 R1) := HST.out.below b7
        have HV7 : Hid ((w6.alloc (.cells #[.int .i64 rb, .int .i64 rv] 30)).heap[V]? = some (.cells #[.int .i64 rb, .int .i64 rv] 30 (0, 0))) := (b7.block _ (block_lt HV.out)).trans HV.out
        have HW7 : Hid ((w6.alloc (.cells #[.int .i64 rb, .int .i64 rv] 30)).heap[w6.heap.size]? = some (.cells #[.int .i64 rb, .int .i64 rv] 30 (0, 0))) := heap_alloc_new _ _
        have hb7 : Below w.heap.size w (w6.alloc (.cells #[.int .i64 rb, .int .i64 rv] 30)) := hbc.trans (b7.mono hbc.size)
        clear bB b7 HST HV hbc b6 d0' hB6
        generalize (w6.alloc (.cells #[.int .i64 rb, .int .i64 rv] 30)) = w7 at HST7 HV7 HW7 hb7 ⊢
        generalize w6.heap.size = Y at HW7 ⊢
        have e0 : w7.cell? ⟨V, 0, none⟩ = some (.int .i64 rb) := block_cell HV7.out 0
        have e1 : w7.cell? ⟨V, 1, none⟩ = some (.int .i64 rv) := block_cell HV7.out 1
        have i0 : w7.cell? ⟨Y, 0, none⟩ = some (.int .i64 rb) := block_cell HW7.out 0
        have i1 : w7.cell? ⟨Y, 1, none⟩ = some (.int .i64 rv) := block_cell HW7.out 1
        have kq := neq_vote rb rv rb rv
        have kq2 : (rb == rb && rv == rv) = true := by simp
        rw [kq2] at kq
        clear kq2
        go_wp2_with fail
        clear e0 e1 i0 i1 kq
        go_loopg [15, 16] (k + 1) (fun gk s15 s16 wx => ∃ (i : Nat), i ≤ k + 1 ∧ gk = k + 1 - i ∧ s15 = .int .i64 ((FL fa i).countP (bears R1 rb rv) : Nat) ∧ s16 = .int .i64 i ∧ Below w7.heap.size w7 wx)
        case atStart => exact ⟨0, Nat.zero_le _, rfl, rfl, rfl, Below.refl _ _⟩
        case round =>
          obtain ⟨i, hi, rfl, rfl, rfl, hbx⟩ := hrel
          have hcl := FL_count_le fa (bears R1 rb rv) i
          by_cases hik : i ≤ k
          · have y0 : (0 : Int) ≤ (i : Int) := by omega
            have y1 : (i : Int) ≤ (k : Int) := by omega
            have y2 : (i : Int) < (l0 : Int) := by omega
            have HC1 : Hid ((FL fa (i + 1)).countP (bears R1 rb rv) = (FL fa i).countP (bears R1 rb rv) + if (isFirst fa i && bears R1 rb rv (fa i)) = true then 1 else 0) := FL_count fa _ i
            have HST8 : Hid (TSt wr w.heap.size T g0 g1 g2 l0 l1 l2 fa fb fv v5 R1) := HST7.out.below hbx
            generalize (FL fa i).countP (bears R1 rb rv) = cn at hcl HC1 ⊢
            go_wp2_with fail
            refine (first_any g0 l0 i fa wr (by omega) (by omega) HST8.out.r.1).mono ?_
            rintro e w' ⟨rfl, m, rfl⟩
            have hby : Below w7.heap.size w7 (wr.drewN m) := hbx.trans (below_drewN.mono hbx.size)
            have HR9 : Hid (Rows3 (wr.drewN m).drew g0 g1 g2 l0 l1 l2 fa fb fv) := HST8.out.r
            generalize wr.drewN m = wy at hby HR9 ⊢
            clear hbx HST8
            by_cases hf : isFirst fa i = true
            · rw [hf]
              have c0 : wy.cell? ⟨g0, i, none⟩ = some (.int .i64 (fa i)) := HR9.out.1.cell (i := i) (by omega)
              have i0 : wy.cell? ⟨Y, 0, none⟩ = some (.int .i64 rb) := (hby.cell (by exact block_lt HW7.out)).trans (block_cell HW7.out 0)
              have i1 : wy.cell? ⟨Y, 1, none⟩ = some (.int .i64 rv) := (hby.cell (by exact block_lt HW7.out)).trans (block_cell HW7.out 1)
              have gl : g0 < wy.heap.size := HR9.out.1.lt
              have Yl : Y < wy.heap.size := Nat.lt_of_lt_of_le (block_lt HW7.out) hby.size
              have HEX : Hid (∃ j, j < k + 1 ∧ fa j = fa i) := ⟨i, by omega, rfl⟩
              have HRB : Hid (∀ tb tv, IsB fa fb fv (k + 1) (fa i) tb tv → bears R1 rb rv (fa i) = (tb == rb && tv == rv)) := fun tb tv h => repB_bears HM1.out (by omega) h rb rv
              go_wp2_with fail
              go_region_held3 (fun w' => w'.cell? ⟨g0, i, none⟩ = some (.int .i64 (fa i)) ∧ w'.cell? ⟨Y, 0, none⟩ = some (.int .i64 rb) ∧ w'.cell? ⟨Y, 1, none⟩ = some (.int .i64 rv)) (first | exact ⟨p1, p2, p3⟩ | go_keep)
                ((go_at_call 16; refine (best_any g0 g1 g2 l0 l1 l2 k (fa i) fa fb fv wy.drew (by omega) (by omega) (by omega) (by omega) HR9.out HEX.out).mono ?_; rintro e w8 ⟨tb, tv, rfl, hB8, b8⟩
                  have p1 : w8.cell? ⟨g0, i, none⟩ = some (.int .i64 (fa i)) := (b8.cell (by exact gl)).trans c0
                  have p2 : w8.cell? ⟨Y, 0, none⟩ = some (.int .i64 rb) := (b8.cell (by exact Yl)).trans i0
                  have p3 : w8.cell? ⟨Y, 1, none⟩ = some (.int .i64 rv) := (b8.cell (by exact Yl)).trans i1
                  obtain ⟨ee, hee⟩ : ∃ ee, (tb == rb && tv == rv) = ee := ⟨_, rfl⟩
                  have kq := eql_vote tb tv rb rv
                  rw [hee] at kq
                  have HEE : Hid ((tb == rb && tv == rv) = ee) := hee
                  clear hee))
              have hbz : Below w7.heap.size w7 w8 := hby.drew.trans (b8.mono hby.size)
              have HBE := HRB.out tb tv hB8
              have HC2 : Hid ((FL fa (i + 1)).countP (bears R1 rb rv) = cn + if (tb == rb && tv == rv) = true then 1 else 0) := by
                have := HC1.out
                rw [hf, HBE, Bool.true_and] at this
                exact this
              clear HBE HC1
              cases ee with
              | true =>
                go_wp2
                go_roundg (k + 1 - (i + 1))
                case measure => omega
                case rel => exact ⟨i + 1, by omega, rfl, by rw [HC2.out, if_pos HEE.out]; go_num, by go_num, hbz⟩
              | false =>
                have hx : Hid (¬ (tb == rb && tv == rv) = true) := by rw [HEE.out]; exact Bool.false_ne_true
                go_wp2
                go_roundg (k + 1 - (i + 1))
                case measure => omega
                case rel => exact ⟨i + 1, by omega, rfl, by rw [HC2.out, if_neg hx.out]; rfl, by go_num, hbz⟩
            · have hf0 : isFirst fa i = false := by simpa using hf
              rw [hf0]
              have HC2 : Hid ((FL fa (i + 1)).countP (bears R1 rb rv) = cn) := by
                have := HC1.out
                rw [hf0, Bool.false_and] at this
                exact this
              clear HC1
              go_wp2
              go_roundg (k + 1 - (i + 1))
              case measure => omega
              case rel => exact ⟨i + 1, by omega, rfl, by rw [HC2.out], by go_num, hby⟩
          · obtain rfl : i = k + 1 := by omega
            have e2 : ¬ ((k : Int) + 1 ≤ (k : Int)) := by omega
            have HSX : Hid (TSt wr w.heap.size T g0 g1 g2 l0 l1 l2 fa fb fv v5 R1) := HST7.out.below hbx
            have hbX : Below w.heap.size w wr := hb7.trans (hbx.mono hb7.size)
            have hce := count_bears HM1.out rb rv
            rw [← hce]
            rw [← hce] at hcl
            have hok : (ok == decide (q ≤ (cntR R1 rb rv : Int))) = true := by rw [HOK.out]; simp
            clear hce hi hik
            generalize cntR R1 rb rv = cn at hcl hok ⊢
            go_wp2
            go_roundg (n - (k + 1))
            case measure => omega
            case rel => exact ⟨k + 1, v5, R1, by omega, rfl, by go_num, ⟨HSX.out.t, HM1.out⟩, ⟨fun _ => ⟨g0, rfl, hg0, HSX.out.r.1⟩, fun _ => ⟨g1, rfl, hg1, HSX.out.r.2.1⟩, fun _ => ⟨g2, rfl, hg2, HSX.out.r.2.2⟩⟩, hbX⟩
    · obtain rfl : n = k := by omega
      go_wp2
      go_ret
      exact ⟨rfl, hbel⟩

end Go.Proofs.Qxb6600353a
