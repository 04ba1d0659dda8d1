/-
  Seat b6600353a. FnRecoveryPromiseAgainstModel (function 6): the walk.
-/
import Derived.Test.Qxb6600353aModPlain
import Derived.Deep.RegionHeld3
import Derived.BigQuiet
namespace Go.Proofs.Qxb6600353a
open Go.RowKit Go.Maps

set_option maxRecDepth 100000 in
theorem mod_bytes_yes (bal q : Int) (a0 a1 a2 : Option Addr) (l0 c0 l1 c1 l2 c2 : Nat) (w : World) (h : l0 + l1 + l2 ≤ 1048576) :
    Calls Try.prog 19 #[.int .i64 bal, .slice a0 l0 c0, .slice a1 l1 c1, .slice a2 l2 c2, .int .i64 q] w fun e w' => e = .returned (.bool true) ∧ w' = w := by
  have h0 : ¬ (1048576 : Int) < (l0 : Int) := by omega
  have h1 : ¬ (1048576 : Int) < (l1 : Int) := by omega
  have h2 : ¬ (1048576 : Int) < (l0 : Int) + (l1 : Int) := by omega
  have h3 : ¬ (1048576 : Int) < (l2 : Int) := by omega
  have h4 : ¬ (1048576 : Int) < (l0 : Int) + (l1 : Int) + (l2 : Int) := by omega
  go_enter Try.func19, Try.ntmps19
  go_wp2
  go_ret
  exact ⟨rfl, rfl⟩

set_option maxRecDepth 100000 in
/-- A slice too long: the law answers true at once. -/
theorem mod_great (bal q : Int) (a0 a1 a2 : Option Addr) (l0 c0 l1 c1 l2 c2 : Nat) (w : World) (m0 : l0 ≤ 9223372036854775807) (m1 : l1 ≤ 9223372036854775807) (m2 : l2 ≤ 9223372036854775807) (h : ¬ (l0 ≤ 256 ∧ l1 ≤ 256 ∧ l2 ≤ 256)) :
    Calls Try.prog 6 #[.int .i64 bal, .slice a0 l0 c0, .slice a1 l1 c1, .slice a2 l2 c2, .int .i64 q] w fun e w' => e = .returned (.bool true) ∧ w' = w := by
  by_cases t0 : (1048576 : Int) < (l0 : Int)
  · go_enter Try.func6, Try.ntmps6
    go_wp2
    go_ret
    exact ⟨rfl, rfl⟩
  · have _t := trivial
    by_cases t1 : (1048576 : Int) < (l1 : Int)
    · go_enter Try.func6, Try.ntmps6
      go_wp2
      go_ret
      exact ⟨rfl, rfl⟩
    · have _t := trivial
      by_cases t2 : (1048576 : Int) < (l0 : Int) + (l1 : Int)
      · go_enter Try.func6, Try.ntmps6
        go_wp2
        go_ret
        exact ⟨rfl, rfl⟩
      · have _t := trivial
        by_cases t3 : (1048576 : Int) < (l2 : Int)
        · go_enter Try.func6, Try.ntmps6
          go_wp2
          go_ret
          exact ⟨rfl, rfl⟩
        · have _t := trivial
          by_cases t4 : (1048576 : Int) < (l0 : Int) + (l1 : Int) + (l2 : Int)
          · go_enter Try.func6, Try.ntmps6
            go_wp2
            go_ret
            exact ⟨rfl, rfl⟩
          · have _t := trivial
            by_cases t5 : (256 : Int) < (l0 : Int)
            · go_enter Try.func6, Try.ntmps6
              go_wp2
              go_ret
              exact ⟨rfl, rfl⟩
            · have _t := trivial
              by_cases t6 : (256 : Int) < (l1 : Int)
              · go_enter Try.func6, Try.ntmps6
                go_wp2
                go_ret
                exact ⟨rfl, rfl⟩
              · have _t := trivial
                have t9 : (256 : Int) < (l2 : Int) := by omega
                go_enter Try.func6, Try.ntmps6
                go_wp2
                go_ret
                exact ⟨rfl, rfl⟩

theorem kind_ne {w : World} {k V : Nat} {cs cs' : Array Value} {t t' : TypeId} {fr fr' : Nat × Nat} (h : w.heap[k]? = some (.cells cs t fr)) (h' : w.heap[V]? = some (.cells cs' t' fr')) (ht : t ≠ t') : k ≠ V := fun e => by
  rw [e, h'] at h
  injection h with h
  injection h with _ h2
  exact ht h2.symm

/-- The state of the law's Recovery and rows. -/
structure ModSt (w : World) (B F g0 g1 g2 l0 l1 l2 : Nat) (bal : Int) (fa fb fv : Nat → Int) (mb : Option Nat) (n : Nat) (D : DataW Unit) : Prop where
  ra : RecAt w F bal mb n D
  low : ∀ b, mb = some b → B ≤ b
  r0 : w.rowIs g0 3 l0 (fun j => .int .i64 (fa j))
  r1 : w.rowIs g1 2 l1 (fun j => .int .i64 (fb j))
  r2 : w.rowIs g2 3 l2 (fun j => .int .i64 (fv j))

section
variable {w w' : World} {B F g0 g1 g2 l0 l1 l2 : Nat} {bal : Int} {fa fb fv : Nat → Int} {mb mb' : Option Nat} {n n' : Nat} {D D' : DataW Unit}

theorem ModSt.same (h : ModSt w B F g0 g1 g2 l0 l1 l2 bal fa fb fv mb n D) (hb : ∀ k, k < w.heap.size → w'.heap[k]? = w.heap[k]?) : ModSt w' B F g0 g1 g2 l0 l1 l2 bal fa fb fv mb n D :=
  ⟨recAt_keep h.ra (hb _ (block_lt h.ra.1)) (fun b e => hb b (recAt_lt h.ra e)), h.low, h.r0.of_block (hb _ h.r0.lt), h.r1.of_block (hb _ h.r1.lt), h.r2.of_block (hb _ h.r2.lt)⟩

theorem ModSt.below (h : ModSt w B F g0 g1 g2 l0 l1 l2 bal fa fb fv mb n D) (hb : Below w.heap.size w w') : ModSt w' B F g0 g1 g2 l0 l1 l2 bal fa fb fv mb n D := h.same hb.block

theorem turn_kind (h : RecAt w F bal mb n D) (hT : Turn w w' F mb mb') {k : Nat} {cs : Array Value} {t : TypeId} {fr : Nat × Nat} (hk : w.heap[k]? = some (.cells cs t fr)) (ht : t ≠ 48) : w'.heap[k]? = some (.cells cs t fr) :=
  (hT.block k (block_lt hk) (kind_ne hk h.1 ht) (recAt_ne h hk)).trans hk

theorem turn_row (h : RecAt w F bal mb n D) (hT : Turn w w' F mb mb') {g l : Nat} {t : TypeId} {f : Nat → Value} (hr : w.rowIs g t l f) (ht : t ≠ 48) : w'.rowIs g t l f := by
  obtain ⟨c, hc, h1, h2⟩ := hr
  exact ⟨c, turn_kind h hT hc ht, h1, h2⟩

theorem ModSt.turn (h : ModSt w B F g0 g1 g2 l0 l1 l2 bal fa fb fv mb n D) (hT : Turn w w' F mb mb') (hr : RecAt w' F bal mb' n' D') (hB : B ≤ w.heap.size) : ModSt w' B F g0 g1 g2 l0 l1 l2 bal fa fb fv mb' n' D' :=
  ⟨hr, fun b e => by rcases hT.made b e with h1 | h1
                     · exact h.low b h1
                     · omega, turn_row h.ra hT h.r0 (by decide), turn_row h.ra hT h.r1 (by decide), turn_row h.ra hT h.r2 (by decide)⟩

theorem ModSt.set2 (h : ModSt w B F g0 g1 g2 l0 l1 l2 bal fa fb fv mb n D) {V : Nat} {cs : Array Value} (hV : w.heap[V]? = some (.cells cs 30 (0, 0))) (u v : Value) : ModSt ((w.setCell ⟨V, 0, none⟩ u).setCell ⟨V, 1, none⟩ v) B F g0 g1 g2 l0 l1 l2 bal fa fb fv mb n D := by
  have m : ∀ {k : Nat}, k ≠ V → ((w.setCell ⟨V, 0, none⟩ u).setCell ⟨V, 1, none⟩ v).heap[k]? = w.heap[k]? := fun hk => heap_set2 _ _ _ _ hk
  obtain ⟨c0, e0, x0⟩ := h.r0
  obtain ⟨c1, e1, x1⟩ := h.r1
  obtain ⟨c2, e2, x2⟩ := h.r2
  exact ⟨recAt_keep h.ra (m (kind_ne h.ra.1 hV (by decide))) (fun b e => m (fun e' => recAt_ne h.ra hV (by rw [← e']; exact e))), h.low, ⟨c0, (m (kind_ne e0 hV (by decide))).trans e0, x0⟩, ⟨c1, (m (kind_ne e1 hV (by decide))).trans e1, x1⟩, ⟨c2, (m (kind_ne e2 hV (by decide))).trans e2, x2⟩⟩
end

/-- A call of Promise with all that the law keeps. -/
theorem promise_at {wr W : World} {B F g0 g1 g2 l0 l1 l2 : Nat} {bal : Int} {fa fb fv : Nat → Int} {mb : Option Nat} {n : Nat} {D : DataW Unit} (w0 : World) (a b x q : Int) (h : ModSt wr B F g0 g1 g2 l0 l1 l2 bal fa fb fv mb n D) (hW : Below wr.heap.size wr W) (h0 : Below B w0 wr) (hB : B ≤ wr.heap.size) (hF : B ≤ F) (hn : n < 1000000) (ha : (Lit.int .i64 a).wf = true) :
    Calls Try.prog 20 #[.pointer (some ⟨F, 0, none⟩), .int .i64 a, .agg #[.int .i64 b, .int .i64 x], .int .i64 q] W fun e w5 => ∃ rb rv ok mb', e = .returned (.tuple #[.agg #[.int .i64 rb, .int .i64 rv], .bool ok]) ∧
      Ans (D.put (.int .i64 a) (voteD b x)) bal q rb rv ok ∧ ModSt w5 B F g0 g1 g2 l0 l1 l2 bal fa fb fv mb' (n + 1) (D.put (.int .i64 a) (voteD b x)) ∧ Below B w0 w5 ∧ B ≤ w5.heap.size ∧ (∀ (k : Nat) (cs : Array Value) (fr : Nat × Nat), W.heap[k]? = some (.cells cs 30 fr) → w5.heap[k]? = some (.cells cs 30 fr)) := by
  have h1 := h.below hW
  refine (promise_core F bal a b x q mb n D _ W h1.ra hn ha rfl).mono ?_
  rintro e w5 ⟨rb, rv, ok, mb', rfl, hans, hrec, hturn⟩
  have hBW : B ≤ W.heap.size := Nat.le_trans hB hW.size
  exact ⟨rb, rv, ok, mb', rfl, hans, h1.turn hturn hrec hBW, turn_below (h0.trans (hW.mono hB)) hturn hF h1.low hBW, Nat.le_trans hBW hturn.size, fun k cs fr hk => turn_kind h1.ra hturn hk (by decide)⟩

theorem wf_getD {zs : List Int} (h : ∀ n ∈ zs, (Lit.int .i64 n).wf = true) (j : Nat) : (Lit.int .i64 (zs.getD j 0)).wf = true := by
  by_cases hj : j < zs.length
  · have : zs.getD j 0 = zs[j] := by simp [List.getD, hj]
    rw [this]; exact h _ (List.getElem_mem hj)
  · have : zs.getD j 0 = 0 := by simp [List.getD, hj]
    rw [this]; decide

theorem lay1 (w : World) (o : Obj) : Below w.heap.size w (w.alloc o).drew := ((Below.refl _ _).alloc (Nat.le_refl _) _).drew
theorem lay2 (w : World) (o o' : Obj) : Below w.heap.size w ((w.alloc o).alloc o').drew := (((Below.refl _ _).alloc (Nat.le_refl _) _).alloc (by simp) _).drew
theorem lay2_cells (w : World) (o o' : Obj) : ((w.alloc o).alloc o').drew.heap[w.heap.size]? = some o ∧ ((w.alloc o).alloc o').drew.heap[w.heap.size + 1]? = some o' := by
  have e : (w.alloc o).heap.size = w.heap.size + 1 := by simp
  refine ⟨?_, ?_⟩
  · show ((w.alloc o).alloc o').heap[w.heap.size]? = _
    rw [Below.heap_alloc _ _ _ (by omega)]
    exact heap_alloc_new _ _
  · show ((w.alloc o).alloc o').heap[w.heap.size + 1]? = _
    rw [← e]
    exact heap_alloc_new _ _
theorem mod_drewN {w : World} {n : Nat} : Below w.heap.size w (w.drewN n) := ⟨rfl, rfl, rfl, Nat.le_refl _, fun _ _ => rfl⟩

set_option maxRecDepth 100000 in
set_option maxHeartbeats 6400000 in
theorem mod_main (bal q : Int) (a0 a1 a2 : Option Addr) (l0 c0 l1 c1 l2 c2 : Nat) (fa fb fv : Nat → Int) (w : World) (h0 : l0 ≤ 256) (h1 : l1 ≤ 256) (h2 : l2 ≤ 256) (s0 : Src w a0 l0 c0 fa) (s1 : Src w a1 l1 c1 fb) (s2 : Src w a2 l2 c2 fv) (hwf : ∀ j, (Lit.int .i64 (fa j)).wf = true) :
    Calls Try.prog 6 #[.int .i64 bal, .slice a0 l0 c0, .slice a1 l1 c1, .slice a2 l2 c2, .int .i64 q] w fun e w' => e = .returned (.bool true) ∧ Below w.heap.size w w' := by
  have q0 : decide ((256 : Int) < (l0 : Int)) = false := decide_eq_false (by omega)
  have q1 : decide ((256 : Int) < (l1 : Int)) = false := decide_eq_false (by omega)
  have q2 : decide ((256 : Int) < (l2 : Int)) = false := decide_eq_false (by omega)
  have HS0 : Hid (Src w a0 l0 c0 fa) := s0
  have HS1 : Hid (Src w a1 l1 c1 fb) := s1
  have HS2 : Hid (Src w a2 l2 c2 fv) := s2
  have HWF : Hid (∀ j, (Lit.int .i64 (fa j)).wf = true) := hwf
  clear s0 s1 s2 hwf
  go_enter Try.func6, Try.ntmps6
  go_wp2_with fail
  refine (mod_bytes_yes bal q a0 a1 a2 l0 c0 l1 c1 l2 c2 w (by omega)).mono ?_
  rintro e w' ⟨rfl, hw⟩
  obtain rfl := hw.symm
  clear hw
  go_wp2_with fail
  refine (cloneInt_any a0 l0 c0 fa w (by omega) HS0.out).mono ?_
  rintro e w1 ⟨a0', rfl, o0, b1⟩
  go_wp2_with fail
  refine (cloneI64_any a1 l1 c1 fb w1 (by omega) (HS1.out.below b1)).mono ?_
  rintro e w2 ⟨a1', rfl, o1, b2⟩
  have b2' : Below w.heap.size w w2 := b1.trans (b2.mono b1.size)
  go_wp2_with fail
  refine (cloneInt_any a2 l2 c2 fv w2 (by omega) (HS2.out.below b2')).mono ?_
  rintro e w3 ⟨a2', rfl, o2, b3⟩
  have O0 : Own w.heap.size w3 3 a0' l0 fa := (o0.below b2).below b3
  have O1 : Own w.heap.size w3 2 a1' l1 fb := Own.below (fun h => by obtain ⟨g, e1, e2, e3⟩ := o1 h; exact ⟨g, e1, Nat.le_trans b1.size e2, e3⟩) b3
  have O2 : Own w.heap.size w3 3 a2' l2 fv := fun h => by obtain ⟨g, e1, e2, e3⟩ := o2 h; exact ⟨g, e1, Nat.le_trans b2'.size e2, e3⟩
  have hb3 : Below w.heap.size w w3 := b2'.trans (b3.mono b2'.size)
  have bA : Below w3.heap.size w3 (w3.alloc (.cells #[.int .i64 bal, .map none] 48)) := (Below.refl _ _).alloc (Nat.le_refl _) _
  have HRA : Hid (RecAt (w3.alloc (.cells #[.int .i64 bal, .map none] 48)) w3.heap.size bal none 0 (.map [])) := ⟨heap_alloc_new _ _, fun _ => rfl, fun b hb => by cases hb⟩
  have HO : Hid (Own w.heap.size (w3.alloc (.cells #[.int .i64 bal, .map none] 48)) 3 a0' l0 fa ∧ Own w.heap.size (w3.alloc (.cells #[.int .i64 bal, .map none] 48)) 2 a1' l1 fb ∧ Own w.heap.size (w3.alloc (.cells #[.int .i64 bal, .map none] 48)) 3 a2' l2 fv) := ⟨O0.below bA, O1.below bA, O2.below bA⟩
  have hb4 : Below w.heap.size w (w3.alloc (.cells #[.int .i64 bal, .map none] 48)) := hb3.trans (bA.mono hb3.size)
  have hFB : w.heap.size ≤ w3.heap.size := hb3.size
  clear o0 o1 o2 b1 b2 b3 b2' O0 O1 O2 hb3 bA HS0 HS1 HS2
  go_wp2_with fail
  refine (min3_any l0 l1 l2 _).mono ?_
  rintro e w' ⟨n, rfl, n0, n1, n2, hw⟩
  obtain rfl := hw.symm
  clear hw
  go_wp2
  generalize (w3.alloc (.cells #[.int .i64 bal, .map none] 48)) = w5 at HRA HO hb4 ⊢
  generalize w3.heap.size = F at HRA hFB ⊢
  clear w1 w2 w3
  go_loopg [13] n (fun gk i wr => ∃ (k : Nat) (mb : Option Nat) (D : DataW Unit), k ≤ n ∧ gk = n - k ∧ i = .int .i64 k ∧ Hid (RecAt wr F bal mb k D ∧ (∀ b, mb = some b → w.heap.size ≤ b) ∧ Mod D fa fb fv k) ∧ Hid (Own w.heap.size wr 3 a0' l0 fa ∧ Own w.heap.size wr 2 a1' l1 fb ∧ Own w.heap.size wr 3 a2' l2 fv) ∧ Below w.heap.size w wr)
  case atStart => exact ⟨0, none, _, Nat.zero_le _, rfl, rfl, ⟨HRA.out, fun b hb => (by cases hb), mod_start fa fb fv⟩, HO, hb4⟩
  case round =>
    clear HRA HO hb4
    obtain ⟨k, mb, D, hk, rfl, rfl, hM, hO, hbel⟩ := hrel
    by_cases hlt : k < n
    · obtain ⟨g0, rfl, hg0, r0⟩ := hO.out.1 (by omega)
      obtain ⟨g1, rfl, hg1, r1⟩ := hO.out.2.1 (by omega)
      obtain ⟨g2, rfl, hg2, r2⟩ := hO.out.2.2 (by omega)
      have d0 : wr.cell? ⟨g0, k, none⟩ = some (.int .i64 (fa k)) := r0.cell (i := k) (by omega)
      have d1 : wr.cell? ⟨g1, k, none⟩ = some (.int .i64 (fb k)) := r1.cell (i := k) (by omega)
      have d2 : wr.cell? ⟨g2, k, none⟩ = some (.int .i64 (fv k)) := r2.cell (i := k) (by omega)
      have HMS : Hid (ModSt wr w.heap.size F g0 g1 g2 l0 l1 l2 bal fa fb fv mb k D) := ⟨hM.out.1, hM.out.2.1, r0, r1, r2⟩
      have HM1 : Hid (Mod (D.put (.int .i64 (fa k)) (voteD (fb k) (fv k))) fa fb fv (k + 1)) := mod_step hM.out.2.2
      have awf : Hid ((Lit.int .i64 (fa k)).wf = true) := HWF.out k
      clear r0 r1 r2 hO hM
      obtain ⟨a, hka⟩ : ∃ a, fa k = a := ⟨_, rfl⟩
      obtain ⟨b, hkb⟩ : ∃ b, fb k = b := ⟨_, rfl⟩
      obtain ⟨x, hkx⟩ : ∃ x, fv k = x := ⟨_, rfl⟩
      have HX : Hid (fa k = a ∧ fb k = b ∧ fv k = x) := ⟨hka, hkb, hkx⟩
      rw [hka] at d0 HM1 awf
      rw [hkb] at d1 HM1
      rw [hkx] at d2 HM1
      clear hka hkb hkx
      have z0 : (0 : Int) ≤ (k : Int) := by omega
      have z1 : (k : Int) < (n : Int) := by omega
      have z2 : (k : Int) < (l0 : Int) := by omega
      have z3 : (k : Int) < (l1 : Int) := by omega
      have z4 : (k : Int) < (l2 : Int) := by omega
      have hbs := hbel.size
      go_upto_region 17 with fail
      go_cut [14, 15] (fun s14 s15 wc => ∃ (V : Nat) (ok : Bool) (mb' : Option Nat) (rb rv : Int), s14 = .pointer (some ⟨V, 0, none⟩) ∧ s15 = .bool ok ∧ Hid (wc.heap[V]? = some (.cells #[.int .i64 rb, .int .i64 rv] 30 (0, 0))) ∧ Hid (ModSt wc w.heap.size F g0 g1 g2 l0 l1 l2 bal fa fb fv mb' (k + 1) (D.put (.int .i64 a) (voteD b x))) ∧ Hid (Ans (D.put (.int .i64 a) (voteD b x)) bal q rb rv ok) ∧ Below w.heap.size w wc)
      case first =>
        go_region_held3 (fun w' => w'.cell? ⟨g0, k, none⟩ = some (.int .i64 a) ∧ w'.cell? ⟨g1, k, none⟩ = some (.int .i64 b) ∧ w'.cell? ⟨g2, k, none⟩ = some (.int .i64 x))
          (first | exact ⟨p1, p2, p3⟩ | exact ⟨m1, m2, m3⟩ | go_keep)
          (first
            | (go_at_call 11; refine (vote_any _ _ _).mono ?_; rintro e w' ⟨rfl, rfl⟩)
            | (go_at_call 20; refine (promise_at w a b x q HMS.out (lay1 wr _) hbel hbs hFB (by omega) awf.out).mono ?_; rintro e w5 ⟨rb, rv, ok, mb', rfl, hans, hst, hb5, hs5, hkeep⟩
               have p1 : w5.cell? ⟨g0, k, none⟩ = some (.int .i64 a) := (hst.r0.cell (i := k) (by omega)).trans (by rw [HX.out.1])
               have p2 : w5.cell? ⟨g1, k, none⟩ = some (.int .i64 b) := (hst.r1.cell (i := k) (by omega)).trans (by rw [HX.out.2.1])
               have p3 : w5.cell? ⟨g2, k, none⟩ = some (.int .i64 x) := (hst.r2.cell (i := k) (by omega)).trans (by rw [HX.out.2.2]))
            | (go_at_call 20; refine (promise_at w a b x q HMS.out (lay2 wr (.cells #[.int .i64 b, .int .i64 x] 30) (.cells #[.int .i64 0, .int .i64 0] 30)) hbel hbs hFB (by omega) awf.out).mono ?_; rintro e w5 ⟨rb, rv, ok, mb', rfl, hans, hst, hb5, hs5, hkeep⟩
               have p1 : w5.cell? ⟨g0, k, none⟩ = some (.int .i64 a) := (hst.r0.cell (i := k) (by omega)).trans (by rw [HX.out.1])
               have p2 : w5.cell? ⟨g1, k, none⟩ = some (.int .i64 b) := (hst.r1.cell (i := k) (by omega)).trans (by rw [HX.out.2.1])
               have p3 : w5.cell? ⟨g2, k, none⟩ = some (.int .i64 x) := (hst.r2.cell (i := k) (by omega)).trans (by rw [HX.out.2.2])
               have hv : w5.heap[wr.heap.size + 1]? = some (.cells #[.int .i64 0, .int .i64 0] 30 (0, 0)) := hkeep _ _ _ (lay2_cells wr (.cells #[.int .i64 b, .int .i64 x] 30) (.cells #[.int .i64 0, .int .i64 0] 30)).2
               have p4 : w5.cell? ⟨wr.heap.size + 1, 0, none⟩ = some (.int .i64 0) := block_cell hv 0
               have p5 : w5.cell? ⟨wr.heap.size + 1, 1, none⟩ = some (.int .i64 0) := block_cell hv 1
               have p6 : w5.frozen? ⟨wr.heap.size + 1, 0, none⟩ = false := block_free hv 0
               have p7 : w5.frozen? ⟨wr.heap.size + 1, 1, none⟩ = false := block_free hv 1
               have HV5 : Hid (w5.heap[wr.heap.size + 1]? = some (.cells #[.int .i64 0, .int .i64 0] 30 (0, 0))) := hv
               have hs2 := hst.set2 hv (.int .i64 rb) (.int .i64 rv)
               have m1 : ((w5.setCell ⟨wr.heap.size + 1, 0, none⟩ (.int .i64 rb)).setCell ⟨wr.heap.size + 1, 1, none⟩ (.int .i64 rv)).cell? ⟨g0, k, none⟩ = some (.int .i64 a) := (hs2.r0.cell (i := k) (by omega)).trans (by rw [HX.out.1])
               have m2 : ((w5.setCell ⟨wr.heap.size + 1, 0, none⟩ (.int .i64 rb)).setCell ⟨wr.heap.size + 1, 1, none⟩ (.int .i64 rv)).cell? ⟨g1, k, none⟩ = some (.int .i64 b) := (hs2.r1.cell (i := k) (by omega)).trans (by rw [HX.out.2.1])
               have m3 : ((w5.setCell ⟨wr.heap.size + 1, 0, none⟩ (.int .i64 rb)).setCell ⟨wr.heap.size + 1, 1, none⟩ (.int .i64 rv)).cell? ⟨g2, k, none⟩ = some (.int .i64 x) := (hs2.r2.cell (i := k) (by omega)).trans (by rw [HX.out.2.2])
               have HS2 : Hid (ModSt ((w5.setCell ⟨wr.heap.size + 1, 0, none⟩ (.int .i64 rb)).setCell ⟨wr.heap.size + 1, 1, none⟩ (.int .i64 rv)) w.heap.size F g0 g1 g2 l0 l1 l2 bal fa fb fv mb' (k + 1) (D.put (.int .i64 a) (voteD b x))) := hs2
               clear hv hs2)
            | (go_at_call 20; refine (promise_at w a b x q HMS.out (lay2 wr (.cells #[.int .i64 0, .int .i64 0] 30) (.cells #[.int .i64 b, .int .i64 x] 30)) hbel hbs hFB (by omega) awf.out).mono ?_; rintro e w5 ⟨rb, rv, ok, mb', rfl, hans, hst, hb5, hs5, hkeep⟩
               have p1 : w5.cell? ⟨g0, k, none⟩ = some (.int .i64 a) := (hst.r0.cell (i := k) (by omega)).trans (by rw [HX.out.1])
               have p2 : w5.cell? ⟨g1, k, none⟩ = some (.int .i64 b) := (hst.r1.cell (i := k) (by omega)).trans (by rw [HX.out.2.1])
               have p3 : w5.cell? ⟨g2, k, none⟩ = some (.int .i64 x) := (hst.r2.cell (i := k) (by omega)).trans (by rw [HX.out.2.2])
               have hv : w5.heap[wr.heap.size]? = some (.cells #[.int .i64 0, .int .i64 0] 30 (0, 0)) := hkeep _ _ _ (lay2_cells wr (.cells #[.int .i64 0, .int .i64 0] 30) (.cells #[.int .i64 b, .int .i64 x] 30)).1
               have p4 : w5.cell? ⟨wr.heap.size, 0, none⟩ = some (.int .i64 0) := block_cell hv 0
               have p5 : w5.cell? ⟨wr.heap.size, 1, none⟩ = some (.int .i64 0) := block_cell hv 1
               have p6 : w5.frozen? ⟨wr.heap.size, 0, none⟩ = false := block_free hv 0
               have p7 : w5.frozen? ⟨wr.heap.size, 1, none⟩ = false := block_free hv 1
               have HV5 : Hid (w5.heap[wr.heap.size]? = some (.cells #[.int .i64 0, .int .i64 0] 30 (0, 0))) := hv
               have hs2 := hst.set2 hv (.int .i64 rb) (.int .i64 rv)
               have m1 : ((w5.setCell ⟨wr.heap.size, 0, none⟩ (.int .i64 rb)).setCell ⟨wr.heap.size, 1, none⟩ (.int .i64 rv)).cell? ⟨g0, k, none⟩ = some (.int .i64 a) := (hs2.r0.cell (i := k) (by omega)).trans (by rw [HX.out.1])
               have m2 : ((w5.setCell ⟨wr.heap.size, 0, none⟩ (.int .i64 rb)).setCell ⟨wr.heap.size, 1, none⟩ (.int .i64 rv)).cell? ⟨g1, k, none⟩ = some (.int .i64 b) := (hs2.r1.cell (i := k) (by omega)).trans (by rw [HX.out.2.1])
               have m3 : ((w5.setCell ⟨wr.heap.size, 0, none⟩ (.int .i64 rb)).setCell ⟨wr.heap.size, 1, none⟩ (.int .i64 rv)).cell? ⟨g2, k, none⟩ = some (.int .i64 x) := (hs2.r2.cell (i := k) (by omega)).trans (by rw [HX.out.2.2])
               have HS2 : Hid (ModSt ((w5.setCell ⟨wr.heap.size, 0, none⟩ (.int .i64 rb)).setCell ⟨wr.heap.size, 1, none⟩ (.int .i64 rv)) w.heap.size F g0 g1 g2 l0 l1 l2 bal fa fb fv mb' (k + 1) (D.put (.int .i64 a) (voteD b x))) := hs2
               clear hv hs2))
        all_goals (go_wp2_with fail)
        all_goals go_meet
        · exact ⟨_, ok, mb', rb, rv, rfl, rfl, heap_alloc_new _ _, hst.below ((Below.refl _ _).alloc (Nat.le_refl _) _), hans, hb5.alloc hs5 _⟩
        · exact ⟨_, ok, mb', rb, rv, rfl, rfl, heap_setCell_same _ _ 1 _ _ _ (heap_setCell_same _ _ 0 _ _ _ HV5.out), HS2, hans, below_set2 hb5 (Nat.le_succ_of_le hbs) _ _⟩
        · exact ⟨_, ok, mb', rb, rv, rfl, rfl, heap_setCell_same _ _ 1 _ _ _ (heap_setCell_same _ _ 0 _ _ _ HV5.out), HS2, hans, below_set2 hb5 hbs _ _⟩
      case rest =>
        obtain ⟨V, ok, mb', rb, rv, rfl, rfl, HV, HST, HAN, hbc⟩ := hcut
        clear HMS hbel hbs d0 d1 d2 awf HX
        have HSZ : Hid (size (D.put (.int .i64 a) (voteD b x)) = cntF fa (k + 1)) := mod_size HM1.out
        generalize D.put (.int .i64 a) (voteD b x) = D' at HM1 HST HAN HSZ
        go_wp2_with fail
        go_loopg [16, 17] (k + 1) (fun gk s16 s17 wx => ∃ (i : Nat), i ≤ k + 1 ∧ gk = k + 1 - i ∧ s16 = .int .i64 (cntF fa i : Nat) ∧ s17 = .int .i64 i ∧ Below wc.heap.size wc wx)
        case atStart => exact ⟨0, Nat.zero_le _, rfl, rfl, rfl, Below.refl _ _⟩
        case round =>
          obtain ⟨i, hi, rfl, rfl, rfl, hbx⟩ := hrel
          have hcl := cntF_le fa i
          by_cases hik : i ≤ k
          · have y1 : (i : Int) ≤ (k : Int) := by omega
            have HST2 : Hid (ModSt wr w.heap.size F g0 g1 g2 l0 l1 l2 bal fa fb fv mb' (k + 1) D') := HST.out.below hbx
            have HC1 : Hid (cntF fa (i + 1) = cntF fa i + if isFirst fa i = true then 1 else 0) := rfl
            generalize hcn : cntF fa i = cn at hcl HC1 ⊢
            clear hcn
            go_wp2_with fail
            refine (first_any g0 l0 i fa wr (by omega) (by omega) HST2.out.r0).mono ?_
            rintro e w' ⟨rfl, m, rfl⟩
            by_cases hf : isFirst fa i = true
            · rw [hf]
              go_wp2
              go_roundg (k + 1 - (i + 1))
              case measure => omega
              case rel => exact ⟨i + 1, by omega, rfl, by rw [HC1.out, if_pos hf]; go_num, by go_num, hbx.trans (mod_drewN.mono hbx.size)⟩
            · have hf0 : isFirst fa i = false := by simpa using hf
              rw [hf0]
              go_wp2
              go_roundg (k + 1 - (i + 1))
              case measure => omega
              case rel => exact ⟨i + 1, by omega, rfl, by rw [HC1.out, if_neg hf]; go_num, by go_num, hbx.trans (mod_drewN.mono hbx.size)⟩
          · obtain rfl : i = k + 1 := by omega
            have e2 : ¬ ((k : Int) + 1 ≤ (k : Int)) := by omega
            have HST2 : Hid (ModSt wr w.heap.size F g0 g1 g2 l0 l1 l2 bal fa fb fv mb' (k + 1) D') := HST.out.below hbx
            have HV2 : Hid (wr.heap[V]? = some (.cells #[.int .i64 rb, .int .i64 rv] 30 (0, 0))) := (hbx.block _ (block_lt HV.out)).trans HV.out
            have hb2 : Below w.heap.size w wr := hbc.trans (hbx.mono hbc.size)
            have v0 : wr.cell? ⟨V, 0, none⟩ = some (.int .i64 rb) := block_cell HV2.out 0
            have v1 : wr.cell? ⟨V, 1, none⟩ = some (.int .i64 rv) := block_cell HV2.out 1
            clear hbx HST HV hbc hi hik
            have HAN2 : Hid (((cntF fa (k + 1) : Int) < q ∧ ok = false ∧ rb = 0 ∧ rv = 0) ∨ (¬ (cntF fa (k + 1) : Int) < q ∧ ok = true ∧ rb = bal ∧ Picks D' rv)) := by have := HAN.out; unfold Ans at this; rw [HSZ.out] at this; exact this
            clear HAN HSZ
            generalize cntF fa (k + 1) = cn at hcl HAN2 ⊢
            rcases HAN2.out with ⟨hq, rfl, rfl, rfl⟩ | ⟨hq, rfl, rfl, hP⟩
            · have kq := neq_vote 0 0 0 0
              go_wp2
              go_roundg (n - (k + 1))
              case measure => omega
              case rel => exact ⟨k + 1, mb', D', by omega, rfl, by go_num, ⟨HST2.out.ra, HST2.out.low, HM1.out⟩, ⟨fun _ => ⟨g0, rfl, hg0, HST2.out.r0⟩, fun _ => ⟨g1, rfl, hg1, HST2.out.r1⟩, fun _ => ⟨g2, rfl, hg2, HST2.out.r2⟩⟩, hb2⟩
            · have HP : Hid (Picks D' rv) := hP
              clear hP HAN2
              go_wp2
              clear v0 v1
              go_loopg [18, 19, 20] (k + 1) (fun gk s18 s19 s20 wx => ∃ (i : Nat) (found : Bool) (mB : Int), i ≤ k + 1 ∧ gk = k + 1 - i ∧ s18 = .bool found ∧ s19 = .int .i64 mB ∧ s20 = .int .i64 i ∧ Hid (FM fa fb fv k i found mB) ∧ Below wr.heap.size wr wx)
              case atStart => exact ⟨0, false, 0, Nat.zero_le _, rfl, rfl, rfl, rfl, Or.inl ⟨rfl, fun j hj => absurd hj (by omega)⟩, Below.refl _ _⟩
              case round =>
                obtain ⟨i, found, mB, hi, rfl, rfl, rfl, rfl, hF, hbx⟩ := hrel
                by_cases hik : i ≤ k
                · have HST3 : Hid (ModSt wr w.heap.size F g0 g1 g2 l0 l1 l2 rb fa fb fv mb' (k + 1) D') := HST2.out.below hbx
                  have c1 : wr.cell? ⟨g1, i, none⟩ = some (.int .i64 (fb i)) := HST3.out.r1.cell (i := i) (by omega)
                  have c2 : wr.cell? ⟨g2, i, none⟩ = some (.int .i64 (fv i)) := HST3.out.r2.cell (i := i) (by omega)
                  have HK : Hid (¬ (fv i ≠ 0 ∧ isLast fa i k = true) → FM fa fb fv k (i + 1) found mB) := fm_skip hF.out
                  have HL : Hid (found = true → fb i ≤ mB → FM fa fb fv k (i + 1) true mB) := fun e h => fm_keep (e ▸ hF.out) h
                  have HT : Hid ((fv i ≠ 0 ∧ isLast fa i k = true) → (found = false ∨ mB < fb i) → FM fa fb fv k (i + 1) true (fb i)) := fm_take hF.out
                  generalize fb i = b' at c1 HL HT
                  generalize fv i = x' at c2 HK HT
                  clear hF
                  have y0 : (0 : Int) ≤ (i : Int) := by omega
                  have y1 : (i : Int) ≤ (k : Int) := by omega
                  have y3 : (i : Int) < (l1 : Int) := by omega
                  have y4 : (i : Int) < (l2 : Int) := by omega
                  by_cases hx : (x' == 0) = true
                  · go_wp2
                    go_roundg (k + 1 - (i + 1))
                    case measure => omega
                    case rel => exact ⟨i + 1, found, mB, by omega, rfl, rfl, rfl, by go_num, HK.out (fun h => h.1 (by simpa using hx)), hbx⟩
                  · have hx0 : (x' == 0) = false := by simpa using hx
                    have hxn0 : x' ≠ 0 := by simpa using hx
                    have hxn : Hid (x' ≠ 0) := hxn0
                    clear hxn0
                    clear hx
                    go_wp2_with fail
                    refine (last_any g0 l0 i k fa wr (by omega) (by omega) (by omega) HST3.out.r0).mono ?_
                    rintro e w' ⟨rfl, m, rfl⟩
                    by_cases hl : isLast fa i k = true
                    · rw [hl]
                      cases found with
                      | false =>
                        go_wp2
                        go_roundg (k + 1 - (i + 1))
                        case measure => omega
                        case rel => exact ⟨i + 1, true, b', by omega, rfl, rfl, rfl, by go_num, HT.out ⟨hxn.out, hl⟩ (Or.inl trivial), hbx.trans (mod_drewN.mono hbx.size)⟩
                      | true =>
                        by_cases hb : mB < b'
                        · go_wp2
                          go_roundg (k + 1 - (i + 1))
                          case measure => omega
                          case rel => exact ⟨i + 1, true, b', by omega, rfl, rfl, rfl, by go_num, HT.out ⟨hxn.out, hl⟩ (Or.inr hb), hbx.trans (mod_drewN.mono hbx.size)⟩
                        · go_wp2
                          go_roundg (k + 1 - (i + 1))
                          case measure => omega
                          case rel => exact ⟨i + 1, true, mB, by omega, rfl, rfl, rfl, by go_num, HL.out trivial (by omega), hbx.trans (mod_drewN.mono hbx.size)⟩
                    · have hl0 : isLast fa i k = false := by simpa using hl
                      rw [hl0]
                      go_wp2
                      go_roundg (k + 1 - (i + 1))
                      case measure => omega
                      case rel => exact ⟨i + 1, found, mB, by omega, rfl, rfl, rfl, by go_num, HK.out (fun h => hl h.2), hbx.trans (mod_drewN.mono hbx.size)⟩
                · obtain rfl : i = k + 1 := by omega
                  have HAW := mod_answer HM1.out hF.out HP.out
                  have HSX : Hid (ModSt wr w.heap.size F g0 g1 g2 l0 l1 l2 rb fa fb fv mb' (k + 1) D') := HST2.out.below hbx
                  have HV3 : Hid (wr.heap[V]? = some (.cells #[.int .i64 rb, .int .i64 rv] 30 (0, 0))) := (hbx.block _ (block_lt HV2.out)).trans HV2.out
                  have hbX : Below w.heap.size w wr := hb2.trans (hbx.mono hb2.size)
                  clear hbx HST2 HV2 hb2 hi hik hF HP
                  cases found with
                  | false =>
                    obtain rfl := HAW.1 rfl
                    clear HAW
                    have v1 : wr.cell? ⟨V, 1, none⟩ = some (.int .i64 2) := block_cell HV3.out 1
                    go_wp2
                    go_roundg (n - (k + 1))
                    case measure => omega
                    case rel => exact ⟨k + 1, mb', D', by omega, rfl, by go_num, ⟨HSX.out.ra, HSX.out.low, HM1.out⟩, ⟨fun _ => ⟨g0, rfl, hg0, HSX.out.r0⟩, fun _ => ⟨g1, rfl, hg1, HSX.out.r1⟩, fun _ => ⟨g2, rfl, hg2, HSX.out.r2⟩⟩, hbX⟩
                  | true =>
                    have HE : Hid (∃ j, j < k + 1 ∧ fv j ≠ 0 ∧ fb j = mB ∧ fv j = rv ∧ isLast fa j k = true) := HAW.2 rfl
                    clear HAW
                    go_wp2
                    go_loopg [21, 22] (k + 1) (fun gk s21 s22 wx => ∃ (i : Nat) (mem : Bool), i ≤ k + 1 ∧ gk = k + 1 - i ∧ s21 = .bool mem ∧ s22 = .int .i64 i ∧ Hid ((∃ j, j < i ∧ fv j ≠ 0 ∧ fb j = mB ∧ fv j = rv ∧ isLast fa j k = true) → mem = true) ∧ Below wr.heap.size wr wx)
                    case atStart => exact ⟨0, false, Nat.zero_le _, rfl, rfl, rfl, fun ⟨j, hj, _⟩ => absurd hj (by omega), Below.refl _ _⟩
                    case round =>
                      obtain ⟨i, mem, hi, rfl, rfl, rfl, hS, hbx⟩ := hrel
                      by_cases hik : i ≤ k
                      · have HST4 : Hid (ModSt wr w.heap.size F g0 g1 g2 l0 l1 l2 rb fa fb fv mb' (k + 1) D') := HSX.out.below hbx
                        have HV4 : Hid (wr.heap[V]? = some (.cells #[.int .i64 rb, .int .i64 rv] 30 (0, 0))) := (hbx.block _ (block_lt HV3.out)).trans HV3.out
                        have v1 : wr.cell? ⟨V, 1, none⟩ = some (.int .i64 rv) := block_cell HV4.out 1
                        have c1 : wr.cell? ⟨g1, i, none⟩ = some (.int .i64 (fb i)) := HST4.out.r1.cell (i := i) (by omega)
                        have c2 : wr.cell? ⟨g2, i, none⟩ = some (.int .i64 (fv i)) := HST4.out.r2.cell (i := i) (by omega)
                        have HQ : Hid (∀ m, (wr.drewN m).rowIs g0 3 l0 (fun j => .int .i64 (fa j))) := fun m => HST4.out.r0
                        have HN : Hid (¬ (fv i ≠ 0 ∧ fb i = mB ∧ fv i = rv ∧ isLast fa i k = true) → (∃ j, j < i + 1 ∧ fv j ≠ 0 ∧ fb j = mB ∧ fv j = rv ∧ isLast fa j k = true) → mem = true) := fun hno ⟨j, hj, hh⟩ => by
                          by_cases e : j = i
                          · subst e; exact absurd hh hno
                          · exact hS.out ⟨j, by omega, hh⟩
                        generalize fb i = b' at c1 HN
                        generalize fv i = x' at c2 HN
                        clear hS HST4 HV4
                        have y0 : (0 : Int) ≤ (i : Int) := by omega
                        have y1 : (i : Int) ≤ (k : Int) := by omega
                        have y3 : (i : Int) < (l1 : Int) := by omega
                        have y4 : (i : Int) < (l2 : Int) := by omega
                        by_cases hx : (x' != 0) = true
                        · by_cases hy : (b' == mB) = true
                          · by_cases hz : (x' == rv) = true
                            · by_cases hl : isLast fa i k = true
                              · go_wp2_with fail
                                go_quiet ((go_at_call 21; refine Calls.quiet_of (last_any g0 l0 i k fa _ (by omega) (by omega) (by omega) (HQ.out _))))
                                go_wp2
                                go_roundg (k + 1 - (i + 1))
                                case measure => omega
                                case rel => exact ⟨i + 1, true, by omega, rfl, rfl, by go_num, fun _ => rfl, hbx.trans (mod_drewN.mono hbx.size)⟩
                              · have hl0 : isLast fa i k = false := by simpa using hl
                                go_wp2_with fail
                                go_quiet ((go_at_call 21; refine Calls.quiet_of (last_any g0 l0 i k fa _ (by omega) (by omega) (by omega) (HQ.out _))))
                                go_wp2
                                go_roundg (k + 1 - (i + 1))
                                case measure => omega
                                case rel => exact ⟨i + 1, mem, by omega, rfl, rfl, by go_num, HN.out (fun h => hl h.2.2.2), hbx.trans (mod_drewN.mono hbx.size)⟩
                            · have hz0 : (x' == rv) = false := by simpa using hz
                              go_wp2_with fail
                              go_quiet (fail)
                              go_wp2
                              go_roundg (k + 1 - (i + 1))
                              case measure => omega
                              case rel => exact ⟨i + 1, mem, by omega, rfl, rfl, by go_num, HN.out (fun h => absurd h.2.2.1 (by simpa using hz0)), hbx.trans (mod_drewN.mono hbx.size)⟩
                          · have hy0 : (b' == mB) = false := by simpa using hy
                            go_wp2_with fail
                            go_quiet (fail)
                            go_wp2
                            go_roundg (k + 1 - (i + 1))
                            case measure => omega
                            case rel => exact ⟨i + 1, mem, by omega, rfl, rfl, by go_num, HN.out (fun h => absurd h.2.1 (by simpa using hy0)), hbx.trans (mod_drewN.mono hbx.size)⟩
                        · have hx0 : (x' != 0) = false := by simpa using hx
                          go_wp2_with fail
                          go_quiet (fail)
                          go_wp2
                          go_roundg (k + 1 - (i + 1))
                          case measure => omega
                          case rel => exact ⟨i + 1, mem, by omega, rfl, rfl, by go_num, HN.out (fun h => absurd h.1 (by simpa using hx0)), hbx.trans (mod_drewN.mono hbx.size)⟩
                      · obtain rfl : i = k + 1 := by omega
                        obtain rfl := hS.out HE.out
                        have HSY : Hid (ModSt wr w.heap.size F g0 g1 g2 l0 l1 l2 rb fa fb fv mb' (k + 1) D') := HSX.out.below hbx
                        have hbY : Below w.heap.size w wr := hbX.trans (hbx.mono hbX.size)
                        go_wp2
                        go_roundg (n - (k + 1))
                        case measure => omega
                        case rel => exact ⟨k + 1, mb', D', by omega, rfl, by go_num, ⟨HSY.out.ra, HSY.out.low, HM1.out⟩, ⟨fun _ => ⟨g0, rfl, hg0, HSY.out.r0⟩, fun _ => ⟨g1, rfl, hg1, HSY.out.r1⟩, fun _ => ⟨g2, rfl, hg2, HSY.out.r2⟩⟩, hbY⟩
    · obtain rfl : n = k := by omega
      go_wp2
      go_ret
      exact ⟨rfl, hbel⟩

end Go.Proofs.Qxb6600353a
