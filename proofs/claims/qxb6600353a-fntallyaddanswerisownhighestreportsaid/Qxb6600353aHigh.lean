/-
  Seat b6600353a. FnTallyAddAnswerIsOwnHighestReport (function 5): the walk.
-/
import Derived.Test.Qxb6600353aHighPlain
namespace Go.Proofs.Qxb6600353a
open Go.RowKit

set_option maxRecDepth 100000 in
theorem high_bytes_yes (q : Int) (a0 a1 a2 : Option Addr) (l0 c0 l1 c1 l2 c2 : Nat) (w : World) (h : l0 + l1 + l2 ≤ 1048576) :
    Calls Try.prog 18 #[.slice a0 l0 c0, .slice a1 l1 c1, .slice a2 l2 c2, .int .i64 q] w fun e w' => e = .returned (.bool true) ∧ w' = w := by
  have h0 : ¬ (1048576 : Int) < (l0 : Int) := by omega
  have h1 : ¬ (1048576 : Int) < (l1 : Int) := by omega
  have h2 : ¬ (1048576 : Int) < (l0 : Int) + (l1 : Int) := by omega
  have h3 : ¬ (1048576 : Int) < (l2 : Int) := by omega
  have h4 : ¬ (1048576 : Int) < (l0 : Int) + (l1 : Int) + (l2 : Int) := by omega
  go_enter Try.func18, Try.ntmps18
  go_wp2
  go_ret
  exact ⟨rfl, rfl⟩

set_option maxRecDepth 100000 in
/-- A slice too long: the law answers true at once. -/
theorem high_great (q : Int) (a0 a1 a2 : Option Addr) (l0 c0 l1 c1 l2 c2 : Nat) (w : World) (m0 : l0 ≤ 9223372036854775807) (m1 : l1 ≤ 9223372036854775807) (m2 : l2 ≤ 9223372036854775807) (h : ¬ (l0 ≤ 4096 ∧ l1 ≤ 4096 ∧ l2 ≤ 4096)) :
    Calls Try.prog 5 #[.slice a0 l0 c0, .slice a1 l1 c1, .slice a2 l2 c2, .int .i64 q] w fun e w' => e = .returned (.bool true) ∧ w' = w := by
  by_cases t0 : (1048576 : Int) < (l0 : Int)
  · go_enter Try.func5, Try.ntmps5
    go_wp2
    go_ret
    exact ⟨rfl, rfl⟩
  · have _t := trivial
    by_cases t1 : (1048576 : Int) < (l1 : Int)
    · go_enter Try.func5, Try.ntmps5
      go_wp2
      go_ret
      exact ⟨rfl, rfl⟩
    · have _t := trivial
      by_cases t2 : (1048576 : Int) < (l0 : Int) + (l1 : Int)
      · go_enter Try.func5, Try.ntmps5
        go_wp2
        go_ret
        exact ⟨rfl, rfl⟩
      · have _t := trivial
        by_cases t3 : (1048576 : Int) < (l2 : Int)
        · go_enter Try.func5, Try.ntmps5
          go_wp2
          go_ret
          exact ⟨rfl, rfl⟩
        · have _t := trivial
          by_cases t4 : (1048576 : Int) < (l0 : Int) + (l1 : Int) + (l2 : Int)
          · go_enter Try.func5, Try.ntmps5
            go_wp2
            go_ret
            exact ⟨rfl, rfl⟩
          · have _t := trivial
            by_cases t5 : (4096 : Int) < (l0 : Int)
            · go_enter Try.func5, Try.ntmps5
              go_wp2
              go_ret
              exact ⟨rfl, rfl⟩
            · have _t := trivial
              by_cases t6 : (4096 : Int) < (l1 : Int)
              · go_enter Try.func5, Try.ntmps5
                go_wp2
                go_ret
                exact ⟨rfl, rfl⟩
              · have _t := trivial
                have t9 : (4096 : Int) < (l2 : Int) := by omega
                go_enter Try.func5, Try.ntmps5
                go_wp2
                go_ret
                exact ⟨rfl, rfl⟩

theorem add_to (T B : Nat) (a b x q rb rv : Int) (ok : Bool) (v : Value) (R R1 : List (Int × Int × Int)) (w : World) (h : TallyAt w T B v R) (hB : B ≤ w.heap.size) (hR : R.length ≤ 100000) (hA : addR R a b x = (R1, rb, rv)) (hok : decide (q ≤ (cntR R1 rb rv : Int)) = ok) :
    Calls Try.prog 15 #[.pointer (some ⟨T, 0, none⟩), .int .i64 a, .agg #[.int .i64 b, .int .i64 x], .int .i64 q] w fun e w' => ∃ v', e = .returned (.tuple #[.agg #[.int .i64 rb, .int .i64 rv], .bool ok]) ∧ TallyAt w' T B v' R1 ∧ Moved w w' T v.ownBlock v'.ownBlock := by
  have h1 := add_core T B a b x q v R w h hB hR
  rw [hA] at h1
  rw [← hok]
  exact h1

theorem tally_ne {w : World} {T B k : Nat} {v : Value} {R : List (Int × Int × Int)} (h : TallyAt w T B v R) {cs : Array Value} {t : TypeId} {fr : Nat × Nat} (hk : w.heap[k]? = some (.cells cs t fr)) (ht : t ≠ 40) : k ≠ T := fun e => by
  rw [e, h.1] at hk
  injection hk with hk
  injection hk with _ h2
  exact ht h2.symm

/-- Behind a call of Add and the variable that takes its answer. -/
theorem after_add {wc w6 : World} {B T U : Nat} {v v6 u : Value} {R R1 S : List (Int × Int × Int)} (hP : Pair wc B T U v u R S) (hm : Moved wc w6 T v.ownBlock v6.ownBlock) (ht : TallyAt w6 T B v6 R1) (o : Obj) :
    Pair (w6.alloc o) B T U v6 u R1 S ∧ (∀ (k : Nat) (cs : Array Value) (t : TypeId) (fr : Nat × Nat), wc.heap[k]? = some (.cells cs t fr) → t ≠ 55 → t ≠ 40 → (w6.alloc o).heap[k]? = some (.cells cs t fr)) ∧
    (∀ (g n : Nat) (t : TypeId) (f : Nat → Value), t ≠ 55 → t ≠ 40 → wc.rowIs g t n f → (w6.alloc o).rowIs g t n f) ∧ (w6.alloc o).heap[w6.heap.size]? = some o ∧ (∀ w0, Below B w0 wc → B ≤ T → B ≤ wc.heap.size → Below B w0 (w6.alloc o)) := by
  have ha : Below w6.heap.size w6 (w6.alloc o) := (Below.refl _ _).alloc (Nat.le_refl _) _
  refine ⟨(hP.turn hm ht).below ha, fun k cs t fr hk h1 h2 => ?_, fun g n t f h1 h2 hr => (moved_row hP.one hm hr h1 h2).alloc _, heap_alloc_new _ _, fun w0 hb hT hB => (moved_below hP.one hm hb hT hB).trans (ha.mono (Nat.le_trans hB hm.size))⟩
  have := moved_cells hP.one hm hk h1 (tally_ne hP.one hk h2)
  exact (ha.block k (block_lt this)).trans this

set_option maxRecDepth 100000 in
set_option maxHeartbeats 3200000 in
theorem high_main (q : Int) (a0 a1 a2 : Option Addr) (l0 c0 l1 c1 l2 c2 : Nat) (fa fb fv : Nat → Int) (w : World) (h0 : l0 ≤ 4096) (h1 : l1 ≤ 4096) (h2 : l2 ≤ 4096) (s0 : Src w a0 l0 c0 fa) (s1 : Src w a1 l1 c1 fb) (s2 : Src w a2 l2 c2 fv) :
    Calls Try.prog 5 #[.slice a0 l0 c0, .slice a1 l1 c1, .slice a2 l2 c2, .int .i64 q] w fun e w' => e = .returned (.bool true) ∧ Below w.heap.size w w' := by
  have q0 : decide ((4096 : Int) < (l0 : Int)) = false := decide_eq_false (by omega)
  have q1 : decide ((4096 : Int) < (l1 : Int)) = false := decide_eq_false (by omega)
  have q2 : decide ((4096 : Int) < (l2 : Int)) = false := decide_eq_false (by omega)
  have HS0 : Hid (Src w a0 l0 c0 fa) := s0
  have HS1 : Hid (Src w a1 l1 c1 fb) := s1
  have HS2 : Hid (Src w a2 l2 c2 fv) := s2
  clear s0 s1 s2
  go_enter Try.func5, Try.ntmps5
  go_wp2_with fail
  refine (high_bytes_yes q a0 a1 a2 l0 c0 l1 c1 l2 c2 w (by omega)).mono ?_
  rintro e w' ⟨rfl, hw⟩
  obtain rfl := hw.symm
  clear hw
  go_wp2_with fail
  refine (cloneInt_any a0 l0 c0 fa w (by omega) HS0.out).mono ?_
  rintro e w1 ⟨a0', rfl, o0, b1⟩
  go_wp2_with fail
  refine (cloneI64_any a1 l1 c1 fb w1 (by omega) (HS1.out.below b1)).mono ?_
  rintro e w2 ⟨a1', rfl, o1, b2⟩
  have b2' : Below w.heap.size w w2 := b1.trans (b2.mono b1.size)
  go_wp2_with fail
  refine (cloneInt_any a2 l2 c2 fv w2 (by omega) (HS2.out.below b2')).mono ?_
  rintro e w3 ⟨a2', rfl, o2, b3⟩
  have O0 : Own w.heap.size w3 3 a0' l0 fa := (o0.below b2).below b3
  have O1 : Own w.heap.size w3 2 a1' l1 fb := Own.below (fun h => by obtain ⟨g, e1, e2, e3⟩ := o1 h; exact ⟨g, e1, Nat.le_trans b1.size e2, e3⟩) b3
  have O2 : Own w.heap.size w3 3 a2' l2 fv := fun h => by obtain ⟨g, e1, e2, e3⟩ := o2 h; exact ⟨g, e1, Nat.le_trans b2'.size e2, e3⟩
  have hb3 : Below w.heap.size w w3 := b2'.trans (b3.mono b2'.size)
  obtain ⟨HP, hbp⟩ := pair_start w.heap.size w3
  have HPH : Hid (Pair ((w3.alloc (.cells #[.slice none 0 0] 40)).alloc (.cells #[.slice none 0 0] 40)) w.heap.size w3.heap.size (w3.heap.size + 1) (.slice none 0 0) (.slice none 0 0) [] []) := HP
  have HO : Hid (Own w.heap.size ((w3.alloc (.cells #[.slice none 0 0] 40)).alloc (.cells #[.slice none 0 0] 40)) 3 a0' l0 fa ∧ Own w.heap.size ((w3.alloc (.cells #[.slice none 0 0] 40)).alloc (.cells #[.slice none 0 0] 40)) 2 a1' l1 fb ∧ Own w.heap.size ((w3.alloc (.cells #[.slice none 0 0] 40)).alloc (.cells #[.slice none 0 0] 40)) 3 a2' l2 fv) := ⟨O0.below hbp, O1.below hbp, O2.below hbp⟩
  have hb4 : Below w.heap.size w ((w3.alloc (.cells #[.slice none 0 0] 40)).alloc (.cells #[.slice none 0 0] 40)) := hb3.trans (hbp.mono hb3.size)
  have hTB : w.heap.size ≤ w3.heap.size := hb3.size
  clear o0 o1 o2 b1 b2 b3 b2' O0 O1 O2 hb3 HP hbp HS0 HS1 HS2
  go_wp2_with fail
  refine (min3_any l0 l1 l2 _).mono ?_
  rintro e w' ⟨n, rfl, n0, n1, n2, hw⟩
  obtain rfl := hw.symm
  clear hw
  go_wp2
  generalize ((w3.alloc (.cells #[.slice none 0 0] 40)).alloc (.cells #[.slice none 0 0] 40)) = w5 at HPH HO hb4 ⊢
  have hUB : w.heap.size ≤ w3.heap.size + 1 := by omega
  generalize hU : w3.heap.size + 1 = U at HPH hUB ⊢
  generalize w3.heap.size = T at HPH hTB hU ⊢
  clear hU w1 w2 w3
  go_loopg [12] n (fun gk i wr => ∃ (k : Nat) (v u : Value) (R : List (Int × Int × Int)), k ≤ n ∧ gk = n - k ∧ i = .int .i64 k ∧ Hid (Pair wr w.heap.size T U v u R R) ∧ Hid (Rep fa fb fv k R) ∧ Hid (Own w.heap.size wr 3 a0' l0 fa ∧ Own w.heap.size wr 2 a1' l1 fb ∧ Own w.heap.size wr 3 a2' l2 fv) ∧ Below w.heap.size w wr)
  case atStart => exact ⟨0, _, _, [], Nat.zero_le _, rfl, rfl, HPH, rep_start fa fb fv, HO, hb4⟩
  case round =>
    clear HPH HO hb4
    obtain ⟨k, v, u, R, hk, rfl, rfl, hP, hR, hO, hbel⟩ := hrel
    by_cases hlt : k < n
    · obtain ⟨g0, rfl, hg0, r0⟩ := hO.out.1 (by omega)
      obtain ⟨g1, rfl, hg1, r1⟩ := hO.out.2.1 (by omega)
      obtain ⟨g2, rfl, hg2, r2⟩ := hO.out.2.2 (by omega)
      have d0 : wr.cell? ⟨g0, k, none⟩ = some (.int .i64 (fa k)) := r0.cell (i := k) (by omega)
      have d1 : wr.cell? ⟨g1, k, none⟩ = some (.int .i64 (fb k)) := r1.cell (i := k) (by omega)
      have d2 : wr.cell? ⟨g2, k, none⟩ = some (.int .i64 (fv k)) := r2.cell (i := k) (by omega)
      have HR0 : Hid (wr.rowIs g0 3 l0 (fun j => .int .i64 (fa j)) ∧ wr.rowIs g1 2 l1 (fun j => .int .i64 (fb j)) ∧ wr.rowIs g2 3 l2 (fun j => .int .i64 (fv j))) := ⟨r0, r1, r2⟩
      clear r0 r1 r2 hO
      have HS1 : Hid (Rep fa fb fv (k + 1) (addR R (fa k) (fb k) (fv k)).1) := rep_step hR.out
      obtain ⟨ha1, ha2⟩ := rep_answer hR.out
      have hge := addR_ge R (fa k) (fb k) (fv k)
      have hcnt := addR_cnt R (fa k) (fb k) (fv k)
      have hRl := hR.out.len
      generalize hka : fa k = a at d0 HS1 ha1 ha2 hge hcnt
      generalize hkb : fb k = b at d1 HS1 ha1 ha2 hge hcnt
      generalize hkv : fv k = x at d2 HS1 ha1 ha2 hge hcnt
      have hag := addR_again R a b x
      obtain ⟨R1, hR1⟩ : ∃ R1, (addR R a b x).1 = R1 := ⟨_, rfl⟩
      obtain ⟨rb, hrb⟩ : ∃ rb, (addR R a b x).2.1 = rb := ⟨_, rfl⟩
      obtain ⟨rv, hrv⟩ : ∃ rv, (addR R a b x).2.2 = rv := ⟨_, rfl⟩
      have hA : addR R a b x = (R1, rb, rv) := by rw [← hR1, ← hrb, ← hrv]
      rw [hR1, hA] at hag
      rw [hrb] at ha1 hge
      rw [hrb, hrv] at ha2
      rw [hR1, hrb, hrv] at hcnt
      rw [hR1] at HS1
      have HA : Hid (addR R a b x = (R1, rb, rv) ∧ addR R1 a b x = (R1, rb, rv)) := ⟨hA, hag⟩
      have HT : Hid (∀ j, j < k + 1 → fa j = a → fb j ≤ rb) := ha1
      have HE : Hid (∃ j, j < k + 1 ∧ fa j = a ∧ fb j = rb ∧ fv j = rv) := ha2
      have hR1l := HS1.out.len
      obtain ⟨ok, hok⟩ : ∃ ok, decide (q ≤ (cntR R1 rb rv : Int)) = ok := ⟨_, rfl⟩
      have HOK : Hid (decide (q ≤ (cntR R1 rb rv : Int)) = ok ∧ (q ≤ 1 → ok = true)) := ⟨hok, fun h => by rw [← hok]; exact decide_eq_true (by omega)⟩
      clear hok hcnt
      clear hA hag ha1 ha2 hR1 hrb hrv hka hkb hkv hR
      have z0 : (0 : Int) ≤ (k : Int) := by omega
      have z1 : (k : Int) < (n : Int) := by omega
      have z2 : (k : Int) < (l0 : Int) := by omega
      have z3 : (k : Int) < (l1 : Int) := by omega
      have z4 : (k : Int) < (l2 : Int) := by omega
      go_upto_region 19 with fail
      go_cut [14] (fun s wc => ∃ V : Nat, s = .pointer (some ⟨V, 0, none⟩) ∧ wr.heap.size ≤ V ∧ Hid (wc.heap[V]? = some (.cells #[.int .i64 b, .int .i64 x] 30 (0, 0))) ∧ Below wr.heap.size wr wc)
      case first =>
        go_region_held3 (fun w' => w'.cell? ⟨g1, k, none⟩ = some (.int .i64 b) ∧ w'.cell? ⟨g2, k, none⟩ = some (.int .i64 x)) (go_keep)
          ((go_at_call 11; refine (vote_any _ _ _).mono ?_; rintro e w' ⟨rfl, rfl⟩))
        all_goals (go_wp2_with fail)
        all_goals go_meet
        all_goals first
          | exact ⟨_, rfl, Nat.le_succ _, (two_box _ _ _).2.1, (two_box _ _ _).2.2⟩
          | exact ⟨_, rfl, Nat.le_refl _, (two_box _ _ _).1, (two_box _ _ _).2.2⟩
      case rest =>
        obtain ⟨V, rfl, hV, HV, bc⟩ := hcut
        have HPc : Hid (Pair wc w.heap.size T U v u R R) := hP.out.below bc
        have HRc : Hid (wc.rowIs g0 3 l0 (fun j => .int .i64 (fa j)) ∧ wc.rowIs g1 2 l1 (fun j => .int .i64 (fb j)) ∧ wc.rowIs g2 3 l2 (fun j => .int .i64 (fv j))) := ⟨HR0.out.1.of_block (bc.block _ HR0.out.1.lt), HR0.out.2.1.of_block (bc.block _ HR0.out.2.1.lt), HR0.out.2.2.of_block (bc.block _ HR0.out.2.2.lt)⟩
        have hbc : Below w.heap.size w wc := hbel.trans (bc.mono hbel.size)
        have e0 : wc.cell? ⟨V, 0, none⟩ = some (.int .i64 b) := block_cell HV.out 0
        have e1 : wc.cell? ⟨V, 1, none⟩ = some (.int .i64 x) := block_cell HV.out 1
        clear bc hbel HR0 hP d0 d1 d2
        go_wp2_with fail
        refine (add_to T w.heap.size a b x q rb rv ok v R R1 wc HPc.out.one hbc.size (by omega) HA.out.1 HOK.out.1).mono ?_
        rintro e w6 ⟨v6, rfl, ht6, hm6⟩
        go_upto_region 21 with fail
        obtain ⟨y1, y2, y3, y4, y5⟩ := after_add HPc.out hm6 ht6 (.cells #[.int .i64 rb, .int .i64 rv] 30)
        have HP7 : Hid (Pair (w6.alloc (.cells #[.int .i64 rb, .int .i64 rv] 30)) w.heap.size T U v6 u R1 R) := y1
        have HV7 : Hid ((w6.alloc (.cells #[.int .i64 rb, .int .i64 rv] 30)).heap[V]? = some (.cells #[.int .i64 b, .int .i64 x] 30 (0, 0))) := y2 _ _ _ _ HV.out (by decide) (by decide)
        have HR7 : Hid ((w6.alloc (.cells #[.int .i64 rb, .int .i64 rv] 30)).rowIs g0 3 l0 (fun j => .int .i64 (fa j)) ∧ (w6.alloc (.cells #[.int .i64 rb, .int .i64 rv] 30)).rowIs g1 2 l1 (fun j => .int .i64 (fb j)) ∧ (w6.alloc (.cells #[.int .i64 rb, .int .i64 rv] 30)).rowIs g2 3 l2 (fun j => .int .i64 (fv j))) := ⟨y3 _ _ _ _ (by decide) (by decide) HRc.out.1, y3 _ _ _ _ (by decide) (by decide) HRc.out.2.1, y3 _ _ _ _ (by decide) (by decide) HRc.out.2.2⟩
        have HG7 : Hid ((w6.alloc (.cells #[.int .i64 rb, .int .i64 rv] 30)).heap[w6.heap.size]? = some (.cells #[.int .i64 rb, .int .i64 rv] 30 (0, 0))) := y4
        have hb7 : Below w.heap.size w (w6.alloc (.cells #[.int .i64 rb, .int .i64 rv] 30)) := y5 w hbc hTB hbc.size
        clear y1 y2 y3 y4 y5 ht6 hm6 HPc HRc HV hbc e0 e1
        generalize (w6.alloc (.cells #[.int .i64 rb, .int .i64 rv] 30)) = w7 at HP7 HV7 HR7 HG7 hb7 ⊢
        generalize w6.heap.size = G at HG7 ⊢
        clear w6
        have e0 : w7.cell? ⟨V, 0, none⟩ = some (.int .i64 b) := block_cell HV7.out 0
        have e1 : w7.cell? ⟨V, 1, none⟩ = some (.int .i64 x) := block_cell HV7.out 1
        have i0 : w7.cell? ⟨G, 0, none⟩ = some (.int .i64 rb) := block_cell HG7.out 0
        have i1 : w7.cell? ⟨G, 1, none⟩ = some (.int .i64 rv) := block_cell HG7.out 1
        have hge2 : ¬ rb < b := by omega
        go_upto_region 23 with fail
        go_cut [86] (fun s wx => s = .bool false ∧ w7 = wx)
        case first =>
          by_cases hq : q ≤ 1
          · obtain rfl := HOK.out.2 hq
            go_wp2_with fail
            go_meet
            exact ⟨rfl, rfl⟩
          · go_wp2_with fail
            go_meet
            exact ⟨rfl, rfl⟩
        case rest =>
          obtain ⟨rfl, rfl⟩ := hcut
          clear e0 e1 i0 i1
          go_wp2_with fail
          go_loopg [17, 18] (k + 1) (fun gk s17 s18 wx => ∃ (i : Nat) (sn : Bool), i ≤ k + 1 ∧ gk = k + 1 - i ∧ s17 = .bool sn ∧ s18 = .int .i64 i ∧ Hid ((∃ j, j < i ∧ fa j = a ∧ fb j = rb ∧ fv j = rv) → sn = true) ∧ Below w7.heap.size w7 wx)
          case atStart => exact ⟨0, false, Nat.zero_le _, rfl, rfl, rfl, fun ⟨j, hj, _⟩ => absurd hj (by omega), Below.refl _ _⟩
          case round =>
            obtain ⟨i, sn, hi, rfl, rfl, rfl, hS, hbx⟩ := hrel
            by_cases hik : i ≤ k
            · have c0 : wr.cell? ⟨g0, i, none⟩ = some (.int .i64 (fa i)) := (hbx.cell (by exact HR7.out.1.lt)).trans (HR7.out.1.cell (i := i) (by omega))
              have c1 : wr.cell? ⟨g1, i, none⟩ = some (.int .i64 (fb i)) := (hbx.cell (by exact HR7.out.2.1.lt)).trans (HR7.out.2.1.cell (i := i) (by omega))
              have c2 : wr.cell? ⟨g2, i, none⟩ = some (.int .i64 (fv i)) := (hbx.cell (by exact HR7.out.2.2.lt)).trans (HR7.out.2.2.cell (i := i) (by omega))
              have i0 : wr.cell? ⟨G, 0, none⟩ = some (.int .i64 rb) := (hbx.cell (by exact block_lt HG7.out)).trans (block_cell HG7.out 0)
              have i1 : wr.cell? ⟨G, 1, none⟩ = some (.int .i64 rv) := (hbx.cell (by exact block_lt HG7.out)).trans (block_cell HG7.out 1)
              have HN : Hid (¬ (fa i = a ∧ fb i = rb ∧ fv i = rv) → (∃ j, j < i + 1 ∧ fa j = a ∧ fb j = rb ∧ fv j = rv) → sn = true) := fun hno ⟨j, hj, hh⟩ => by
                by_cases e : j = i
                · subst e; exact absurd hh hno
                · exact hS.out ⟨j, by omega, hh⟩
              have HTi : Hid (fa i = a → fb i ≤ rb) := HT.out i (by omega)
              generalize fa i = ai at c0 HN HTi
              generalize fb i = bi at c1 HN HTi
              generalize fv i = xi at c2 HN
              have y0 : (0 : Int) ≤ (i : Int) := by omega
              have y1 : (i : Int) ≤ (k : Int) := by omega
              have y2 : (i : Int) < (l0 : Int) := by omega
              have y3 : (i : Int) < (l1 : Int) := by omega
              have y4 : (i : Int) < (l2 : Int) := by omega
              by_cases hx : (ai != a) = true
              · go_wp2
                go_roundg (k + 1 - (i + 1))
                case measure => omega
                case rel => exact ⟨i + 1, sn, by omega, rfl, rfl, by go_num, HN.out (fun h => absurd h.1 (by simpa using hx)), hbx⟩
              · have hx0 : (ai != a) = false := by simpa using hx
                have hle : ¬ rb < bi := by have := HTi.out (by simpa using hx0); omega
                clear hx
                go_wp2_with fail
                go_quiet (fail)
                go_wp2_with fail
                by_cases hy : (bi == rb) = true
                · by_cases hz : (xi == rv) = true
                  · go_quiet (fail)
                    go_wp2
                    go_roundg (k + 1 - (i + 1))
                    case measure => omega
                    case rel => exact ⟨i + 1, true, by omega, rfl, rfl, by go_num, fun _ => rfl, hbx.trans (below_drewN.mono hbx.size)⟩
                  · have hz0 : (xi == rv) = false := by simpa using hz
                    go_quiet (fail)
                    go_wp2
                    go_roundg (k + 1 - (i + 1))
                    case measure => omega
                    case rel => exact ⟨i + 1, sn, by omega, rfl, rfl, by go_num, HN.out (fun h => absurd h.2.2 (by simpa using hz0)), hbx.trans (below_drewN.mono hbx.size)⟩
                · have hy0 : (bi == rb) = false := by simpa using hy
                  go_quiet (fail)
                  go_wp2
                  go_roundg (k + 1 - (i + 1))
                  case measure => omega
                  case rel => exact ⟨i + 1, sn, by omega, rfl, rfl, by go_num, HN.out (fun h => absurd h.2.1 (by simpa using hy0)), hbx.trans (below_drewN.mono hbx.size)⟩
            · obtain rfl : i = k + 1 := by omega
              obtain rfl := hS.out HE.out
              have HP8 : Hid (Pair wr w.heap.size T U v6 u R1 R) := HP7.out.below hbx
              have HR8 : Hid (wr.rowIs g0 3 l0 (fun j => .int .i64 (fa j)) ∧ wr.rowIs g1 2 l1 (fun j => .int .i64 (fb j)) ∧ wr.rowIs g2 3 l2 (fun j => .int .i64 (fv j))) := ⟨HR7.out.1.of_block (hbx.block _ HR7.out.1.lt), HR7.out.2.1.of_block (hbx.block _ HR7.out.2.1.lt), HR7.out.2.2.of_block (hbx.block _ HR7.out.2.2.lt)⟩
              have HV8 : Hid (wr.heap[V]? = some (.cells #[.int .i64 b, .int .i64 x] 30 (0, 0))) := (hbx.block _ (block_lt HV7.out)).trans HV7.out
              have HG8 : Hid (wr.heap[G]? = some (.cells #[.int .i64 rb, .int .i64 rv] 30 (0, 0))) := (hbx.block _ (block_lt HG7.out)).trans HG7.out
              have hb8 : Below w.heap.size w wr := hb7.trans (hbx.mono hb7.size)
              have e0 : wr.cell? ⟨V, 0, none⟩ = some (.int .i64 b) := block_cell HV8.out 0
              have e1 : wr.cell? ⟨V, 1, none⟩ = some (.int .i64 x) := block_cell HV8.out 1
              have e2 : ¬ ((k : Int) + 1 ≤ (k : Int)) := by omega
              clear hbx HP7 HR7 HV7 HG7 hb7 hi hik
              go_wp2_with fail
              have kq := neq_vote rb rv rb rv
              have kq2 : (rb == rb && rv == rv) = true := by simp
              rw [kq2] at kq
              have kq3 : (ok == ok) = true := by simp
              clear kq2
              refine (add_to U w.heap.size a b x q rb rv ok u R R1 wr HP8.out.swap.one hb8.size (by omega) HA.out.1 HOK.out.1).mono ?_
              rintro e w9r ⟨u9, rfl, ht9, hm9⟩
              go_upto_region 37 with fail
              obtain ⟨y1, y2, y3, y4, y5⟩ := after_add HP8.out.swap hm9 ht9 (.cells #[.int .i64 rb, .int .i64 rv] 30)
              have HP9 : Hid (Pair (w9r.alloc (.cells #[.int .i64 rb, .int .i64 rv] 30)) w.heap.size T U v6 u9 R1 R1) := y1.swap
              have HV9 : Hid ((w9r.alloc (.cells #[.int .i64 rb, .int .i64 rv] 30)).heap[V]? = some (.cells #[.int .i64 b, .int .i64 x] 30 (0, 0))) := y2 _ _ _ _ HV8.out (by decide) (by decide)
              have HG9 : Hid ((w9r.alloc (.cells #[.int .i64 rb, .int .i64 rv] 30)).heap[G]? = some (.cells #[.int .i64 rb, .int .i64 rv] 30 (0, 0))) := y2 _ _ _ _ HG8.out (by decide) (by decide)
              have HR9 : Hid ((w9r.alloc (.cells #[.int .i64 rb, .int .i64 rv] 30)).rowIs g0 3 l0 (fun j => .int .i64 (fa j)) ∧ (w9r.alloc (.cells #[.int .i64 rb, .int .i64 rv] 30)).rowIs g1 2 l1 (fun j => .int .i64 (fb j)) ∧ (w9r.alloc (.cells #[.int .i64 rb, .int .i64 rv] 30)).rowIs g2 3 l2 (fun j => .int .i64 (fv j))) := ⟨y3 _ _ _ _ (by decide) (by decide) HR8.out.1, y3 _ _ _ _ (by decide) (by decide) HR8.out.2.1, y3 _ _ _ _ (by decide) (by decide) HR8.out.2.2⟩
              have HB9 : Hid ((w9r.alloc (.cells #[.int .i64 rb, .int .i64 rv] 30)).heap[w9r.heap.size]? = some (.cells #[.int .i64 rb, .int .i64 rv] 30 (0, 0))) := y4
              have hb9 : Below w.heap.size w (w9r.alloc (.cells #[.int .i64 rb, .int .i64 rv] 30)) := y5 w hb8 hUB hb8.size
              clear y1 y2 y3 y4 y5 ht9 hm9 HP8 HR8 HV8 HG8 hb8 e0 e1
              generalize (w9r.alloc (.cells #[.int .i64 rb, .int .i64 rv] 30)) = w9 at HP9 HV9 HG9 HR9 HB9 hb9 ⊢
              generalize w9r.heap.size = G9 at HB9 ⊢
              have e0 : w9.cell? ⟨V, 0, none⟩ = some (.int .i64 b) := block_cell HV9.out 0
              have e1 : w9.cell? ⟨V, 1, none⟩ = some (.int .i64 x) := block_cell HV9.out 1
              have i0 : w9.cell? ⟨G, 0, none⟩ = some (.int .i64 rb) := block_cell HG9.out 0
              have i1 : w9.cell? ⟨G, 1, none⟩ = some (.int .i64 rv) := block_cell HG9.out 1
              have i2 : w9.cell? ⟨G9, 0, none⟩ = some (.int .i64 rb) := block_cell HB9.out 0
              have i3 : w9.cell? ⟨G9, 1, none⟩ = some (.int .i64 rv) := block_cell HB9.out 1
              go_wp2_with fail
              clear i0 i1 i2 i3
              refine (add_to U w.heap.size a b x q rb rv ok u9 R1 R1 w9 HP9.out.swap.one hb9.size (by omega) HA.out.2 HOK.out.1).mono ?_
              rintro e w11r ⟨u11, rfl, ht11, hm11⟩
              go_upto_region 40 with fail
              obtain ⟨y1, y2, y3, y4, y5⟩ := after_add HP9.out.swap hm11 ht11 (.cells #[.int .i64 rb, .int .i64 rv] 30)
              have HP11 : Hid (Pair (w11r.alloc (.cells #[.int .i64 rb, .int .i64 rv] 30)) w.heap.size T U v6 u11 R1 R1) := y1.swap
              have HV11 : Hid ((w11r.alloc (.cells #[.int .i64 rb, .int .i64 rv] 30)).heap[V]? = some (.cells #[.int .i64 b, .int .i64 x] 30 (0, 0))) := y2 _ _ _ _ HV9.out (by decide) (by decide)
              have HG11 : Hid ((w11r.alloc (.cells #[.int .i64 rb, .int .i64 rv] 30)).heap[G]? = some (.cells #[.int .i64 rb, .int .i64 rv] 30 (0, 0))) := y2 _ _ _ _ HG9.out (by decide) (by decide)
              have HR11 : Hid ((w11r.alloc (.cells #[.int .i64 rb, .int .i64 rv] 30)).rowIs g0 3 l0 (fun j => .int .i64 (fa j)) ∧ (w11r.alloc (.cells #[.int .i64 rb, .int .i64 rv] 30)).rowIs g1 2 l1 (fun j => .int .i64 (fb j)) ∧ (w11r.alloc (.cells #[.int .i64 rb, .int .i64 rv] 30)).rowIs g2 3 l2 (fun j => .int .i64 (fv j))) := ⟨y3 _ _ _ _ (by decide) (by decide) HR9.out.1, y3 _ _ _ _ (by decide) (by decide) HR9.out.2.1, y3 _ _ _ _ (by decide) (by decide) HR9.out.2.2⟩
              have HB11 : Hid ((w11r.alloc (.cells #[.int .i64 rb, .int .i64 rv] 30)).heap[w11r.heap.size]? = some (.cells #[.int .i64 rb, .int .i64 rv] 30 (0, 0))) := y4
              have hb11 : Below w.heap.size w (w11r.alloc (.cells #[.int .i64 rb, .int .i64 rv] 30)) := y5 w hb9 hUB hb9.size
              clear y1 y2 y3 y4 y5 ht11 hm11 HP9 HR9 HV9 HG9 hb9 e0 e1
              generalize (w11r.alloc (.cells #[.int .i64 rb, .int .i64 rv] 30)) = w11 at HP11 HV11 HG11 HR11 HB11 hb11 ⊢
              generalize w11r.heap.size = G11 at HB11 ⊢
              have e0 : w11.cell? ⟨V, 0, none⟩ = some (.int .i64 b) := block_cell HV11.out 0
              have e1 : w11.cell? ⟨V, 1, none⟩ = some (.int .i64 x) := block_cell HV11.out 1
              have i0 : w11.cell? ⟨G, 0, none⟩ = some (.int .i64 rb) := block_cell HG11.out 0
              have i1 : w11.cell? ⟨G, 1, none⟩ = some (.int .i64 rv) := block_cell HG11.out 1
              have i2 : w11.cell? ⟨G11, 0, none⟩ = some (.int .i64 rb) := block_cell HB11.out 0
              have i3 : w11.cell? ⟨G11, 1, none⟩ = some (.int .i64 rv) := block_cell HB11.out 1
              go_wp2
              go_roundg (n - (k + 1))
              case measure => omega
              case rel => exact ⟨k + 1, v6, u11, R1, by omega, rfl, by go_num, HP11, HS1, ⟨fun _ => ⟨g0, rfl, hg0, HR11.out.1⟩, fun _ => ⟨g1, rfl, hg1, HR11.out.2.1⟩, fun _ => ⟨g2, rfl, hg2, HR11.out.2.2⟩⟩, hb11⟩
    · obtain rfl : n = k := by omega
      go_wp2
      go_ret
      exact ⟨rfl, hbel⟩

end Go.Proofs.Qxb6600353a
