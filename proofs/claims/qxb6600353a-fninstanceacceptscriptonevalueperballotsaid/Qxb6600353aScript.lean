/-
  Seat b6600353a. FnInstanceAcceptScriptOneValuePerBallot (function 3): the walks.
-/
import Derived.Test.Qxb6600353aAccept
import Derived.Deep.DeepCutAuto
import Derived.Deep.LoopGhost
namespace Go.Proofs.Qxb6600353a
open Go.RowKit

set_option maxRecDepth 100000 in
theorem script_bytes_yes (x0 x1 x2 : Int) (a3 a4 : Option Addr) (l3 c3 l4 c4 : Nat) (w : World) (h : l3 + l4 ≤ 1048576) :
    Calls Try.prog 8 #[.int .i64 x0, .int .i64 x1, .int .i64 x2, .slice a3 l3 c3, .slice a4 l4 c4] w fun e w' => e = .returned (.bool true) ∧ w' = w := by
  have h0 : ¬ (1048576 : Int) < (l3 : Int) := by omega
  have h1 : ¬ (1048576 : Int) < (l4 : Int) := by omega
  have h2 : ¬ (1048576 : Int) < (l3 : Int) + (l4 : Int) := by omega
  go_enter Try.func8, Try.ntmps8
  go_wp2
  go_ret
  exact ⟨rfl, rfl⟩

set_option maxRecDepth 100000 in
/-- A slice too long: the law answers true at once. -/
theorem script_great (x0 x1 x2 : Int) (a3 a4 : Option Addr) (l3 c3 l4 c4 : Nat) (w : World) (m3 : l3 ≤ 9223372036854775807) (m4 : l4 ≤ 9223372036854775807) (h : ¬ (l3 ≤ 65536 ∧ l4 ≤ 65536)) :
    Calls Try.prog 3 #[.int .i64 x0, .int .i64 x1, .int .i64 x2, .slice a3 l3 c3, .slice a4 l4 c4] w fun e w' => e = .returned (.bool true) ∧ w' = w := by
  by_cases h0 : (1048576 : Int) < (l3 : Int)
  · go_enter Try.func3, Try.ntmps3
    go_wp2
    go_ret
    exact ⟨rfl, rfl⟩
  · by_cases h1 : (1048576 : Int) < (l4 : Int)
    · go_enter Try.func3, Try.ntmps3
      go_wp2
      go_ret
      exact ⟨rfl, rfl⟩
    · by_cases h2 : (1048576 : Int) < (l3 : Int) + (l4 : Int)
      · go_enter Try.func3, Try.ntmps3
        go_wp2
        go_ret
        exact ⟨rfl, rfl⟩
      · by_cases h3 : (65536 : Int) < (l3 : Int)
        · go_enter Try.func3, Try.ntmps3
          go_wp2
          go_ret
          exact ⟨rfl, rfl⟩
        · have h4 : (65536 : Int) < (l4 : Int) := by omega
          go_enter Try.func3, Try.ntmps3
          go_wp2
          go_ret
          exact ⟨rfl, rfl⟩

/-- A row of another type is another block than an Instance. -/
theorem row_ne {w : World} {I g n : Nat} {p ab av : Int} {t : TypeId} {f : Nat → Value} (hi : Inst w I p ab av) (hr : w.rowIs g t n f) (ht : t ≠ 33) : g ≠ I := fun e => by
  obtain ⟨c, hc, _⟩ := hr
  rw [e] at hc
  unfold Inst at hi
  rw [hi] at hc
  simp at hc
  exact ht hc.2.symm

/-- Two blocks laid, one behind the other. -/
theorem two_new (w : World) (o o' : Obj) : ((w.alloc o).alloc o').drew.heap[w.heap.size]? = some o ∧ ((w.alloc o).alloc o').drew.heap[w.heap.size + 1]? = some o' ∧ Below w.heap.size w ((w.alloc o).alloc o').drew := by
  have e : (w.alloc o).heap.size = w.heap.size + 1 := by simp
  refine ⟨?_, ?_, (((Below.refl _ _).alloc (Nat.le_refl _) _).alloc (by simp) _).drew⟩
  · show ((w.alloc o).alloc o').heap[w.heap.size]? = _
    rw [Below.heap_alloc _ _ _ (by omega)]
    exact heap_alloc_new _ _
  · show ((w.alloc o).alloc o').heap[w.heap.size + 1]? = _
    rw [← e]
    exact heap_alloc_new _ _

theorem grown_of_below {w w' : World} (h : Below w.heap.size w w') (row : Option Nat) : w.grownBy w' row := ⟨h.os, h.tape, h.output, h.size, fun k hk _ => h.block k hk⟩

/-- What a round hands on. -/
theorem script_rel {w wr wc w6 : World} {I g3 g4 l3 l4 : Nat} {p ab av : Int} {fb fv : Nat → Int} (o o' : Obj) (hbel : Below w.heap.size w wr) (bc : Below wr.heap.size wr wc) (hG : (wc.alloc o).grownBy w6 (some I)) (hI : Inst w6 I p ab av)
    (hIB : w.heap.size ≤ I) (hg3 : w.heap.size ≤ g3) (hg4 : w.heap.size ≤ g4) (r3 : wr.rowIs g3 2 l3 (fun j => .int .i64 (fb j))) (r4 : wr.rowIs g4 3 l4 (fun j => .int .i64 (fv j))) (hn3 : g3 ≠ I) (hn4 : g4 ≠ I) :
    Hid (Inst (w6.alloc o') I p ab av) ∧ Hid (Own w.heap.size (w6.alloc o') 2 (some ⟨g3, 0, none⟩) l3 fb) ∧ Hid (Own w.heap.size (w6.alloc o') 3 (some ⟨g4, 0, none⟩) l4 fv) ∧ Below w.heap.size w (w6.alloc o') := by
  have s1 := hbel.size
  have s2 := bc.size
  have s3 := hG.size
  have s4 : (wc.alloc o).heap.size = wc.heap.size + 1 := by simp
  have l3' := r3.lt
  have l4' := r4.lt
  have hb6 : Below w.heap.size w w6 := ((hbel.trans (bc.mono s1)).alloc (Nat.le_trans s1 s2) o).grown hG (by omega) (fun q hq => by cases hq; exact hIB)
  have e3 : w6.heap[g3]? = wr.heap[g3]? := ((hG.block g3 (by omega) (by simp; exact hn3)).trans (Below.heap_alloc _ _ _ (by omega))).trans (bc.block g3 l3')
  have e4 : w6.heap[g4]? = wr.heap[g4]? := ((hG.block g4 (by omega) (by simp; exact hn4)).trans (Below.heap_alloc _ _ _ (by omega))).trans (bc.block g4 l4')
  exact ⟨hI.of_block (Below.heap_alloc _ _ _ (block_lt hI)), fun _ => ⟨g3, rfl, hg3, (r3.of_block e3).alloc _⟩, fun _ => ⟨g4, rfl, hg4, (r4.of_block e4).alloc _⟩, hb6.alloc hb6.size _⟩

set_option maxRecDepth 100000 in
set_option maxHeartbeats 3200000 in
theorem script_main (p ab0 av0 : Int) (a3 a4 : Option Addr) (l3 c3 l4 c4 : Nat) (fb fv : Nat → Int) (w : World) (h3 : l3 ≤ 65536) (h4 : l4 ≤ 65536) (s3 : Src w a3 l3 c3 fb) (s4 : Src w a4 l4 c4 fv) :
    Calls Try.prog 3 #[.int .i64 p, .int .i64 ab0, .int .i64 av0, .slice a3 l3 c3, .slice a4 l4 c4] w fun e w' => e = .returned (.bool true) ∧ Below w.heap.size w w' := by
  have q0 : decide ((65536 : Int) < (l3 : Int)) = false := decide_eq_false (by omega)
  have q1 : decide ((65536 : Int) < (l4 : Int)) = false := decide_eq_false (by omega)
  have HS3 : Hid (Src w a3 l3 c3 fb) := s3
  have HS4 : Hid (Src w a4 l4 c4 fv) := s4
  clear s3 s4
  go_enter Try.func3, Try.ntmps3
  go_wp2_with fail
  refine (script_bytes_yes p ab0 av0 a3 a4 l3 c3 l4 c4 w (by omega)).mono ?_
  rintro e w' ⟨rfl, hw⟩
  obtain rfl := hw.symm
  clear hw
  go_wp2_with fail
  refine (cloneI64_any a3 l3 c3 fb w (by omega) HS3.out).mono ?_
  rintro e w1 ⟨a3', rfl, o3, b1⟩
  go_wp2_with fail
  refine (cloneInt_any a4 l4 c4 fv w1 (by omega) (HS4.out.below b1)).mono ?_
  rintro e w2 ⟨a4', rfl, o4, b2⟩
  have O3 : Hid (Own w.heap.size w2 2 a3' l3 fb) := o3.below b2
  have O4 : Hid (Own w.heap.size w2 3 a4' l4 fv) := fun h => by obtain ⟨g, e1, e2, e3⟩ := o4 h; exact ⟨g, e1, Nat.le_trans b1.size e2, e3⟩
  have hb : Below w.heap.size w w2 := b1.trans (b2.mono b1.size)
  clear o3 o4 b1 b2
  go_wp2_with fail
  refine (vote_any ab0 av0 w2).mono ?_
  rintro e w3 ⟨rfl, rfl⟩
  go_wp2_with fail
  refine (min3_any l3 l4 l4 _).mono ?_
  rintro e w4 ⟨n, rfl, n3, n4, _, rfl⟩
  go_wp2
  have I0 : Inst ((w2.alloc (.cells #[.int .i64 ab0, .int .i64 av0] 30)).alloc (.cells #[.int .i64 p, .int .i64 ab0, .int .i64 av0] 33)) (w2.heap.size + 1) p ab0 av0 := by
    have e : (w2.alloc (.cells #[.int .i64 ab0, .int .i64 av0] 30)).heap.size = w2.heap.size + 1 := by simp
    unfold Inst
    rw [← e]
    exact heap_alloc_new _ _
  have bI : Below w2.heap.size w2 ((w2.alloc (.cells #[.int .i64 ab0, .int .i64 av0] 30)).alloc (.cells #[.int .i64 p, .int .i64 ab0, .int .i64 av0] 33)) := ((Below.refl _ _).alloc (Nat.le_refl _) _).alloc (by simp) _
  generalize ((w2.alloc (.cells #[.int .i64 ab0, .int .i64 av0] 30)).alloc (.cells #[.int .i64 p, .int .i64 ab0, .int .i64 av0] 33)) = w5 at I0 bI ⊢
  have O3' : Hid (Own w.heap.size w5 2 a3' l3 fb) := O3.out.below bI
  have O4' : Hid (Own w.heap.size w5 3 a4' l4 fv) := O4.out.below bI
  have hb5 : Below w.heap.size w w5 := hb.trans (bI.mono hb.size)
  have hIB : w.heap.size ≤ w2.heap.size + 1 := Nat.le_succ_of_le hb.size
  clear O3 O4 bI hb
  generalize w2.heap.size + 1 = I at I0 hIB ⊢
  clear w2 w1 HS3 HS4
  go_loopg [13] n (fun gk i wr => ∃ (k : Nat) (ab av : Int), k ≤ n ∧ gk = n - k ∧ i = .int .i64 k ∧ Hid (Inst wr I p ab av) ∧ Hid (Own w.heap.size wr 2 a3' l3 fb) ∧ Hid (Own w.heap.size wr 3 a4' l4 fv) ∧ Below w.heap.size w wr)
  case atStart => exact ⟨0, ab0, av0, Nat.zero_le _, rfl, rfl, I0, O3', O4', hb5⟩
  case round =>
    clear I0 O3' O4' hb5
    obtain ⟨k, ab, av, hk, rfl, rfl, hI, hO3, hO4, hbel⟩ := hrel
    by_cases hlt : k < n
    · obtain ⟨g3, rfl, hg3, r3⟩ := hO3.out (by omega)
      obtain ⟨g4, rfl, hg4, r4⟩ := hO4.out (by omega)
      have c3 := r3.cell (i := k) (by omega)
      have c4 := r4.cell (i := k) (by omega)
      have hn3 : g3 ≠ I := row_ne hI.out r3 (by decide)
      have hn4 : g4 ≠ I := row_ne hI.out r4 (by decide)
      have R3 : Hid (wr.rowIs g3 2 l3 (fun j => .int .i64 (fb j))) := r3
      have R4 : Hid (wr.rowIs g4 3 l4 (fun j => .int .i64 (fv j))) := r4
      clear r3 r4 hO3 hO4
      have z0 : (0 : Int) ≤ (k : Int) := by omega
      have z1 : (k : Int) < (n : Int) := by omega
      have z2 : (k : Int) < (l3 : Int) := by omega
      have z3 : (k : Int) < (l4 : Int) := by omega
      generalize fb k = b at c3
      generalize fv k = x at c4
      by_cases hx : (x == 0) = true
      · go_wp2
        go_roundg (n - (k + 1))
        case measure => omega
        case rel => exact ⟨k + 1, ab, av, by omega, rfl, by go_num, hI, fun _ => ⟨g3, rfl, hg3, R3.out⟩, fun _ => ⟨g4, rfl, hg4, R4.out⟩, hbel⟩
      · have hx0 : (x == 0) = false := by simpa using hx
        clear hx
        go_upto_region 15 with fail
        go_cut [14] (fun s wc => ∃ V : Nat, s = .pointer (some ⟨V, 0, none⟩) ∧ wr.heap.size ≤ V ∧ Hid (wc.heap[V]? = some (.cells #[.int .i64 b, .int .i64 x] 30 (0, 0))) ∧ Below wr.heap.size wr wc)
        case first =>
          go_region_held3 (fun w' => w'.cell? ⟨g3, k, none⟩ = some (.int .i64 b) ∧ w'.cell? ⟨g4, k, none⟩ = some (.int .i64 x)) (go_keep)
            ((go_at_call 11; refine (vote_any _ _ _).mono ?_; rintro e w' ⟨rfl, rfl⟩))
          all_goals (go_wp2_with fail)
          all_goals go_meet
          all_goals first
            | exact ⟨_, rfl, Nat.le_succ _, (two_new _ _ _).2.1, (two_new _ _ _).2.2⟩
            | exact ⟨_, rfl, Nat.le_refl _, (two_new _ _ _).1, (two_new _ _ _).2.2⟩
        case rest =>
          obtain ⟨V, rfl, hV, HV, bc⟩ := hcut
          have hIc : Inst wc I p ab av := hI.out.of_block (bc.block I (block_lt hI.out))
          have hIlt := block_lt hI.out
          have hVlt := block_lt HV.out
          have v0 : wc.cell? ⟨V, 0, none⟩ = some (.int .i64 b) := block_cell HV.out 0
          have v1 : wc.cell? ⟨V, 1, none⟩ = some (.int .i64 x) := block_cell HV.out 1
          have i0 : wc.cell? ⟨I, 0, none⟩ = some (.int .i64 p) := block_cell hIc 0
          have i1 : wc.cell? ⟨I, 1, none⟩ = some (.int .i64 ab) := block_cell hIc 1
          have i2 : wc.cell? ⟨I, 2, none⟩ = some (.int .i64 av) := block_cell hIc 2
          have t9 : I < wc.heap.size := block_lt hIc
          have hIB' : Hid (Inst (wc.alloc (.cells #[.int .i64 ab, .int .i64 av] 30)) I p ab av) := hIc.of_block (Below.heap_alloc _ _ _ t9)
          have vv0 : Hid ((wc.alloc (.cells #[.int .i64 ab, .int .i64 av] 30)).cell? ⟨V, 0, none⟩ = some (.int .i64 b)) := (World.cell?_of_block (Below.heap_alloc _ _ _ hVlt)).trans v0
          have vv1 : Hid ((wc.alloc (.cells #[.int .i64 ab, .int .i64 av] 30)).cell? ⟨V, 1, none⟩ = some (.int .i64 x)) := (World.cell?_of_block (Below.heap_alloc _ _ _ hVlt)).trans v1
          clear c3 c4 hIc
          by_cases hs : (ab == b && av == x) = true
          · have es : ab = b ∧ av = x := by simpa using hs
            obtain ⟨rfl, rfl⟩ := es
            go_wp2_with fail
            refine (accept_same I p ab av _ hIB'.out).mono ?_
            rintro e w6 ⟨rfl, H6⟩
            have hG6 := grown_of_below H6 (some I)
            have hI6 : Inst w6 I p ab av := hIB'.out.of_block (H6.block I (by have := block_lt hIB'.out; exact this))
            clear H6
            have j0 : w6.cell? ⟨I, 0, none⟩ = some (.int .i64 p) := block_cell hI6 0
            have j1 : w6.cell? ⟨I, 1, none⟩ = some (.int .i64 ab) := block_cell hI6 1
            have j2 : w6.cell? ⟨I, 2, none⟩ = some (.int .i64 av) := block_cell hI6 2
            have HI6 : Hid (Inst w6 I p ab av) := hI6
            have y0 : w6.cell? ⟨V, 0, none⟩ = some (.int .i64 ab) := (World.cell?_of_block (hG6.block V (by simp; omega) (by simp; omega))).trans (vv0.out)
            have y1 : w6.cell? ⟨V, 1, none⟩ = some (.int .i64 av) := (World.cell?_of_block (hG6.block V (by simp; omega) (by simp; omega))).trans (vv1.out)
            have u0 : w6.cell? ⟨wc.heap.size, 0, none⟩ = some (.int .i64 ab) := (World.cell?_of_block (hG6.block wc.heap.size (by simp) (by simp; omega))).trans (by simp)
            have u1 : w6.cell? ⟨wc.heap.size, 1, none⟩ = some (.int .i64 av) := (World.cell?_of_block (hG6.block wc.heap.size (by simp) (by simp; omega))).trans (by simp)
            have t0 : wc.heap.size < w6.heap.size := by have := hG6.size; simp at this; omega
            have t1 : V < w6.heap.size := by omega
            have t2 : I < w6.heap.size := block_lt hI6
            have HG6 : Hid ((wc.alloc (.cells #[.int .i64 ab, .int .i64 av] 30)).grownBy w6 (some I)) := hG6
            clear hI6 hG6 i0 i1 i2 v0 v1
            have q5 := eql_vote ab av ab av
            have q6 := eql_vote ab av ab av
            have q7 := neq_vote ab av ab av
            have s0 : (ab == ab && av == av) = true := by simp
            rw [s0] at q5 q6 q7
            go_wp2
            go_roundg (n - (k + 1))
            case measure => omega
            case rel => exact ⟨k + 1, ab, av, by omega, rfl, by go_num, script_rel _ _ hbel bc HG6.out HI6.out hIB hg3 hg4 R3.out R4.out hn3 hn4⟩
          · have hne : (ab == b && av == x) = false := by simpa using hs
            clear hs
            by_cases hbp : b < p
            · go_wp2_with fail
              refine (accept_low I p ab av b x _ hIB'.out hne hbp).mono ?_
              rintro e w6 ⟨rfl, H6⟩
              have hG6 := grown_of_below H6 (some I)
              have hI6 : Inst w6 I p ab av := hIB'.out.of_block (H6.block I (by have := block_lt hIB'.out; exact this))
              clear H6
              have j0 : w6.cell? ⟨I, 0, none⟩ = some (.int .i64 p) := block_cell hI6 0
              have j1 : w6.cell? ⟨I, 1, none⟩ = some (.int .i64 ab) := block_cell hI6 1
              have j2 : w6.cell? ⟨I, 2, none⟩ = some (.int .i64 av) := block_cell hI6 2
              have HI6 : Hid (Inst w6 I p ab av) := hI6
              have y0 : w6.cell? ⟨V, 0, none⟩ = some (.int .i64 b) := (World.cell?_of_block (hG6.block V (by simp; omega) (by simp; omega))).trans (vv0.out)
              have y1 : w6.cell? ⟨V, 1, none⟩ = some (.int .i64 x) := (World.cell?_of_block (hG6.block V (by simp; omega) (by simp; omega))).trans (vv1.out)
              have u0 : w6.cell? ⟨wc.heap.size, 0, none⟩ = some (.int .i64 ab) := (World.cell?_of_block (hG6.block wc.heap.size (by simp) (by simp; omega))).trans (by simp)
              have u1 : w6.cell? ⟨wc.heap.size, 1, none⟩ = some (.int .i64 av) := (World.cell?_of_block (hG6.block wc.heap.size (by simp) (by simp; omega))).trans (by simp)
              have t0 : wc.heap.size < w6.heap.size := by have := hG6.size; simp at this; omega
              have t1 : V < w6.heap.size := by omega
              have t2 : I < w6.heap.size := block_lt hI6
              have HG6 : Hid ((wc.alloc (.cells #[.int .i64 ab, .int .i64 av] 30)).grownBy w6 (some I)) := hG6
              clear hI6 hG6 i0 i1 i2 v0 v1
              have q5 := eql_vote ab av b x
              have q6 := eql_vote ab av b x
              have q7 := neq_vote ab av ab av
              have s0 : (ab == ab && av == av) = true := by simp
              rw [s0] at q7
              rw [hne] at q5 q6
              clear hne
              go_wp2
              go_roundg (n - (k + 1))
              case measure => omega
              case rel => exact ⟨k + 1, ab, av, by omega, rfl, by go_num, script_rel _ _ hbel bc HG6.out HI6.out hIB hg3 hg4 R3.out R4.out hn3 hn4⟩
            · by_cases hv : (av != 0) = true
              · by_cases hle : b ≤ ab
                · go_wp2_with fail
                  refine (accept_old I p ab av b x _ hIB'.out hne (by omega) hv (by omega)).mono ?_
                  rintro e w6 ⟨rfl, H6⟩
                  have hG6 := grown_of_below H6 (some I)
                  have hI6 : Inst w6 I p ab av := hIB'.out.of_block (H6.block I (by have := block_lt hIB'.out; exact this))
                  clear H6
                  have j0 : w6.cell? ⟨I, 0, none⟩ = some (.int .i64 p) := block_cell hI6 0
                  have j1 : w6.cell? ⟨I, 1, none⟩ = some (.int .i64 ab) := block_cell hI6 1
                  have j2 : w6.cell? ⟨I, 2, none⟩ = some (.int .i64 av) := block_cell hI6 2
                  have HI6 : Hid (Inst w6 I p ab av) := hI6
                  have y0 : w6.cell? ⟨V, 0, none⟩ = some (.int .i64 b) := (World.cell?_of_block (hG6.block V (by simp; omega) (by simp; omega))).trans (vv0.out)
                  have y1 : w6.cell? ⟨V, 1, none⟩ = some (.int .i64 x) := (World.cell?_of_block (hG6.block V (by simp; omega) (by simp; omega))).trans (vv1.out)
                  have u0 : w6.cell? ⟨wc.heap.size, 0, none⟩ = some (.int .i64 ab) := (World.cell?_of_block (hG6.block wc.heap.size (by simp) (by simp; omega))).trans (by simp)
                  have u1 : w6.cell? ⟨wc.heap.size, 1, none⟩ = some (.int .i64 av) := (World.cell?_of_block (hG6.block wc.heap.size (by simp) (by simp; omega))).trans (by simp)
                  have t0 : wc.heap.size < w6.heap.size := by have := hG6.size; simp at this; omega
                  have t1 : V < w6.heap.size := by omega
                  have t2 : I < w6.heap.size := block_lt hI6
                  have HG6 : Hid ((wc.alloc (.cells #[.int .i64 ab, .int .i64 av] 30)).grownBy w6 (some I)) := hG6
                  clear hI6 hG6 i0 i1 i2 v0 v1
                  have q5 := eql_vote ab av b x
                  have q6 := eql_vote ab av b x
                  have q7 := neq_vote ab av ab av
                  have s0 : (ab == ab && av == av) = true := by simp
                  rw [s0] at q7
                  rw [hne] at q5 q6
                  clear hne
                  go_wp2
                  go_roundg (n - (k + 1))
                  case measure => omega
                  case rel => exact ⟨k + 1, ab, av, by omega, rfl, by go_num, script_rel _ _ hbel bc HG6.out HI6.out hIB hg3 hg4 R3.out R4.out hn3 hn4⟩
                · go_wp2_with fail
                  refine (accept_take I p ab av b x _ hIB'.out hne (by omega) (Or.inr (by omega))).mono ?_
                  rintro e w6 ⟨rfl, H6⟩
                  obtain ⟨hI6, hG6⟩ := H6
                  have j0 : w6.cell? ⟨I, 0, none⟩ = some (.int .i64 p) := block_cell hI6 0
                  have j1 : w6.cell? ⟨I, 1, none⟩ = some (.int .i64 b) := block_cell hI6 1
                  have j2 : w6.cell? ⟨I, 2, none⟩ = some (.int .i64 x) := block_cell hI6 2
                  have HI6 : Hid (Inst w6 I p b x) := hI6
                  have y0 : w6.cell? ⟨V, 0, none⟩ = some (.int .i64 b) := (World.cell?_of_block (hG6.block V (by simp; omega) (by simp; omega))).trans (vv0.out)
                  have y1 : w6.cell? ⟨V, 1, none⟩ = some (.int .i64 x) := (World.cell?_of_block (hG6.block V (by simp; omega) (by simp; omega))).trans (vv1.out)
                  have u0 : w6.cell? ⟨wc.heap.size, 0, none⟩ = some (.int .i64 ab) := (World.cell?_of_block (hG6.block wc.heap.size (by simp) (by simp; omega))).trans (by simp)
                  have u1 : w6.cell? ⟨wc.heap.size, 1, none⟩ = some (.int .i64 av) := (World.cell?_of_block (hG6.block wc.heap.size (by simp) (by simp; omega))).trans (by simp)
                  have t0 : wc.heap.size < w6.heap.size := by have := hG6.size; simp at this; omega
                  have t1 : V < w6.heap.size := by omega
                  have t2 : I < w6.heap.size := block_lt hI6
                  have HG6 : Hid ((wc.alloc (.cells #[.int .i64 ab, .int .i64 av] 30)).grownBy w6 (some I)) := hG6
                  clear hI6 hG6 i0 i1 i2 v0 v1
                  have q5 := eql_vote ab av b x
                  have q6 := eql_vote b x b x
                  have q7 := neq_vote b x ab av
                  have s0 : (b == b && x == x) = true := by simp
                  rw [s0] at q6
                  rw [hne] at q5
                  have s1 : (b == ab && x == av) = false := by rw [← hne, BEq.comm (a := b), BEq.comm (a := x)]
                  rw [s1] at q7
                  clear hne s1
                  go_wp2
                  go_roundg (n - (k + 1))
                  case measure => omega
                  case rel => exact ⟨k + 1, b, x, by omega, rfl, by go_num, script_rel _ _ hbel bc HG6.out HI6.out hIB hg3 hg4 R3.out R4.out hn3 hn4⟩
              · have hv0 : (av != 0) = false := by simpa using hv
                clear hv
                go_wp2_with fail
                refine (accept_take I p ab av b x _ hIB'.out hne (by omega) (Or.inl hv0)).mono ?_
                rintro e w6 ⟨rfl, H6⟩
                obtain ⟨hI6, hG6⟩ := H6
                have j0 : w6.cell? ⟨I, 0, none⟩ = some (.int .i64 p) := block_cell hI6 0
                have j1 : w6.cell? ⟨I, 1, none⟩ = some (.int .i64 b) := block_cell hI6 1
                have j2 : w6.cell? ⟨I, 2, none⟩ = some (.int .i64 x) := block_cell hI6 2
                have HI6 : Hid (Inst w6 I p b x) := hI6
                have y0 : w6.cell? ⟨V, 0, none⟩ = some (.int .i64 b) := (World.cell?_of_block (hG6.block V (by simp; omega) (by simp; omega))).trans (vv0.out)
                have y1 : w6.cell? ⟨V, 1, none⟩ = some (.int .i64 x) := (World.cell?_of_block (hG6.block V (by simp; omega) (by simp; omega))).trans (vv1.out)
                have u0 : w6.cell? ⟨wc.heap.size, 0, none⟩ = some (.int .i64 ab) := (World.cell?_of_block (hG6.block wc.heap.size (by simp) (by simp; omega))).trans (by simp)
                have u1 : w6.cell? ⟨wc.heap.size, 1, none⟩ = some (.int .i64 av) := (World.cell?_of_block (hG6.block wc.heap.size (by simp) (by simp; omega))).trans (by simp)
                have t0 : wc.heap.size < w6.heap.size := by have := hG6.size; simp at this; omega
                have t1 : V < w6.heap.size := by omega
                have t2 : I < w6.heap.size := block_lt hI6
                have HG6 : Hid ((wc.alloc (.cells #[.int .i64 ab, .int .i64 av] 30)).grownBy w6 (some I)) := hG6
                clear hI6 hG6 i0 i1 i2 v0 v1
                have q5 := eql_vote ab av b x
                have q6 := eql_vote b x b x
                have q7 := neq_vote b x ab av
                have s0 : (b == b && x == x) = true := by simp
                rw [s0] at q6
                rw [hne] at q5
                have s1 : (b == ab && x == av) = false := by rw [← hne, BEq.comm (a := b), BEq.comm (a := x)]
                rw [s1] at q7
                clear hne s1
                go_wp2
                go_roundg (n - (k + 1))
                case measure => omega
                case rel => exact ⟨k + 1, b, x, by omega, rfl, by go_num, script_rel _ _ hbel bc HG6.out HI6.out hIB hg3 hg4 R3.out R4.out hn3 hn4⟩
    · go_wp2
      go_ret
      exact ⟨rfl, hbel⟩

end Go.Proofs.Qxb6600353a
