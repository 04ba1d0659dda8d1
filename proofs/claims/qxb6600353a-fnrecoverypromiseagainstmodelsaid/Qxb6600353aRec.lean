/-
  Seat b6600353a. (*Recovery).Promise (function 20).
-/
import Derived.Test.Qxb6600353aVotes
import Derived.Deep.DeepCutAuto
import Derived.Deep.LoopGhost
namespace Go.Proofs.Qxb6600353a
open Go.RowKit Go.Maps

/-- Block Rb is a Recovery of ballot bal; its map (none is made yet: mb is none) reads as D. -/
def RecAt (w : World) (Rb : Nat) (bal : Int) (mb : Option Nat) (n : Nat) (D : DataW Unit) : Prop :=
  w.heap[Rb]? = some (.cells #[.int .i64 bal, .map mb] 48 (0, 0)) ∧ (mb = none → D = .map []) ∧ ∀ b, mb = some b → w.ownsMap Try.prog 3 voteR b n D

/-- Nothing that was there has turned but the Recovery and its map. -/
structure Turn (w w' : World) (Rb : Nat) (mb mb' : Option Nat) : Prop where
  os : w'.os = w.os
  tape : w'.tape = w.tape
  output : w'.output = w.output
  size : w.heap.size ≤ w'.heap.size
  block : ∀ k, k < w.heap.size → k ≠ Rb → mb ≠ some k → w'.heap[k]? = w.heap[k]?
  made : ∀ b, mb' = some b → mb = some b ∨ w.heap.size ≤ b

/-- What Promise answers, the map reading as D behind it. -/
def Ans (D : DataW Unit) (bal q rb rv : Int) (ok : Bool) : Prop :=
  ((size D : Int) < q ∧ ok = false ∧ rb = 0 ∧ rv = 0) ∨ (¬ (size D : Int) < q ∧ ok = true ∧ rb = bal ∧ Picks D rv)

/-- The map stands ready: what the rest of the body is told of the world. -/
def Ready (w wc : World) (Rb : Nat) (bal vb vv : Int) (mb : Option Nat) (n : Nat) (D : DataW Unit) (b : Nat) : Prop :=
  wc.heap[Rb]? = some (.cells #[.int .i64 bal, .map (some b)] 48 (0, 0)) ∧ wc.ownsMap Try.prog 3 voteR b n D ∧
    wc.heap[w.heap.size]? = some (.cells #[.int .i64 vb, .int .i64 vv] 30 (0, 0)) ∧ wc.heap[w.heap.size + 1]? = some (.cells #[.int .i64 0, .int .i64 0] 30 (0, 0)) ∧ Turn w wc Rb mb (some b) ∧ Rb < w.heap.size

theorem ready_some {w : World} {Rb b n : Nat} {bal vb vv : Int} {D : DataW Unit} (h : RecAt w Rb bal (some b) n D) :
    Ready w ((w.alloc (.cells #[.int .i64 vb, .int .i64 vv] 30)).alloc (.cells #[.int .i64 0, .int .i64 0] 30)) Rb bal vb vv (some b) n D b := by
  have hb := h.2.2 b rfl
  have hR := block_lt h.1
  have e : (w.alloc (.cells #[.int .i64 vb, .int .i64 vv] 30)).heap.size = w.heap.size + 1 := by simp
  refine ⟨?_, (hb.alloc _).alloc _, ?_, ?_, ⟨rfl, rfl, rfl, by simp; omega, fun k hk _ _ => ?_, fun b' hb' => Or.inl hb'⟩, hR⟩
  · rw [Below.heap_alloc _ _ _ (by omega), Below.heap_alloc _ _ _ hR]; exact h.1
  · rw [Below.heap_alloc _ _ _ (by omega)]; exact heap_alloc_new _ _
  · rw [← e]; exact heap_alloc_new _ _
  · rw [Below.heap_alloc _ _ _ (by omega), Below.heap_alloc _ _ _ hk]

theorem ready_none {w : World} {Rb n : Nat} {bal vb vv : Int} {D : DataW Unit} (h : RecAt w Rb bal none n D) :
    Ready w ((((w.alloc (.cells #[.int .i64 vb, .int .i64 vv] 30)).alloc (.cells #[.int .i64 0, .int .i64 0] 30)).alloc (.map #[] 0)).setCell ⟨Rb, 1, none⟩ (.map (some (w.heap.size + 2)))) Rb bal vb vv none n D (w.heap.size + 2) := by
  have hR := block_lt h.1
  have hD := h.2.1 rfl
  subst hD
  have e : (w.alloc (.cells #[.int .i64 vb, .int .i64 vv] 30)).heap.size = w.heap.size + 1 := by simp
  have e2 : ((w.alloc (.cells #[.int .i64 vb, .int .i64 vv] 30)).alloc (.cells #[.int .i64 0, .int .i64 0] 30)).heap.size = w.heap.size + 2 := by simp
  have hm := World.ownsMap_made ((w.alloc (.cells #[.int .i64 vb, .int .i64 vv] 30)).alloc (.cells #[.int .i64 0, .int .i64 0] 30)) Try.prog 3 voteR
  rw [e2] at hm
  refine ⟨?_, (hm.setCell (by show w.heap.size + 2 ≠ Rb; omega) _).mono (Nat.zero_le _), ?_, ?_, ⟨rfl, rfl, rfl, by simp [World.setCell]; omega, fun k hk hk1 _ => ?_, fun b' hb' => Or.inr (by cases hb'; omega)⟩, hR⟩
  · have h1 : (((w.alloc (.cells #[.int .i64 vb, .int .i64 vv] 30)).alloc (.cells #[.int .i64 0, .int .i64 0] 30)).alloc (.map #[] 0)).heap[Rb]? = some (.cells #[.int .i64 bal, .map none] 48 (0, 0)) := by
      rw [Below.heap_alloc _ _ _ (by omega), Below.heap_alloc _ _ _ (by omega), Below.heap_alloc _ _ _ hR]; exact h.1
    exact heap_setCell_same _ Rb 1 _ _ (.map (some (w.heap.size + 2))) h1
  · rw [Below.heap_setCell _ _ _ _ (by show w.heap.size ≠ Rb; omega), Below.heap_alloc _ _ _ (by omega), Below.heap_alloc _ _ _ (by omega)]; exact heap_alloc_new _ _
  · rw [Below.heap_setCell _ _ _ _ (by show w.heap.size + 1 ≠ Rb; omega), Below.heap_alloc _ _ _ (by omega), ← e]; exact heap_alloc_new _ _
  · rw [Below.heap_setCell _ _ _ _ hk1, Below.heap_alloc _ _ _ (by omega), Below.heap_alloc _ _ _ (by omega), Below.heap_alloc _ _ _ hk]

/-- Behind the store of the result. -/
theorem rec_end {w w3 wx : World} {Rb b n : Nat} {bal : Int} {mb : Option Nat} {D : DataW Unit} (hO : w3.ownsMap Try.prog 3 voteR b n D) (hR : w3.heap[Rb]? = some (.cells #[.int .i64 bal, .map (some b)] 48 (0, 0)))
    (hT : Turn w w3 Rb mb (some b)) (hRw : Rb < w.heap.size) (nZ : w.heap.size + 1 ≠ b) (hg : w3.grownBy wx (some (w.heap.size + 1))) : RecAt wx Rb bal (some b) n D ∧ Turn w wx Rb mb (some b) := by
  have s := hT.size
  refine ⟨⟨(hg.block Rb (block_lt hR) (by simp; omega)).trans hR, fun h => (by cases h), fun b' hb' => ?_⟩, hg.os.trans hT.os, hg.tape.trans hT.tape, hg.output.trans hT.output, Nat.le_trans s hg.size,
    fun k hk h1 h2 => (hg.block k (by omega) (by simp; omega)).trans (hT.block k hk h1 h2), hT.made⟩
  cases hb'
  exact hO.kept hg (by simpa using fun e => nZ e.symm)

theorem grown_set2 {w3 wr : World} {B : Nat} (hb : Below w3.heap.size w3 wr) (u v : Value) : w3.grownBy ((wr.setCell ⟨B, 0, none⟩ u).setCell ⟨B, 1, none⟩ v) (some B) :=
  ⟨hb.os, hb.tape, hb.output, by simpa [World.setCell] using hb.size, fun k hk hne => by
    have hk' : k ≠ B := fun e => hne (by rw [e])
    rw [Below.heap_setCell _ _ _ _ hk', Below.heap_setCell _ _ _ _ hk']
    exact hb.block k hk⟩

theorem cell_set2 {w : World} {B k j : Nat} (u v : Value) (hne : ¬ k = B) : ((w.setCell ⟨B, 0, none⟩ u).setCell ⟨B, 1, none⟩ v).drew.cell? ⟨k, j, none⟩ = w.cell? ⟨k, j, none⟩ := by
  refine World.cell?_of_block (w := w) ?_
  show ((w.setCell ⟨B, 0, none⟩ u).setCell ⟨B, 1, none⟩ v).heap[k]? = w.heap[k]?
  rw [Below.heap_setCell _ _ _ _ hne, Below.heap_setCell _ _ _ _ hne]

theorem below_drew {B : Nat} {a w : World} (h : Below B a w) : Below B a w.drew := h.drew

set_option maxRecDepth 100000 in
set_option maxHeartbeats 3200000 in
theorem promise_core (Rb : Nat) (bal a vb vv q : Int) (mb : Option Nat) (n : Nat) (D D' : DataW Unit) (w : World) (h : RecAt w Rb bal mb n D) (hn : n < 1000000) (ha : (Lit.int .i64 a).wf = true) (hD : Hid (D.put (.int .i64 a) (voteD vb vv) = D')) :
    Calls Try.prog 20 #[.pointer (some ⟨Rb, 0, none⟩), .int .i64 a, .agg #[.int .i64 vb, .int .i64 vv], .int .i64 q] w fun e w' => ∃ rb rv ok mb', e = .returned (.tuple #[.agg #[.int .i64 rb, .int .i64 rv], .bool ok]) ∧
      Ans D' bal q rb rv ok ∧ RecAt w' Rb bal mb' (n + 1) D' ∧ Turn w w' Rb mb mb' := by
  have hnil := fun (w : World) (r : Option Nat) => run_eql_map_nil (P := Try.prog) w 46 3 30 r Try.underlying46
  have hmm := @run_makeMap Try.prog
  have HR : Hid (RecAt w Rb bal mb n D) := h
  have r0 : w.cell? ⟨Rb, 0, none⟩ = some (.int .i64 bal) := block_cell h.1 0
  have r1 : w.cell? ⟨Rb, 1, none⟩ = some (.map mb) := block_cell h.1 1
  have rf := block_free h.1 1
  have hR := block_lt h.1
  clear h
  go_enter Try.func20, Try.ntmps20
  go_upto_if 17 with fail
  go_cut [] (fun wc => ∃ b, Hid (Ready w wc Rb bal vb vv mb n D b))
  case first =>
    cases mb with
    | none =>
      have k1 : ((((w.alloc (.cells #[.int .i64 vb, .int .i64 vv] 30)).alloc (.cells #[.int .i64 0, .int .i64 0] 30)).alloc (.map #[] 0))).cell? ⟨Rb, 1, none⟩ = some (.map none) := by
        refine (World.cell?_of_block (w := w) ?_).trans r1
        show _ = w.heap[Rb]?
        rw [Below.heap_alloc _ _ _ (by simp; omega), Below.heap_alloc _ _ _ (by simp; omega), Below.heap_alloc _ _ _ hR]
      have k2 : ((((w.alloc (.cells #[.int .i64 vb, .int .i64 vv] 30)).alloc (.cells #[.int .i64 0, .int .i64 0] 30)).alloc (.map #[] 0))).frozen? ⟨Rb, 1, none⟩ = false := by
        refine (World.frozen?_of_block (w := w) ?_).trans rf
        show _ = w.heap[Rb]?
        rw [Below.heap_alloc _ _ _ (by simp; omega), Below.heap_alloc _ _ _ (by simp; omega), Below.heap_alloc _ _ _ hR]
      go_wp2_with fail
      go_meet
      exact ⟨_, ready_none HR.out⟩
    | some b =>
      go_wp2_with fail
      go_meet
      exact ⟨_, ready_some HR.out⟩
  case rest =>
    clear r0 r1 rf hR HR hmm hnil
    obtain ⟨b, HRd⟩ := hcut
    obtain ⟨hRc, hown, hV, hZ, hT, hRw⟩ := HRd.out
    clear HRd
    obtain ⟨w3, hrun, hown3, hg3⟩ := (hown.drew).update law3 Try.underlying46 (by unfold maxLen; omega) (keyOf_int_mk Try.underlying3 ha) (voteR_mk vb vv)
    rw [hD.out] at hown3
    have hbm : ∃ es clock, wc.heap[b]? = some (.map es clock) := by obtain ⟨es, clock, hb, _⟩ := hown; exact ⟨es, clock, hb⟩
    have nR : Rb ≠ b := fun e => by obtain ⟨es, clock, hb⟩ := hbm; rw [← e, hRc] at hb; cases hb
    have nV : w.heap.size ≠ b := fun e => by obtain ⟨es, clock, hb⟩ := hbm; rw [← e, hV] at hb; cases hb
    have nZ : w.heap.size + 1 ≠ b := fun e => by obtain ⟨es, clock, hb⟩ := hbm; rw [← e, hZ] at hb; cases hb
    have hR3 : w3.heap[Rb]? = some (.cells #[.int .i64 bal, .map (some b)] 48 (0, 0)) := (hg3.block Rb (block_lt hRc) (by simpa using nR)).trans hRc
    have hV3 : w3.heap[w.heap.size]? = some (.cells #[.int .i64 vb, .int .i64 vv] 30 (0, 0)) := (hg3.block _ (block_lt hV) (by simpa using nV)).trans hV
    have hZ3 : w3.heap[w.heap.size + 1]? = some (.cells #[.int .i64 0, .int .i64 0] 30 (0, 0)) := (hg3.block _ (block_lt hZ) (by simpa using nZ)).trans hZ
    have hT3 : Turn w w3 Rb mb (some b) := ⟨hg3.os.trans hT.os, hg3.tape.trans hT.tape, hg3.output.trans hT.output, Nat.le_trans hT.size hg3.size, fun k hk h1 h2 => by
      have hkb : k ≠ b := fun e => by
        subst e
        rcases hT.made k rfl with h | h
        · exact h2 h
        · omega
      exact (hg3.block k (Nat.lt_of_lt_of_le hk hT.size) (by simpa using hkb)).trans (hT.block k hk h1 h2), hT.made⟩
    have c1 : wc.cell? ⟨Rb, 1, none⟩ = some (.map (some b)) := block_cell hRc 1
    have e0 : wc.cell? ⟨w.heap.size, 0, none⟩ = some (.int .i64 vb) := block_cell hV 0
    have e1 : wc.cell? ⟨w.heap.size, 1, none⟩ = some (.int .i64 vv) := block_cell hV 1
    have d0 : w3.cell? ⟨Rb, 0, none⟩ = some (.int .i64 bal) := block_cell hR3 0
    have d1 : w3.cell? ⟨Rb, 1, none⟩ = some (.map (some b)) := block_cell hR3 1
    have f0 : w3.cell? ⟨w.heap.size, 0, none⟩ = some (.int .i64 vb) := block_cell hV3 0
    have f1 : w3.cell? ⟨w.heap.size, 1, none⟩ = some (.int .i64 vv) := block_cell hV3 1
    have z0 : w3.cell? ⟨w.heap.size + 1, 0, none⟩ = some (.int .i64 0) := block_cell hZ3 0
    have z1 : w3.cell? ⟨w.heap.size + 1, 1, none⟩ = some (.int .i64 0) := block_cell hZ3 1
    have zf0 := block_free hZ3 0
    have zf1 := block_free hZ3 1
    have hlen := hown3.len Try.underlying46
    have HO : Hid (w3.ownsMap Try.prog 3 voteR b (n + 1) D') := hown3
    have s0 : Rb < w3.heap.size := block_lt hR3
    have s1 : w.heap.size + 1 < w3.heap.size := block_lt hZ3
    have HB : Hid (w3.heap[Rb]? = some (.cells #[.int .i64 bal, .map (some b)] 48 (0, 0)) ∧ w3.heap[w.heap.size + 1]? = some (.cells #[.int .i64 0, .int .i64 0] 30 (0, 0)) ∧ Turn w w3 Rb mb (some b)) := ⟨hR3, hZ3, hT3⟩
    clear hRc hown hV hZ hT hbm hown3 hg3 hR3 hV3 hZ3 hT3
    go_wp2_with fail
    go_region_held3 (fun w' => w'.cell? ⟨Rb, 1, none⟩ = some (.map (some b)) ∧ w'.cell? ⟨w.heap.size, 0, none⟩ = some (.int .i64 vb) ∧ w'.cell? ⟨w.heap.size, 1, none⟩ = some (.int .i64 vv)) (go_keep) (fail)
    clear c1 e0 e1 hrun
    by_cases hq : (size D' : Int) < q
    · go_wp2
      exact bodyPost_ret (v := .tuple #[.agg #[.int .i64 0, .int .i64 0], .bool false]) (by simp [results, Try.results20, go_sem, z0, z1]) rfl
        ⟨0, 0, false, some b, rfl, Or.inl ⟨hq, rfl, rfl, rfl⟩, rec_end HO.out HB.out.1 HB.out.2.2 hRw nZ (grown_set2 (Below.refl _ _) _ _)⟩
    · have HO4 : Hid ((w3.alloc (.cells #[.int .i64 0, .int .i64 0] 30)).ownsMap Try.prog 3 voteR b (n + 1) D') := HO.out.alloc _
      have b4 : Below w3.heap.size w3 (w3.alloc (.cells #[.int .i64 0, .int .i64 0] 30)) := (Below.refl _ _).alloc (Nat.le_refl _) _
      have h4 : (w3.alloc (.cells #[.int .i64 0, .int .i64 0] 30)).heap[w3.heap.size]? = some (.cells #[.int .i64 0, .int .i64 0] 30 (0, 0)) := heap_alloc_new _ _
      have H4 := show Hid _ from h4
      clear h4
      have e4 : (w3.alloc (.cells #[.int .i64 0, .int .i64 0] 30)).heap.size = w3.heap.size + 1 := by simp
      go_wp2_with (first
        | (at_range; refine wpList_range_own _ rfl _ 46 rfl 3 30 law3 Try.underlying46 voteR b (n + 1) D' rfl HO4.out ?_; intro w5 hrg5 hg5 hs5)
        | fail)
      rw [e4] at hrg5 hs5
      have b5 : Below w3.heap.size w3 w5 := b4.grown hg5 (by simp) (fun k hk => by cases hk)
      have h5 : w5.heap[w3.heap.size]? = some (.cells #[.int .i64 0, .int .i64 0] 30 (0, 0)) := (hg5.block w3.heap.size (by simp) (by simp)).trans H4.out
      have H5 : Hid (w5.heap[w3.heap.size]? = some (.cells #[.int .i64 0, .int .i64 0] 30 (0, 0))) := h5
      have HR5 : Hid (w5.ranges Try.prog 3 voteR b (w3.heap.size + 1) (n + 1) D' (Maps.has D') (Maps.size D')) := hrg5
      clear h5 hg5 hs5 H4 HO4 b4 e4 hrg5
      go_loopg [12] (Maps.size D') (fun gk _ wr => ∃ (left : Lit → Bool) (hb hv : Int), Hid (wr.ranges Try.prog 3 voteR b (w3.heap.size + 1) (n + 1) D' left gk) ∧ Hid (wr.heap[w3.heap.size]? = some (.cells #[.int .i64 hb, .int .i64 hv] 30 (0, 0))) ∧ Hid (Best D' left hb hv) ∧ Below w3.heap.size w3 wr)
      case atStart => exact ⟨_, 0, 0, HR5, H5, best_start D', b5⟩
      case round =>
        clear HR5 H5 b5
        obtain ⟨left, hb, hv, hrg, hH, hB, hbel⟩ := hrel
        have t0 : wr.cell? ⟨w3.heap.size, 0, none⟩ = some (.int .i64 hb) := block_cell hH.out 0
        have t1 : wr.cell? ⟨w3.heap.size, 1, none⟩ = some (.int .i64 hv) := block_cell hH.out 1
        go_wp2_with (first
          | (at_next; refine wpList_next_votes _ rfl _ rfl b (w3.heap.size + 1) (n + 1) D' left gk rfl hrg.out ?_ ?_)
          | fail)
        · intro hc0 hl0
          have HE : Hid ((hv = 0 → Picks D' 2) ∧ (hv ≠ 0 → Picks D' hv)) := best_end hB.out hl0
          clear hl0
          have u0 : wr.cell? ⟨Rb, 0, none⟩ = some (.int .i64 bal) := (hbel.cell (by exact s0)).trans d0
          have uz0 : wr.cell? ⟨w.heap.size + 1, 0, none⟩ = some (.int .i64 0) := (hbel.cell (by exact s1)).trans z0
          have uz1 : wr.cell? ⟨w.heap.size + 1, 1, none⟩ = some (.int .i64 0) := (hbel.cell (by exact s1)).trans z1
          have uf0 : wr.frozen? ⟨w.heap.size + 1, 0, none⟩ = false := (hbel.frozen (by exact s1)).trans zf0
          have uf1 : wr.frozen? ⟨w.heap.size + 1, 1, none⟩ = false := (hbel.frozen (by exact s1)).trans zf1
          have tf1 := block_free hH.out 1
          have n1 : ¬ w3.heap.size = w.heap.size + 1 := by omega
          have n2 : ¬ w3.heap.size = Rb := by omega
          have n3 : ¬ Rb = w.heap.size + 1 := by omega
          by_cases h0 : (hv == 0) = true
          · go_wp2_with fail
            have x0 : (wr.setCell ⟨w3.heap.size, 1, none⟩ (.int .i64 2)).cell? ⟨Rb, 0, none⟩ = some (.int .i64 bal) := (World.cell?_of_block (Below.heap_setCell _ _ _ _ (by show Rb ≠ w3.heap.size; omega))).trans u0
            have x1 : (wr.setCell ⟨w3.heap.size, 1, none⟩ (.int .i64 2)).cell? ⟨w3.heap.size, 1, none⟩ = some (.int .i64 2) := block_cell (heap_setCell_same _ w3.heap.size 1 _ _ (.int .i64 2) hH.out) 1
            have xz0 : (wr.setCell ⟨w3.heap.size, 1, none⟩ (.int .i64 2)).cell? ⟨w.heap.size + 1, 0, none⟩ = some (.int .i64 0) := (World.cell?_of_block (Below.heap_setCell _ _ _ _ (by show w.heap.size + 1 ≠ w3.heap.size; omega))).trans uz0
            have xz1 : (wr.setCell ⟨w3.heap.size, 1, none⟩ (.int .i64 2)).cell? ⟨w.heap.size + 1, 1, none⟩ = some (.int .i64 0) := (World.cell?_of_block (Below.heap_setCell _ _ _ _ (by show w.heap.size + 1 ≠ w3.heap.size; omega))).trans uz1
            have xf0 : (wr.setCell ⟨w3.heap.size, 1, none⟩ (.int .i64 2)).frozen? ⟨w.heap.size + 1, 0, none⟩ = false := (World.frozen?_of_block (Below.heap_setCell _ _ _ _ (by show w.heap.size + 1 ≠ w3.heap.size; omega))).trans uf0
            have xf1 : (wr.setCell ⟨w3.heap.size, 1, none⟩ (.int .i64 2)).frozen? ⟨w.heap.size + 1, 1, none⟩ = false := (World.frozen?_of_block (Below.heap_setCell _ _ _ _ (by show w.heap.size + 1 ≠ w3.heap.size; omega))).trans uf1
            have xb : Below w3.heap.size w3 (wr.setCell ⟨w3.heap.size, 1, none⟩ (.int .i64 2)) := hbel.setCell (by exact Nat.le_refl _) _
            clear u0 uz0 uz1 uf0 uf1 t0 t1 tf1
            generalize (wr.setCell ⟨w3.heap.size, 1, none⟩ (.int .i64 2)) = wz at x0 x1 xz0 xz1 xf0 xf1 xb ⊢
            go_region_held3 (fun w' => w'.cell? ⟨Rb, 0, none⟩ = some (.int .i64 bal) ∧ w'.cell? ⟨w3.heap.size, 1, none⟩ = some (.int .i64 2)) (first | exact ⟨(cell_set2 _ _ n3).trans x0, (cell_set2 _ _ n1).trans x1⟩ | go_keep) (fail)
            go_wp2
            exact bodyPost_ret (v := .tuple #[.agg #[.int .i64 bal, .int .i64 2], .bool true]) (by simp [results, Try.results20, go_sem, xz0, xz1]) rfl
              ⟨bal, 2, true, some b, rfl, Or.inr ⟨by omega, rfl, rfl, HE.out.1 (by simpa using h0)⟩, rec_end HO.out HB.out.1 HB.out.2.2 hRw nZ (grown_set2 (below_drew xb) _ _)⟩
          · have h0' : (hv == 0) = false := by simpa using h0
            go_wp2_with fail
            go_region_held3 (fun w' => w'.cell? ⟨Rb, 0, none⟩ = some (.int .i64 bal) ∧ w'.cell? ⟨w3.heap.size, 1, none⟩ = some (.int .i64 hv)) (first | exact ⟨(cell_set2 _ _ n3).trans u0, (cell_set2 _ _ n1).trans t1⟩ | go_keep) (fail)
            go_wp2
            exact bodyPost_ret (v := .tuple #[.agg #[.int .i64 bal, .int .i64 hv], .bool true]) (by simp [results, Try.results20, go_sem, uz0, uz1]) rfl
              ⟨bal, hv, true, some b, rfl, Or.inr ⟨by omega, rfl, rfl, HE.out.2 (by simpa using h0)⟩, rec_end HO.out HB.out.1 HB.out.2.2 hRw nZ (grown_set2 (below_drew hbel) _ _)⟩
        · intro x cb cv w1 cnt1 hlx hat hrg1 hlt hg1 hs1 hen
          have hH1 : w1.heap[w3.heap.size]? = some (.cells #[.int .i64 hb, .int .i64 hv] 30 (0, 0)) := (hg1.block w3.heap.size (block_lt hH.out) (by simp)).trans hH.out
          have y0 : w1.cell? ⟨w3.heap.size, 0, none⟩ = some (.int .i64 hb) := block_cell hH1 0
          have y1 : w1.cell? ⟨w3.heap.size, 1, none⟩ = some (.int .i64 hv) := block_cell hH1 1
          have yf0 := block_free hH1 0
          have yf1 := block_free hH1 1
          have y2 : w3.heap.size < w1.heap.size := block_lt hH1
          have hbel1 : Below w3.heap.size w3 w1 := hbel.grown hg1 hbel.size (fun k hk => by cases hk; exact Nat.le_succ _)
          have hbw : b < w3.heap.size := HO.out.lt
          have HH1 : Hid (w1.heap[w3.heap.size]? = some (.cells #[.int .i64 hb, .int .i64 hv] 30 (0, 0))) := hH1
          have HR1 : Hid (w1.ranges Try.prog 3 voteR b (w3.heap.size + 1) (n + 1) D' (fun z => left z && !z.sameKey (.int .i64 x)) cnt1) := hrg1
          have HA : Hid (At D' x cb cv) := hat
          clear hH1 hrg1 hs1 hg1 hat t0 t1 hlx
          by_cases h1 : (cv != 0) = false
          · go_wp2
            go_roundg cnt1
            case measure => exact hlt
            case rel => exact ⟨_, hb, hv, HR1.out.alloc _, (Below.heap_alloc _ _ _ y2).trans HH1.out, best_keep hB.out HA.out (Or.inl (by simpa using h1)), hbel1.alloc hbel1.size _⟩
          · have h1' : (cv != 0) = true := by simpa using h1
            clear h1
            by_cases h2 : (hv == 0) = true
            · go_wp2
              go_roundg cnt1
              case measure => exact hlt
              case rel =>
                have R2 := (HR1.out.kept (grown_set2 (Below.refl _ _) (.int .i64 cb) (.int .i64 cv)) (row := some w3.heap.size) (by simp; omega) (by simp)).alloc (.cells #[.int .i64 cb, .int .i64 cv] 30)
                have hH2 := heap_setCell_same _ w3.heap.size 1 _ _ (.int .i64 cv) (heap_setCell_same _ w3.heap.size 0 _ _ (.int .i64 cb) HH1.out)
                have hH3 := (Below.heap_alloc _ (.cells #[.int .i64 cb, .int .i64 cv] 30) _ (block_lt hH2)).trans hH2
                have hB3 : Below w3.heap.size w3 ((w1.setCell ⟨w3.heap.size, 0, none⟩ (.int .i64 cb)).setCell ⟨w3.heap.size, 1, none⟩ (.int .i64 cv)) := (hbel1.setCell (p := ⟨w3.heap.size, 0, none⟩) (Nat.le_refl _) _).setCell (p := ⟨w3.heap.size, 1, none⟩) (Nat.le_refl _) _
                exact ⟨_, cb, cv, R2, hH3, best_take hB.out HA.out (by simpa using h1') (Or.inl (by simpa using h2)), hB3.alloc hB3.size _⟩
            · have h2' : (hv == 0) = false := by simpa using h2
              have h2n : hv ≠ 0 := by simpa using h2
              have HN : Hid (hv ≠ 0) := h2n
              clear h2 h2n
              by_cases h3 : hb < cb
              · go_wp2
                go_roundg cnt1
                case measure => exact hlt
                case rel =>
                  have R2 := (HR1.out.kept (grown_set2 (Below.refl _ _) (.int .i64 cb) (.int .i64 cv)) (row := some w3.heap.size) (by simp; omega) (by simp)).alloc (.cells #[.int .i64 cb, .int .i64 cv] 30)
                  have hH2 := heap_setCell_same _ w3.heap.size 1 _ _ (.int .i64 cv) (heap_setCell_same _ w3.heap.size 0 _ _ (.int .i64 cb) HH1.out)
                  have hH3 := (Below.heap_alloc _ (.cells #[.int .i64 cb, .int .i64 cv] 30) _ (block_lt hH2)).trans hH2
                  have hB3 : Below w3.heap.size w3 ((w1.setCell ⟨w3.heap.size, 0, none⟩ (.int .i64 cb)).setCell ⟨w3.heap.size, 1, none⟩ (.int .i64 cv)) := (hbel1.setCell (p := ⟨w3.heap.size, 0, none⟩) (Nat.le_refl _) _).setCell (p := ⟨w3.heap.size, 1, none⟩) (Nat.le_refl _) _
                  exact ⟨_, cb, cv, R2, hH3, best_take hB.out HA.out (by simpa using h1') (Or.inr h3), hB3.alloc hB3.size _⟩
              · go_wp2
                go_roundg cnt1
                case measure => exact hlt
                case rel => exact ⟨_, hb, hv, HR1.out.alloc _, (Below.heap_alloc _ _ _ y2).trans HH1.out, best_keep hB.out HA.out (Or.inr ⟨HN.out, by omega⟩), hbel1.alloc hbel1.size _⟩

end Go.Proofs.Qxb6600353a
