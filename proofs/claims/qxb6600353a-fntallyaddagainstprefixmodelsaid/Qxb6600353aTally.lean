/-
  Seat b6600353a. (*Tally).Add (function 15).
-/
import Derived.Test.Qxb6600353aTallyW
import Derived.Deep.DeepCutAuto
import Derived.Deep.RegionLaw
import Derived.Deep.AppendLies
import Derived.BigQuiet
import Derived.Deep.RegionHeld3
import Derived.OwnWalk
import Derived.Deep.CutBlock
namespace Go.Proofs.Qxb6600353a
open Go.RowKit

theorem below_drewN {w : World} {n : Nat} : Below w.heap.size w (w.drewN n) := ⟨rfl, rfl, rfl, Nat.le_refl _, fun _ _ => rfl⟩

theorem cell_row2 {w : World} {g i j k l : Nat} {u v : Value} (h : k ≠ g) : ((w.setCell ⟨g, i, none⟩ u).setCell ⟨g, j, none⟩ v).cell? ⟨k, l, none⟩ = w.cell? ⟨k, l, none⟩ :=
  World.cell?_of_block ((Below.heap_setCell _ _ _ _ h).trans (Below.heap_setCell _ _ _ _ h))

theorem cons_one (a b x : Int) : ∀ u ∈ ([.int .i64 a, .int .i64 b, .int .i64 x] : List Value), u.oneCell' = true := by
  intro u hu
  simp only [List.mem_cons, List.not_mem_nil, or_false] at hu
  rcases hu with rfl | rfl | rfl <;> rfl

set_option maxRecDepth 100000 in
set_option maxHeartbeats 3200000 in
theorem add_core (T B : Nat) (a b x q : Int) (v : Value) (R : List (Int × Int × Int)) (w : World) (h : TallyAt w T B v R) (hB : B ≤ w.heap.size) (hR : R.length ≤ 100000) :
    Calls Try.prog 15 #[.pointer (some ⟨T, 0, none⟩), .int .i64 a, .agg #[.int .i64 b, .int .i64 x], .int .i64 q] w fun e w' => ∃ v', e = .returned (.tuple #[.agg #[.int .i64 (addR R a b x).2.1, .int .i64 (addR R a b x).2.2], .bool (decide (q ≤ (cntR (addR R a b x).1 (addR R a b x).2.1 (addR R a b x).2.2 : Int)))]) ∧
      TallyAt w' T B v' (addR R a b x).1 ∧ Moved w w' T v.ownBlock v'.ownBlock := by
  obtain ⟨ao, c, rfl⟩ := tally_form h
  have t0 := block_lt h.1
  obtain ⟨k1, k2, k3, b3, s3⟩ := three_laid w (.cells #[.int .i64 a] 3) (.cells #[.int .i64 b, .int .i64 x] 30) (.cells #[.int .i64 0, .int .i64 0] 30)
  have hT3 : (((w.alloc (.cells #[.int .i64 a] 3)).alloc (.cells #[.int .i64 b, .int .i64 x] 30)).alloc (.cells #[.int .i64 0, .int .i64 0] 30)).heap[T]? = some (.cells #[.slice ao R.length c] 40 (0, 0)) := (b3.block T t0).trans h.1
  have hO3 : (((w.alloc (.cells #[.int .i64 a] 3)).alloc (.cells #[.int .i64 b, .int .i64 x] 30)).alloc (.cells #[.int .i64 0, .int .i64 0] 30)).ownsRow B 55 3 (.slice ao R.length c) R.length (repCells R) := ((h.2.alloc _).alloc _).alloc _
  have c3 : (((w.alloc (.cells #[.int .i64 a] 3)).alloc (.cells #[.int .i64 b, .int .i64 x] 30)).alloc (.cells #[.int .i64 0, .int .i64 0] 30)).cell? ⟨T, 0, none⟩ = some (.slice ao R.length c) := block_cell hT3 0
  have HS : Hid ((((w.alloc (.cells #[.int .i64 a] 3)).alloc (.cells #[.int .i64 b, .int .i64 x] 30)).alloc (.cells #[.int .i64 0, .int .i64 0] 30)).heap[w.heap.size]? = some (.cells #[.int .i64 a] 3 (0, 0)) ∧
    (((w.alloc (.cells #[.int .i64 a] 3)).alloc (.cells #[.int .i64 b, .int .i64 x] 30)).alloc (.cells #[.int .i64 0, .int .i64 0] 30)).heap[w.heap.size + 1]? = some (.cells #[.int .i64 b, .int .i64 x] 30 (0, 0)) ∧
    (((w.alloc (.cells #[.int .i64 a] 3)).alloc (.cells #[.int .i64 b, .int .i64 x] 30)).alloc (.cells #[.int .i64 0, .int .i64 0] 30)).heap[w.heap.size + 1 + 1]? = some (.cells #[.int .i64 0, .int .i64 0] 30 (0, 0)) ∧
    (((w.alloc (.cells #[.int .i64 a] 3)).alloc (.cells #[.int .i64 b, .int .i64 x] 30)).alloc (.cells #[.int .i64 0, .int .i64 0] 30)).heap[T]? = some (.cells #[.slice ao R.length c] 40 (0, 0)) ∧
    (((w.alloc (.cells #[.int .i64 a] 3)).alloc (.cells #[.int .i64 b, .int .i64 x] 30)).alloc (.cells #[.int .i64 0, .int .i64 0] 30)).ownsRow B 55 3 (.slice ao R.length c) R.length (repCells R) ∧
    Below w.heap.size w (((w.alloc (.cells #[.int .i64 a] 3)).alloc (.cells #[.int .i64 b, .int .i64 x] 30)).alloc (.cells #[.int .i64 0, .int .i64 0] 30)) ∧ (((w.alloc (.cells #[.int .i64 a] 3)).alloc (.cells #[.int .i64 b, .int .i64 x] 30)).alloc (.cells #[.int .i64 0, .int .i64 0] 30)).heap.size = w.heap.size + 1 + 1 + 1) := ⟨k1, k2, k3, hT3, hO3, b3, s3⟩
  clear k1 k2 k3 hT3 hO3 b3 s3 h
  go_enter Try.func15, Try.ntmps15
  go_wp2_with fail
  refine (index_any ao R.length c _ _ _ w.heap.size a _ (by omega) (block_cell HS.out.1 0) (tally_reps rfl HS.out.2.2.2.2.1)).mono ?_
  rintro e w4 ⟨r, rfl, hf, b4⟩
  have HF : Hid (Found (fun i => (R.getD i (0, 0, 0)).1) R.length a r) := hf
  clear hf c3
  generalize (((w.alloc (.cells #[.int .i64 a] 3)).alloc (.cells #[.int .i64 b, .int .i64 x] 30)).alloc (.cells #[.int .i64 0, .int .i64 0] 30)) = w3 at HS b4
  have HW : Hid (Sw w w4 T B (Value.slice ao R.length c).ownBlock (.slice ao R.length c) R b x) := sw_below (sw_start HS.out.2.2.2.1 HS.out.2.2.2.2.1 HS.out.2.1 HS.out.2.2.1 HS.out.2.2.2.2.2.1) b4
  have k5 : w4.cell? ⟨w.heap.size, 0, none⟩ = some (.int .i64 a) := (b4.cell (by exact block_lt HS.out.1)).trans (block_cell HS.out.1 0)
  have k6 : w4.cell? ⟨w.heap.size + 1, 0, none⟩ = some (.int .i64 b) := block_cell HW.out.2.2.1 0
  have k7 : w4.cell? ⟨w.heap.size + 1, 1, none⟩ = some (.int .i64 x) := block_cell HW.out.2.2.1 1
  have kT : w4.cell? ⟨T, 0, none⟩ = some (.slice ao R.length c) := block_cell HW.out.1 0
  have f6 : w4.frozen? ⟨w.heap.size + 1, 0, none⟩ = false := block_free HW.out.2.2.1 0
  have f7 : w4.frozen? ⟨w.heap.size + 1, 1, none⟩ = false := block_free HW.out.2.2.1 1
  have fT : w4.frozen? ⟨T, 0, none⟩ = false := block_free HW.out.1 0
  have l1 : w.heap.size + 1 < w4.heap.size := block_lt HW.out.2.2.1
  have l0 : w.heap.size < w4.heap.size := by omega
  have lT : T < w4.heap.size := block_lt HW.out.1
  clear b4 HS w3
  go_upto_block 0 with fail


  go_cut [] (fun wc => ∃ v', Hid (Sw w wc T B (Value.slice ao R.length c).ownBlock v' (addR R a b x).1 (addR R a b x).2.1 (addR R a b x).2.2))
  case first =>
    rcases HF.out with ⟨rfl, hno⟩ | ⟨i, rfl, hi, hfa, hbef⟩
    · have HA : Hid (addR R a b x = (R ++ [(a, b, x)], b, x)) := addR_none R a b x hno
      clear HF hno
      obtain ⟨i0, hi0, hz0, hz1, hz2⟩ := info_parts Try.info55
      have bd : Below w4.heap.size w4 (w4.drew.alloc (.cells #[.int .i64 a, .int .i64 b, .int .i64 x] 55)) := (Below.refl _ _).drew.alloc (Nat.le_refl _) _
      have HSD : Hid (Sw w (w4.drew.alloc (.cells #[.int .i64 a, .int .i64 b, .int .i64 x] 55)) T B (Value.slice ao R.length c).ownBlock (.slice ao R.length c) R b x) := sw_below HW.out bd
      have HN : Hid (∀ j u, ([.int .i64 a, .int .i64 b, .int .i64 x] : List Value)[j]? = some u → (w4.drew.alloc (.cells #[.int .i64 a, .int .i64 b, .int .i64 x] 55)).cell? ((⟨w4.heap.size, 0, none⟩ : Addr).add j) = some u) := World.news_of_block (cs := #[.int .i64 a, .int .i64 b, .int .i64 x]) (heap_alloc_new w4.drew _)
      have hsz : (w4.drew.alloc (.cells #[.int .i64 a, .int .i64 b, .int .i64 x] 55)).heap.size = w4.heap.size + 1 := by simp
      have hbs : B ≤ (w4.drew.alloc (.cells #[.int .i64 a, .int .i64 b, .int .i64 x] 55)).heap.size := by rw [hsz]; omega
      clear bd
      go_wp2_with fail
      go_region_law ((refine step_append_lies _ (by rfl) _ _ _ (by rfl) B 55 i0 _ 3 24 Try.underlying38 hi0 hz0 hz1 hz2 (by rfl) (by omega) (.slice ao R.length c) R.length (repCells R) (by rfl) HSD.out.2.1 ⟨w4.heap.size, 0, none⟩ 1 1 [.int .i64 a, .int .i64 b, .int .i64 x] (by rfl) (by rfl) HN.out (cons_one a b x) (by omega) (by unfold maxLen; omega) (by omega) hbs (w4.heap.size + 1) hsz ?_; intro g cap w1 hown1 hgrow hat hlt; have HT1 : Hid (w1.heap[T]? = some (.cells #[.slice ao R.length c] 40 (0, 0))) := (hgrow.block T (block_lt HSD.out.1) (Ne.symm (row_ne HSD.out.2.1 HSD.out.1 (by decide)))).trans HSD.out.1; have c1 : w1.cell? ⟨T, 0, none⟩ = some (.slice ao R.length c) := block_cell HT1.out 0; have f1 : w1.frozen? ⟨T, 0, none⟩ = false := block_free HT1.out 0))
      all_goals (go_wp2_with fail)
      all_goals go_meet
      all_goals (rw [HA.out]; exact ⟨_, sw_none HSD.out hown1 hgrow (hat.imp id (fun e => e.trans hsz.symm)) t0⟩)
    · have HA := addR_some R a b x i hi hfa hbef
      have HFA : Hid ((R.getD i (0, 0, 0)).1 = a) := hfa
      obtain ⟨g, rfl, hg, hc⟩ := tally_reps rfl HW.out.2.1 (by omega)
      have d1 : w4.cell? ⟨g, i * 3 + 1, none⟩ = some (.int .i64 (R.getD i (0, 0, 0)).2.1) := (hc i hi).2.1
      have d2 : w4.cell? ⟨g, i * 3 + 2, none⟩ = some (.int .i64 (R.getD i (0, 0, 0)).2.2) := (hc i hi).2.2
      have g1 : w4.frozen? ⟨g, i * 3 + 1, none⟩ = false := HW.out.2.1.frozenAt _
      have g2 : w4.frozen? ⟨g, i * 3 + 2, none⟩ = false := HW.out.2.1.frozenAt _
      generalize (R.getD i (0, 0, 0)).2.1 = rb at d1 HA
      generalize (R.getD i (0, 0, 0)).2.2 = rv at d2 HA
      have HA2 : Hid ((b ≤ rb → addR R a b x = (R, rb, rv)) ∧ (¬ b ≤ rb → addR R a b x = (R.set i (a, b, x), b, x))) := HA
      have n1 : T ≠ g := fun e => row_ne HW.out.2.1 HW.out.1 (by decide) (by simp [Value.ownBlock, e])
      have n3 : w.heap.size + 1 ≠ g := fun e => row_ne HW.out.2.1 HW.out.2.2.1 (by decide) (by simp [Value.ownBlock, e])
      have z0 : (0 : Int) ≤ (i : Int) := by omega
      have z1 : (i : Int) < (R.length : Int) := by omega
      have z2 : ¬ ((i : Int) < 0) := by omega
      clear HA HF hfa hbef hc
      go_wp2_with fail
      go_quiet (fail)
      by_cases hb : b ≤ rb
      · go_wp2_with fail
        go_meet
        rw [HA2.out.1 hb]
        exact ⟨_, sw_old (sw_below HW.out below_drewN) rb rv t0⟩
      · go_wp2_with fail
        go_region_held3 (fun w' => w'.cell? ⟨T, 0, none⟩ = some (.slice (some ⟨g, 0, none⟩) R.length c) ∧ w'.cell? ⟨w.heap.size + 1, 0, none⟩ = some (.int .i64 b) ∧ w'.cell? ⟨w.heap.size + 1, 1, none⟩ = some (.int .i64 x)) (first | exact ⟨(cell_row2 n1).trans kT, (cell_row2 n3).trans k6, (cell_row2 n3).trans k7⟩ | go_keep) (fail)
        all_goals (go_wp2_with fail)
        all_goals go_meet
        all_goals (rw [HA2.out.2 hb]; exact ⟨_, sw_upd rfl (sw_below HW.out (below_drewN.drew)) hi a HFA.out⟩)
  case rest =>
    clear k5 k6 k7 kT f6 f7 fT l1 l0 lT HF HW
    obtain ⟨v', HC⟩ := hcut
    have hlen := addR_length R a b x
    obtain ⟨R', hR'⟩ : ∃ R', (addR R a b x).1 = R' := ⟨_, rfl⟩
    obtain ⟨rb, hrb⟩ : ∃ rb, (addR R a b x).2.1 = rb := ⟨_, rfl⟩
    obtain ⟨rv, hrv⟩ : ∃ rv, (addR R a b x).2.2 = rv := ⟨_, rfl⟩
    rw [hR'] at HC hlen
    rw [hrb, hrv] at HC
    have HQ : Hid ((addR R a b x).1 = R' ∧ (addR R a b x).2.1 = rb ∧ (addR R a b x).2.2 = rv) := ⟨hR', hrb, hrv⟩
    clear hR' hrb hrv
    obtain ⟨ao', c', rfl⟩ := tally_form (v := v') ⟨HC.out.1, HC.out.2.1⟩
    have m0 : wc.cell? ⟨T, 0, none⟩ = some (.slice ao' R'.length c') := block_cell HC.out.1 0
    have lb : w.heap.size + 1 < wc.heap.size := block_lt HC.out.2.2.1
    have lz : w.heap.size + 1 + 1 < wc.heap.size := block_lt HC.out.2.2.2.1
    go_wp2_with fail
    go_loopg [11, 13, 69] R'.length (fun gk s11 _ s69 wr => ∃ k : Nat, k ≤ R'.length ∧ gk = R'.length - k ∧ s11 = .int .i64 (cntR (R'.take k) rb rv : Nat) ∧ s69 = .int .i64 k ∧ Below wc.heap.size wc wr)
    case atStart => exact ⟨0, Nat.zero_le _, rfl, rfl, rfl, Below.refl _ _⟩
    case round =>
      clear m0
      obtain ⟨k, hk, rfl, rfl, rfl, hbel⟩ := hrel
      have e0 : wr.cell? ⟨w.heap.size + 1, 0, none⟩ = some (.int .i64 rb) := (hbel.cell (by exact lb)).trans (block_cell HC.out.2.2.1 0)
      have e1 : wr.cell? ⟨w.heap.size + 1, 1, none⟩ = some (.int .i64 rv) := (hbel.cell (by exact lb)).trans (block_cell HC.out.2.2.1 1)
      have lbr : w.heap.size + 1 < wr.heap.size := Nat.lt_of_lt_of_le lb hbel.size
      have hcn := cntR_le R' rb rv k
      by_cases hlt : k < R'.length
      · obtain ⟨g, rfl, hg, hc⟩ := tally_reps rfl HC.out.2.1 (by omega)
        have d0 : wr.cell? ⟨g, k * 3, none⟩ = some (.int .i64 (R'.getD k (0, 0, 0)).1) := (hbel.cell (by exact hg)).trans (hc k hlt).1
        have d1 : wr.cell? ⟨g, k * 3 + 1, none⟩ = some (.int .i64 (R'.getD k (0, 0, 0)).2.1) := (hbel.cell (by exact hg)).trans (hc k hlt).2.1
        have d2 : wr.cell? ⟨g, k * 3 + 2, none⟩ = some (.int .i64 (R'.getD k (0, 0, 0)).2.2) := (hbel.cell (by exact hg)).trans (hc k hlt).2.2
        have HCT := cntR_take R' rb rv hlt
        generalize (R'.getD k (0, 0, 0)).1 = ra at d0
        generalize (R'.getD k (0, 0, 0)).2.1 = yb at d1 HCT
        generalize (R'.getD k (0, 0, 0)).2.2 = yv at d2 HCT
        have HCT2 : Hid (cntR (R'.take (k + 1)) rb rv = cntR (R'.take k) rb rv + (if (yb == rb && yv == rv) = true then 1 else 0)) := HCT
        clear HCT hc
        have q := eql_vote yb yv rb rv
        have z0 : (0 : Int) ≤ (k : Int) := by omega
        have z1 : (k : Int) < (R'.length : Int) := by omega
        generalize cntR (R'.take k) rb rv = cn at hcn HCT2 ⊢
        have hb2 : Below wc.heap.size wc (wr.alloc (.cells #[.int .i64 ra, .int .i64 yb, .int .i64 yv] 55)) := hbel.alloc hbel.size _
        by_cases hx : (yb == rb && yv == rv) = true
        · go_wp2
          go_roundg (R'.length - (k + 1))
          case measure => omega
          case rel => exact ⟨k + 1, by omega, rfl, by rw [HCT2.out, if_pos hx]; go_num, by go_num, hb2⟩
        · have hx0 : (yb == rb && yv == rv) = false := by simpa using hx
          go_wp2
          go_roundg (R'.length - (k + 1))
          case measure => omega
          case rel => exact ⟨k + 1, by omega, rfl, by rw [HCT2.out, if_neg hx]; go_num, by go_num, hb2⟩
      · obtain rfl : R'.length = k := by omega
        rw [List.take_length]
        have y0 : wr.cell? ⟨w.heap.size + 1 + 1, 0, none⟩ = some (.int .i64 0) := (hbel.cell (by exact lz)).trans (block_cell HC.out.2.2.2.1 0)
        have y1 : wr.cell? ⟨w.heap.size + 1 + 1, 1, none⟩ = some (.int .i64 0) := (hbel.cell (by exact lz)).trans (block_cell HC.out.2.2.2.1 1)
        have yf0 : wr.frozen? ⟨w.heap.size + 1 + 1, 0, none⟩ = false := (hbel.frozen (by exact lz)).trans (block_free HC.out.2.2.2.1 0)
        have yf1 : wr.frozen? ⟨w.heap.size + 1 + 1, 1, none⟩ = false := (hbel.frozen (by exact lz)).trans (block_free HC.out.2.2.2.1 1)
        go_wp2
        refine bodyPost_ret (v := .tuple #[.agg #[.int .i64 rb, .int .i64 rv], .bool (decide (q ≤ (cntR R' rb rv : Int)))]) (by simp [results, Try.results15, go_sem, y0, y1]) rfl ?_
        rw [HQ.out.1, HQ.out.2.1, HQ.out.2.2]
        exact ⟨_, rfl, sw_end HC.out hbel _ _ t0⟩

end Go.Proofs.Qxb6600353a
