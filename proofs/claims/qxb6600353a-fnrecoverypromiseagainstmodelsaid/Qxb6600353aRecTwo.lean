/-
  Seat b6600353a. Two Recoveries side by side, two votes, two rows of numbers: what stays while one of them turns. No walk here.
-/
import Derived.Test.Qxb6600353aRecPlain
namespace Go.Proofs.Qxb6600353a
open Go.RowKit Go.Maps

theorem recAt_keep {w w' : World} {Rb n : Nat} {bal : Int} {mb : Option Nat} {D : DataW Unit} (h : RecAt w Rb bal mb n D) (h1 : w'.heap[Rb]? = w.heap[Rb]?) (h2 : ∀ b, mb = some b → w'.heap[b]? = w.heap[b]?) : RecAt w' Rb bal mb n D := by
  refine ⟨h1.trans h.1, h.2.1, fun b hb => ?_⟩
  obtain ⟨es, clock, he, rest⟩ := h.2.2 b hb
  exact ⟨es, clock, (h2 b hb).trans he, rest⟩

theorem recAt_lt {w : World} {Rb n : Nat} {bal : Int} {mb : Option Nat} {D : DataW Unit} (h : RecAt w Rb bal mb n D) {b : Nat} (hb : mb = some b) : b < w.heap.size := (h.2.2 b hb).lt

/-- A Recovery's map is no row of cells. -/
theorem recAt_ne {w : World} {Rb n k : Nat} {bal : Int} {mb : Option Nat} {D : DataW Unit} (h : RecAt w Rb bal mb n D) {cs : Array Value} {t : TypeId} {fr : Nat × Nat} (hk : w.heap[k]? = some (.cells cs t fr)) : mb ≠ some k := fun e => by
  obtain ⟨es, clock, he, _⟩ := h.2.2 k e
  rw [hk] at he
  cases he

theorem recAt_mono {w : World} {Rb n n' : Nat} {bal : Int} {mb : Option Nat} {D : DataW Unit} (h : RecAt w Rb bal mb n D) (hn : n ≤ n') : RecAt w Rb bal mb n' D := ⟨h.1, h.2.1, fun b hb => (h.2.2 b hb).mono hn⟩

theorem rowIs_block {w : World} {g n : Nat} {t : TypeId} {f : Nat → Value} (h : w.rowIs g t n f) : ∃ c, w.heap[g]? = some (.cells c t (0, 0)) := by obtain ⟨c, hc, _⟩ := h; exact ⟨c, hc⟩

/-- The state of the law's two Recoveries. -/
structure Two (wr : World) (B F G GF GB g1 g2 l1 l2 : Nat) (bal : Int) (fb fv : Nat → Int) (mF mB : Option Nat) (nF nB : Nat) (DF DB : DataW Unit) (fB fV bB bV : Int) : Prop where
  rf : RecAt wr F bal mF nF DF
  rb : RecAt wr G bal mB nB DB
  ap : ∀ b, mF = some b → mB ≠ some b
  lowF : ∀ b, mF = some b → B ≤ b
  lowB : ∀ b, mB = some b → B ≤ b
  gf : wr.heap[GF]? = some (.cells #[.int .i64 fB, .int .i64 fV] 30 (0, 0))
  gb : wr.heap[GB]? = some (.cells #[.int .i64 bB, .int .i64 bV] 30 (0, 0))
  r1 : wr.rowIs g1 2 l1 (fun j => .int .i64 (fb j))
  r2 : wr.rowIs g2 3 l2 (fun j => .int .i64 (fv j))

/-- The blocks of the law, all apart. -/
structure Far (B F G GF GB g1 g2 : Nat) : Prop where
  bF : B ≤ F
  bG : B ≤ G
  FG : F ≠ G
  FGF : F ≠ GF
  FGB : F ≠ GB
  GGF : G ≠ GF
  GGB : G ≠ GB
  GFGB : GF ≠ GB
  F1 : g1 ≠ F
  F2 : g2 ≠ F
  G1 : g1 ≠ G
  G2 : g2 ≠ G
  GF1 : g1 ≠ GF
  GF2 : g2 ≠ GF
  GB1 : g1 ≠ GB
  GB2 : g2 ≠ GB
  bGF : B ≤ GF
  bGB : B ≤ GB

section
variable {wr w' : World} {B F G GF GB g1 g2 l1 l2 : Nat} {bal : Int} {fb fv : Nat → Int} {mF mB : Option Nat} {nF nB : Nat} {DF DB : DataW Unit} {fB fV bB bV : Int}

/-- Whatever turns none of the blocks. -/
theorem Two.same (h : Two wr B F G GF GB g1 g2 l1 l2 bal fb fv mF mB nF nB DF DB fB fV bB bV) (hk : ∀ k, k < wr.heap.size → w'.heap[k]? = wr.heap[k]?) : Two w' B F G GF GB g1 g2 l1 l2 bal fb fv mF mB nF nB DF DB fB fV bB bV :=
  ⟨recAt_keep h.rf (hk _ (block_lt h.rf.1)) (fun b hb => hk b (recAt_lt h.rf hb)), recAt_keep h.rb (hk _ (block_lt h.rb.1)) (fun b hb => hk b (recAt_lt h.rb hb)), h.ap, h.lowF, h.lowB,
    (hk _ (block_lt h.gf)).trans h.gf, (hk _ (block_lt h.gb)).trans h.gb, h.r1.of_block (hk _ h.r1.lt), h.r2.of_block (hk _ h.r2.lt)⟩

/-- A promise to the first. -/
theorem Two.fwd (h : Two wr B F G GF GB g1 g2 l1 l2 bal fb fv mF mB nF nB DF DB fB fV bB bV) (fr : Far B F G GF GB g1 g2) (hB : B ≤ wr.heap.size) {mF' : Option Nat} {nF' : Nat} {DF' : DataW Unit} (hT : Turn wr w' F mF mF') (hr : RecAt w' F bal mF' nF' DF') :
    Two w' B F G GF GB g1 g2 l1 l2 bal fb fv mF' mB nF' nB DF' DB fB fV bB bV := by
  obtain ⟨c1, e1⟩ := rowIs_block h.r1
  obtain ⟨c2, e2⟩ := rowIs_block h.r2
  have hnew : ∀ b, mF' = some b → mF = some b ∨ wr.heap.size ≤ b := hT.made
  refine ⟨hr, recAt_keep h.rb (hT.block _ (block_lt h.rb.1) fr.FG.symm (recAt_ne h.rf h.rb.1)) (fun b hb => hT.block b (recAt_lt h.rb hb) (fun e => ?_) (fun hb' => h.ap b hb' hb)), fun b hb hb2 => ?_, fun b hb => ?_, h.lowB,
    (hT.block _ (block_lt h.gf) fr.FGF.symm (recAt_ne h.rf h.gf)).trans h.gf, (hT.block _ (block_lt h.gb) fr.FGB.symm (recAt_ne h.rf h.gb)).trans h.gb,
    h.r1.of_block (hT.block _ h.r1.lt fr.F1 (recAt_ne h.rf e1)), h.r2.of_block (hT.block _ h.r2.lt fr.F2 (recAt_ne h.rf e2))⟩
  · subst e; exact recAt_ne h.rb h.rf.1 hb
  · rcases hnew b hb with hb' | hb'
    · exact h.ap b hb' hb2
    · have := recAt_lt h.rb hb2; omega
  · rcases hnew b hb with hb' | hb'
    · exact h.lowF b hb'
    · omega

/-- A promise to the second. -/
theorem Two.bwd (h : Two wr B F G GF GB g1 g2 l1 l2 bal fb fv mF mB nF nB DF DB fB fV bB bV) (fr : Far B F G GF GB g1 g2) (hB : B ≤ wr.heap.size) {mB' : Option Nat} {nB' : Nat} {DB' : DataW Unit} (hT : Turn wr w' G mB mB') (hr : RecAt w' G bal mB' nB' DB') :
    Two w' B F G GF GB g1 g2 l1 l2 bal fb fv mF mB' nF nB' DF DB' fB fV bB bV := by
  obtain ⟨c1, e1⟩ := rowIs_block h.r1
  obtain ⟨c2, e2⟩ := rowIs_block h.r2
  have hnew : ∀ b, mB' = some b → mB = some b ∨ wr.heap.size ≤ b := hT.made
  refine ⟨recAt_keep h.rf (hT.block _ (block_lt h.rf.1) fr.FG (recAt_ne h.rb h.rf.1)) (fun b hb => hT.block b (recAt_lt h.rf hb) (fun e => ?_) (fun hb' => h.ap b hb hb')), hr, fun b hb hb2 => ?_, h.lowF, fun b hb => ?_,
    (hT.block _ (block_lt h.gf) fr.GGF.symm (recAt_ne h.rb h.gf)).trans h.gf, (hT.block _ (block_lt h.gb) fr.GGB.symm (recAt_ne h.rb h.gb)).trans h.gb,
    h.r1.of_block (hT.block _ h.r1.lt fr.G1 (recAt_ne h.rb e1)), h.r2.of_block (hT.block _ h.r2.lt fr.G2 (recAt_ne h.rb e2))⟩
  · subst e; exact recAt_ne h.rf h.rb.1 hb
  · rcases hnew b hb2 with hb' | hb'
    · exact h.ap b hb hb'
    · have := recAt_lt h.rf hb; omega
  · rcases hnew b hb with hb' | hb'
    · exact h.lowB b hb'
    · omega

theorem heap_set2 (w : World) (K : Nat) (u v : Value) {k : Nat} (hk : k ≠ K) : ((w.setCell ⟨K, 0, none⟩ u).setCell ⟨K, 1, none⟩ v).heap[k]? = w.heap[k]? := by
  rw [Below.heap_setCell _ _ _ _ hk, Below.heap_setCell _ _ _ _ hk]

/-- The first answer is laid. -/
theorem Two.setF (h : Two wr B F G GF GB g1 g2 l1 l2 bal fb fv mF mB nF nB DF DB fB fV bB bV) (fr : Far B F G GF GB g1 g2) (x y : Int) :
    Two ((wr.setCell ⟨GF, 0, none⟩ (.int .i64 x)).setCell ⟨GF, 1, none⟩ (.int .i64 y)) B F G GF GB g1 g2 l1 l2 bal fb fv mF mB nF nB DF DB x y bB bV :=
  ⟨recAt_keep h.rf (heap_set2 _ _ _ _ fr.FGF) (fun b hb => heap_set2 _ _ _ _ (fun e => recAt_ne h.rf h.gf (by rw [← e]; exact hb))), recAt_keep h.rb (heap_set2 _ _ _ _ fr.GGF) (fun b hb => heap_set2 _ _ _ _ (fun e => recAt_ne h.rb h.gf (by rw [← e]; exact hb))), h.ap, h.lowF, h.lowB,
    heap_setCell_same _ GF 1 _ _ (.int .i64 y) (heap_setCell_same _ GF 0 _ _ (.int .i64 x) h.gf), (heap_set2 _ _ _ _ fr.GFGB.symm).trans h.gb, h.r1.of_block (heap_set2 _ _ _ _ fr.GF1), h.r2.of_block (heap_set2 _ _ _ _ fr.GF2)⟩

/-- The second answer is laid. -/
theorem Two.setB (h : Two wr B F G GF GB g1 g2 l1 l2 bal fb fv mF mB nF nB DF DB fB fV bB bV) (fr : Far B F G GF GB g1 g2) (x y : Int) :
    Two ((wr.setCell ⟨GB, 0, none⟩ (.int .i64 x)).setCell ⟨GB, 1, none⟩ (.int .i64 y)) B F G GF GB g1 g2 l1 l2 bal fb fv mF mB nF nB DF DB fB fV x y :=
  ⟨recAt_keep h.rf (heap_set2 _ _ _ _ fr.FGB) (fun b hb => heap_set2 _ _ _ _ (fun e => recAt_ne h.rf h.gb (by rw [← e]; exact hb))), recAt_keep h.rb (heap_set2 _ _ _ _ fr.GGB) (fun b hb => heap_set2 _ _ _ _ (fun e => recAt_ne h.rb h.gb (by rw [← e]; exact hb))), h.ap, h.lowF, h.lowB,
    (heap_set2 _ _ _ _ fr.GFGB).trans h.gf, heap_setCell_same _ GB 1 _ _ (.int .i64 y) (heap_setCell_same _ GB 0 _ _ (.int .i64 x) h.gb), h.r1.of_block (heap_set2 _ _ _ _ fr.GB1), h.r2.of_block (heap_set2 _ _ _ _ fr.GB2)⟩

/-- What was there before the law began is as it was. -/
theorem turn_below {w : World} {R : Nat} {mb mb' : Option Nat} (hb : Below B w wr) (hT : Turn wr w' R mb mb') (hR : B ≤ R) (hlow : ∀ b, mb = some b → B ≤ b) (hB : B ≤ wr.heap.size) : Below B w w' :=
  hb.trans ⟨hT.os, hT.tape, hT.output, hT.size, fun k hk => hT.block k (by omega) (by omega) (fun e => by have := hlow k e; omega)⟩

end

theorem below_set2 {B K : Nat} {w wr : World} (h : Below B w wr) (hK : B ≤ K) (u v : Value) : Below B w ((wr.setCell ⟨K, 0, none⟩ u).setCell ⟨K, 1, none⟩ v) := (h.setCell (p := ⟨K, 0, none⟩) hK u).setCell (p := ⟨K, 1, none⟩) hK v

end Go.Proofs.Qxb6600353a
