/-
  Seat b6600353a. FnRecoveryPromiseDistinctOrderFree (function 7): the walks.
-/
import Derived.Test.Qxb6600353aRecTwo
namespace Go.Proofs.Qxb6600353a
open Go.RowKit Go.Maps

set_option maxRecDepth 100000 in
theorem order_bytes_yes (x0 x3 : Int) (a1 a2 : Option Addr) (l1 c1 l2 c2 : Nat) (w : World) (h : l1 + l2 ≤ 1048576) :
    Calls Try.prog 22 #[.int .i64 x0, .slice a1 l1 c1, .slice a2 l2 c2, .int .i64 x3] w fun e w' => e = .returned (.bool true) ∧ w' = w := by
  have h0 : ¬ (1048576 : Int) < (l1 : Int) := by omega
  have h1 : ¬ (1048576 : Int) < (l2 : Int) := by omega
  have h2 : ¬ (1048576 : Int) < (l1 : Int) + (l2 : Int) := by omega
  go_enter Try.func22, Try.ntmps22
  go_wp2
  go_ret
  exact ⟨rfl, rfl⟩

set_option maxRecDepth 100000 in
/-- A slice too long: the law answers true at once. -/
theorem order_great (x0 x3 : Int) (a1 a2 : Option Addr) (l1 c1 l2 c2 : Nat) (w : World) (m1 : l1 ≤ 9223372036854775807) (m2 : l2 ≤ 9223372036854775807) (h : ¬ (l1 ≤ 4096 ∧ l2 ≤ 4096)) :
    Calls Try.prog 7 #[.int .i64 x0, .slice a1 l1 c1, .slice a2 l2 c2, .int .i64 x3] w fun e w' => e = .returned (.bool true) ∧ w' = w := by
  by_cases h0 : (1048576 : Int) < (l1 : Int)
  · go_enter Try.func7, Try.ntmps7
    go_wp2
    go_ret
    exact ⟨rfl, rfl⟩
  · by_cases h1 : (1048576 : Int) < (l2 : Int)
    · go_enter Try.func7, Try.ntmps7
      go_wp2
      go_ret
      exact ⟨rfl, rfl⟩
    · by_cases h2 : (1048576 : Int) < (l1 : Int) + (l2 : Int)
      · go_enter Try.func7, Try.ntmps7
        go_wp2
        go_ret
        exact ⟨rfl, rfl⟩
      · by_cases h3 : (4096 : Int) < (l1 : Int)
        · go_enter Try.func7, Try.ntmps7
          go_wp2
          go_ret
          exact ⟨rfl, rfl⟩
        · have h4 : (4096 : Int) < (l2 : Int) := by omega
          go_enter Try.func7, Try.ntmps7
          go_wp2
          go_ret
          exact ⟨rfl, rfl⟩

theorem ans_same {D D2 : DataW Unit} {fb fv : Nat → Int} {n : Nat} {found : Bool} {mB mV bal q rb rv rb2 rv2 : Int} {ok ok2 : Bool} (hD : IsD D (Up n) (fun x => fb x.toNat) (fun x => fv x.toNat) n) (hD2 : IsD D2 (Up n) (fun x => fb x.toNat) (fun x => fv x.toNat) n)
    (hF : FMax fb fv n found mB mV) (hag : ∀ k, k < n → fv k ≠ 0 → fb k = mB → fv k = mV) (hA : Ans D bal q rb rv ok) (hA2 : Ans D2 bal q rb2 rv2 ok2) : rb = rb2 ∧ rv = rv2 ∧ ok = ok2 := by
  rcases ans_all hD hF hag hA with ⟨h1, h2, h3, h4⟩ | ⟨h1, h2, h3, h4⟩
  · rcases ans_all hD2 hF hag hA2 with ⟨g1, g2, g3, g4⟩ | ⟨g1, g2, g3, g4⟩
    · exact ⟨h3.trans g3.symm, h4.trans g4.symm, h2.trans g2.symm⟩
    · exact absurd h1 g1
  · rcases ans_all hD2 hF hag hA2 with ⟨g1, g2, g3, g4⟩ | ⟨g1, g2, g3, g4⟩
    · exact absurd g1 h1
    · exact ⟨h3.trans g3.symm, h4.trans g4.symm, h2.trans g2.symm⟩

theorem wf_small (k : Nat) (hk : k < 1000000) : (Lit.int .i64 (k : Int)).wf = true := by
  have h1 : IntKind.min .i64 = -9223372036854775808 := by decide
  have h2 : IntKind.max .i64 = 9223372036854775807 := by decide
  simp only [Lit.wf, h1, h2]
  simp
  omega

theorem turn_cells {w w' : World} {R n k : Nat} {bal : Int} {mb mb' : Option Nat} {D : DataW Unit} (hT : Turn w w' R mb mb') (hr : RecAt w R bal mb n D) {cs : Array Value} {t : TypeId} (hk : w.heap[k]? = some (.cells cs t (0, 0))) (hne : k ≠ R) : w'.heap[k]? = some (.cells cs t (0, 0)) :=
  (hT.block k (block_lt hk) hne (recAt_ne hr hk)).trans hk

theorem Two.lt {wr : World} {B F G GF GB g1 g2 l1 l2 : Nat} {bal : Int} {fb fv : Nat → Int} {mF mB : Option Nat} {nF nB : Nat} {DF DB : DataW Unit} {fB fV bB bV : Int} (h : Two wr B F G GF GB g1 g2 l1 l2 bal fb fv mF mB nF nB DF DB fB fV bB bV) :
    F < wr.heap.size ∧ G < wr.heap.size ∧ GF < wr.heap.size ∧ GB < wr.heap.size ∧ g1 < wr.heap.size ∧ g2 < wr.heap.size := ⟨block_lt h.rf.1, block_lt h.rb.1, block_lt h.gf, block_lt h.gb, h.r1.lt, h.r2.lt⟩

/-- A store into a block that is none of the law's. -/
theorem Two.other {wr : World} {B F G GF GB g1 g2 l1 l2 : Nat} {bal : Int} {fb fv : Nat → Int} {mF mB : Option Nat} {nF nB : Nat} {DF DB : DataW Unit} {fB fV bB bV : Int} (h : Two wr B F G GF GB g1 g2 l1 l2 bal fb fv mF mB nF nB DF DB fB fV bB bV)
    {K : Nat} {cs : Array Value} {t : TypeId} (hK : wr.heap[K]? = some (.cells cs t (0, 0))) (hf : F ≠ K ∧ G ≠ K ∧ GF ≠ K ∧ GB ≠ K ∧ g1 ≠ K ∧ g2 ≠ K) (u v : Value) :
    Two ((wr.setCell ⟨K, 0, none⟩ u).setCell ⟨K, 1, none⟩ v) B F G GF GB g1 g2 l1 l2 bal fb fv mF mB nF nB DF DB fB fV bB bV :=
  ⟨recAt_keep h.rf (heap_set2 _ _ _ _ hf.1) (fun b hb => heap_set2 _ _ _ _ (fun e => recAt_ne h.rf hK (by rw [← e]; exact hb))), recAt_keep h.rb (heap_set2 _ _ _ _ hf.2.1) (fun b hb => heap_set2 _ _ _ _ (fun e => recAt_ne h.rb hK (by rw [← e]; exact hb))), h.ap, h.lowF, h.lowB,
    (heap_set2 _ _ _ _ hf.2.2.1).trans h.gf, (heap_set2 _ _ _ _ hf.2.2.2.1).trans h.gb, h.r1.of_block (heap_set2 _ _ _ _ hf.2.2.2.2.1), h.r2.of_block (heap_set2 _ _ _ _ hf.2.2.2.2.2)⟩

theorem two_laid (w : World) (o o' : Obj) : ((w.alloc o).alloc o').drew.heap[w.heap.size]? = some o ∧ ((w.alloc o).alloc o').drew.heap[w.heap.size + 1]? = some o' := by
  have e : (w.alloc o).heap.size = w.heap.size + 1 := by simp
  refine ⟨?_, ?_⟩
  · show ((w.alloc o).alloc o').heap[w.heap.size]? = _
    rw [Below.heap_alloc _ _ _ (by omega)]
    exact heap_alloc_new _ _
  · show ((w.alloc o).alloc o').heap[w.heap.size + 1]? = _
    rw [← e]
    exact heap_alloc_new _ _

theorem b_alloc {a w : World} (h : Below a.heap.size a w) (o : Obj) : Below a.heap.size a (w.alloc o) := h.alloc h.size o
theorem b_drew {a w : World} (h : Below a.heap.size a w) : Below a.heap.size a w.drew := h.drew

theorem isD_again' {D : DataW Unit} {fb fv : Nat → Int} {n j : Nat} {x y : Int} (hj : j < n) (hx : fb j = x ∧ fv j = y) (h : IsD D (Up n) (fun x => fb x.toNat) (fun x => fv x.toNat) n) : IsD (D.put (.int .i64 (j : Int)) (voteD x y)) (Up n) (fun x => fb x.toNat) (fun x => fv x.toNat) n := by
  rw [← hx.1, ← hx.2]; exact isD_again hj h

/-- The state ahead of the first promise. -/
theorem two_start {w2 : World} {B g1 g2 l1 l2 : Nat} (bal : Int) {fb fv : Nat → Int} (r1 : w2.rowIs g1 2 l1 (fun j => .int .i64 (fb j))) (r2 : w2.rowIs g2 3 l2 (fun j => .int .i64 (fv j))) (hB : B ≤ w2.heap.size) :
    Two ((((w2.alloc (.cells #[.int .i64 bal, .map none] 48)).alloc (.cells #[.int .i64 bal, .map none] 48)).alloc (.cells #[.int .i64 0, .int .i64 0] 30)).alloc (.cells #[.int .i64 0, .int .i64 0] 30))
      B w2.heap.size (w2.heap.size + 1) (w2.heap.size + 1 + 1) (w2.heap.size + 1 + 1 + 1) g1 g2 l1 l2 bal fb fv none none 0 0 (.map []) (.map []) 0 0 0 0 ∧
    Far B w2.heap.size (w2.heap.size + 1) (w2.heap.size + 1 + 1) (w2.heap.size + 1 + 1 + 1) g1 g2 := by
  have t1 := r1.lt
  have t2 := r2.lt
  have e1 : (w2.alloc (.cells #[.int .i64 bal, .map none] 48)).heap.size = w2.heap.size + 1 := by simp
  have e2 : ((w2.alloc (.cells #[.int .i64 bal, .map none] 48)).alloc (.cells #[.int .i64 bal, .map none] 48)).heap.size = w2.heap.size + 1 + 1 := by simp
  have e3 : (((w2.alloc (.cells #[.int .i64 bal, .map none] 48)).alloc (.cells #[.int .i64 bal, .map none] 48)).alloc (.cells #[.int .i64 0, .int .i64 0] 30)).heap.size = w2.heap.size + 1 + 1 + 1 := by simp
  refine ⟨⟨⟨?_, fun _ => rfl, fun b hb => by cases hb⟩, ⟨?_, fun _ => rfl, fun b hb => by cases hb⟩, fun b hb => (by cases hb), fun b hb => (by cases hb), fun b hb => (by cases hb), ?_, ?_, (((r1.alloc _).alloc _).alloc _).alloc _, (((r2.alloc _).alloc _).alloc _).alloc _⟩, ?_⟩
  · rw [Below.heap_alloc _ _ _ (by omega), Below.heap_alloc _ _ _ (by omega), Below.heap_alloc _ _ _ (by omega)]; exact heap_alloc_new _ _
  · rw [Below.heap_alloc _ _ _ (by omega), Below.heap_alloc _ _ _ (by omega), ← e1]; exact heap_alloc_new _ _
  · rw [Below.heap_alloc _ _ _ (by omega), ← e2]; exact heap_alloc_new _ _
  · rw [← e3]; exact heap_alloc_new _ _
  · constructor <;> omega

set_option maxRecDepth 100000 in
set_option maxHeartbeats 3200000 in
theorem order_main (bal q : Int) (a1 a2 : Option Addr) (l1 c1 l2 c2 : Nat) (fb fv : Nat → Int) (w : World) (h1 : l1 ≤ 4096) (h2 : l2 ≤ 4096) (s1 : Src w a1 l1 c1 fb) (s2 : Src w a2 l2 c2 fv) :
    Calls Try.prog 7 #[.int .i64 bal, .slice a1 l1 c1, .slice a2 l2 c2, .int .i64 q] w fun e w' => e = .returned (.bool true) ∧ Below w.heap.size w w' := by
  have q0 : decide ((4096 : Int) < (l1 : Int)) = false := decide_eq_false (by omega)
  have q1 : decide ((4096 : Int) < (l2 : Int)) = false := decide_eq_false (by omega)
  have HS1 : Hid (Src w a1 l1 c1 fb) := s1
  have HS2 : Hid (Src w a2 l2 c2 fv) := s2
  clear s1 s2
  go_enter Try.func7, Try.ntmps7
  go_wp2_with fail
  refine (order_bytes_yes bal q a1 a2 l1 c1 l2 c2 w (by omega)).mono ?_
  rintro e w' ⟨rfl, hw⟩
  obtain rfl := hw.symm
  clear hw
  go_wp2_with fail
  refine (min3_any l1 l2 l2 w).mono ?_
  rintro e w' ⟨n, rfl, n1, n2, _, hw⟩
  obtain rfl := hw.symm
  clear hw
  go_wp2
  go_loopg [10, 11, 12, 13] n (fun gk s10 s11 s12 i wr => w = wr ∧ ∃ (k : Nat) (found : Bool) (mB mV : Int), k ≤ n ∧ gk = n - k ∧ i = .int .i64 k ∧ s10 = .bool found ∧ s11 = .int .i64 mB ∧ s12 = .int .i64 mV ∧ Hid (FMax fb fv k found mB mV))
  case atStart => exact ⟨rfl, 0, false, 0, 0, Nat.zero_le _, rfl, rfl, rfl, rfl, rfl, Or.inl ⟨rfl, rfl, rfl, fun j hj => absurd hj (by omega)⟩⟩
  case round =>
    obtain ⟨rfl, k, found, mB, mV, hk, rfl, rfl, rfl, rfl, rfl, hF⟩ := hrel
    by_cases hlt : k < n
    · obtain ⟨b1, o1, rfl, hc1⟩ := HS1.out.1 (by omega)
      obtain ⟨b2, o2, rfl, hc2⟩ := HS2.out.1 (by omega)
      have e1 := hc1 k (by omega)
      have e2 := hc2 k (by omega)
      clear hc1 hc2
      have z0 : (0 : Int) ≤ (k : Int) := by omega
      have z1 : (k : Int) < (n : Int) := by omega
      have z2 : (k : Int) < (l1 : Int) := by omega
      have z3 : (k : Int) < (l2 : Int) := by omega
      have HK : Hid (fv k = 0 → FMax fb fv (k + 1) found mB mV) := fmax_skip hF.out
      have HL : Hid (found = true → fb k ≤ mB → FMax fb fv (k + 1) true mB mV) := fun e h => fmax_keep (e ▸ hF.out) h
      have HT : Hid (fv k ≠ 0 → (found = false ∨ mB < fb k) → FMax fb fv (k + 1) true (fb k) (fv k)) := fmax_take hF.out
      generalize fb k = b at e1 HL HT
      generalize fv k = v at e2 HK HT
      clear hF
      by_cases hx : (v == 0) = true
      · go_wp2
        go_roundg (n - (k + 1))
        case measure => omega
        case rel => exact ⟨rfl, k + 1, found, mB, mV, by omega, rfl, by go_num, rfl, rfl, rfl, HK.out (by simpa using hx)⟩
      · have hx0 : (v == 0) = false := by simpa using hx
        clear hx
        cases found with
        | false =>
          go_wp2
          go_roundg (n - (k + 1))
          case measure => omega
          case rel => exact ⟨rfl, k + 1, true, b, v, by omega, rfl, by go_num, rfl, rfl, rfl, HT.out (by simpa using hx0) (Or.inl trivial)⟩
        | true =>
          by_cases hb : mB < b
          · go_wp2
            go_roundg (n - (k + 1))
            case measure => omega
            case rel => exact ⟨rfl, k + 1, true, b, v, by omega, rfl, by go_num, rfl, rfl, rfl, HT.out (by simpa using hx0) (Or.inr hb)⟩
          · go_wp2
            go_roundg (n - (k + 1))
            case measure => omega
            case rel => exact ⟨rfl, k + 1, true, mB, mV, by omega, rfl, by go_num, rfl, rfl, rfl, HL.out trivial (by omega)⟩
    · obtain rfl : n = k := by omega
      clear hlt hk
      go_wp2
      go_loopg [14] n (fun gk i wr => w = wr ∧ ∃ (k : Nat), k ≤ n ∧ gk = n - k ∧ i = .int .i64 k ∧ Hid (∀ j, j < k → fv j ≠ 0 → fb j = mB → fv j = mV))
      case atStart => exact ⟨rfl, 0, Nat.zero_le _, rfl, rfl, fun j hj => absurd hj (by omega)⟩
      case round =>
        obtain ⟨rfl, k, hk, rfl, rfl, hG⟩ := hrel
        by_cases hlt : k < n
        · obtain ⟨b1, o1, rfl, hc1⟩ := HS1.out.1 (by omega)
          obtain ⟨b2, o2, rfl, hc2⟩ := HS2.out.1 (by omega)
          have e1 := hc1 k (by omega)
          have e2 := hc2 k (by omega)
          clear hc1 hc2
          have z0 : (0 : Int) ≤ (k : Int) := by omega
          have z1 : (k : Int) < (n : Int) := by omega
          have z2 : (k : Int) < (l1 : Int) := by omega
          have z3 : (k : Int) < (l2 : Int) := by omega
          have HN : Hid ((fv k ≠ 0 → fb k = mB → fv k = mV) → ∀ j, j < k + 1 → fv j ≠ 0 → fb j = mB → fv j = mV) := fun h j hj => by
            by_cases e : j = k
            · subst e; exact h
            · exact hG.out j (by omega)
          generalize fb k = b at e1 HN
          generalize fv k = v at e2 HN
          clear hG
          by_cases hx : (v != 0) = false
          · go_wp2
            go_roundg (n - (k + 1))
            case measure => omega
            case rel => exact ⟨rfl, k + 1, by omega, rfl, by go_num, HN.out (fun h => absurd (by simpa using hx) h)⟩
          · have hx0 : (v != 0) = true := by simpa using hx
            clear hx
            by_cases hb : (b == mB) = false
            · go_wp2
              go_roundg (n - (k + 1))
              case measure => omega
              case rel => exact ⟨rfl, k + 1, by omega, rfl, by go_num, HN.out (fun _ h => absurd h (by simpa using hb))⟩
            · have hb0 : (b == mB) = true := by simpa using hb
              clear hb
              by_cases hv : (v != mV) = false
              · go_wp2
                go_roundg (n - (k + 1))
                case measure => omega
                case rel => exact ⟨rfl, k + 1, by omega, rfl, by go_num, HN.out (fun _ _ => by simpa using hv)⟩
              · have hv0 : (v != mV) = true := by simpa using hv
                clear hv
                go_wp2
                go_ret
                exact ⟨rfl, Below.refl _ _⟩
        · obtain rfl : n = k := by omega
          clear hlt hk
          by_cases hz : n = 0
          · have hz0 : ((n : Int) == 0) = true := by simp [hz]
            clear hz
            go_wp2
            go_ret
            exact ⟨rfl, Below.refl _ _⟩
          · have hz0 : ((n : Int) == 0) = false := by simpa using hz
            have hpos : 0 < n := by omega
            clear hz
            go_wp2_with fail
            refine (cloneI64_any a1 l1 c1 fb _ (by omega) HS1.out).mono ?_
            rintro e w1 ⟨a1', rfl, p1, b1⟩
            go_wp2_with fail
            refine (cloneInt_any a2 l2 c2 fv w1 (by omega) (HS2.out.below b1)).mono ?_
            rintro e w2 ⟨a2', rfl, p2, b2⟩
            obtain ⟨g1, rfl, hg1, r1⟩ := p1 (by omega)
            obtain ⟨g2, rfl, hg2, r2⟩ := p2 (by omega)
            have hb : Below w.heap.size w w2 := b1.trans (b2.mono b1.size)
            have r1' := r1.of_block (b2.block g1 r1.lt)
            have HR : Hid (w2.rowIs g1 2 l1 (fun j => .int .i64 (fb j)) ∧ w2.rowIs g2 3 l2 (fun j => .int .i64 (fv j)) ∧ w.heap.size ≤ g1 ∧ w.heap.size ≤ g2 ∧ Below w.heap.size w w2) := ⟨r1', r2, hg1, Nat.le_trans b1.size hg2, hb⟩
            clear r1 r1' r2 b1 b2 hb hg1 hg2 HS1 HS2 p1 p2
            obtain ⟨T0, fr⟩ := two_start (B := w.heap.size) bal HR.out.1 HR.out.2.1 HR.out.2.2.2.2.size
            have bS : Below w.heap.size w ((((w2.alloc (.cells #[.int .i64 bal, .map none] 48)).alloc (.cells #[.int .i64 bal, .map none] 48)).alloc (.cells #[.int .i64 0, .int .i64 0] 30)).alloc (.cells #[.int .i64 0, .int .i64 0] 30)) := by
              have hb := HR.out.2.2.2.2
              have hs := hb.size
              exact (((hb.alloc hs _).alloc (by simp; omega) _).alloc (by simp; omega) _).alloc (by simp; omega) _
            have HT0 := show Hid _ from T0
            have HFr : Hid (Far w.heap.size w2.heap.size (w2.heap.size + 1) (w2.heap.size + 1 + 1) (w2.heap.size + 1 + 1 + 1) g1 g2) := fr
            clear T0 fr HR
            go_wp2
            generalize ((((w2.alloc (.cells #[.int .i64 bal, .map none] 48)).alloc (.cells #[.int .i64 bal, .map none] 48)).alloc (.cells #[.int .i64 0, .int .i64 0] 30)).alloc (.cells #[.int .i64 0, .int .i64 0] 30)) = w3 at HT0 bS ⊢
            generalize w2.heap.size + 1 + 1 + 1 = GB at HT0 HFr ⊢
            generalize w2.heap.size + 1 + 1 = GF at HT0 HFr ⊢
            generalize w2.heap.size + 1 = G at HT0 HFr ⊢
            generalize w2.heap.size = F at HT0 HFr ⊢
            clear w2 w1
            go_loopg [19, 20, 21] n (fun gk s19 s20 i wr => ∃ (k : Nat) (okF okB : Bool) (mF mG : Option Nat) (DF DB : DataW Unit) (fB fV bB bV : Int), k ≤ n ∧ gk = n - k ∧ i = .int .i64 k ∧ s19 = .bool okF ∧ s20 = .bool okB ∧
              Hid (Two wr w.heap.size F G GF GB g1 g2 l1 l2 bal fb fv mF mG k k DF DB fB fV bB bV) ∧ Hid (IsD DF (Up k) (fun x => fb x.toNat) (fun x => fv x.toNat) k ∧ IsD DB (Dn n k) (fun x => fb x.toNat) (fun x => fv x.toNat) k) ∧
              Hid (0 < k → Ans DF bal q fB fV okF ∧ Ans DB bal q bB bV okB) ∧ Below w.heap.size w wr)
            case atStart => exact ⟨0, false, false, none, none, .map [], .map [], 0, 0, 0, 0, Nat.zero_le _, rfl, rfl, rfl, rfl, HT0, ⟨isD_zero (fun x hx => by have := hx.1; have := hx.2; omega), isD_zero (fun x hx => by have := hx.1; have := hx.2; omega)⟩, fun h => absurd h (by omega), bS⟩
            case round =>
              clear HT0 bS w3
              obtain ⟨k, okF, okB, mF, mG, DF, DB, fB, fV, bB, bV, hk, rfl, rfl, rfl, rfl, hT, hD, hA, hbel⟩ := hrel
              by_cases hlt : k < n
              · have e1 := hT.out.r1.cell (i := k) (by omega)
                have e2 := hT.out.r2.cell (i := k) (by omega)
                have z0 : (0 : Int) ≤ (k : Int) := by omega
                have z1 : (k : Int) < (n : Int) := by omega
                have z2 : (k : Int) < (l1 : Int) := by omega
                have z3 : (k : Int) < (l2 : Int) := by omega
                have kwf : Hid ((Lit.int .i64 (k : Int)).wf = true) := wf_small k (by omega)
                obtain ⟨x, hx⟩ : ∃ x, fb k = x := ⟨_, rfl⟩
                obtain ⟨y, hy⟩ : ∃ y, fv k = y := ⟨_, rfl⟩
                rw [hx] at e1
                rw [hy] at e2
                have T1 : Two (wr.alloc (.cells #[.int .i64 x, .int .i64 y] 30)).drew w.heap.size F G GF GB g1 g2 l1 l2 bal fb fv mF mG k k DF DB fB fV bB bV := hT.out.same (fun j hj => Below.heap_alloc _ _ _ hj)
                have B1 : Below w.heap.size w (wr.alloc (.cells #[.int .i64 x, .int .i64 y] 30)).drew := (hbel.alloc hbel.size _).drew
                have HX : Hid (fb k = x ∧ fv k = y) := ⟨hx, hy⟩
                clear hx hy
                go_upto_region 35 with fail
                go_cut [19] (fun s wc => ∃ (ok : Bool) (mF' : Option Nat) (rb rv : Int), s = .bool ok ∧ Hid (Two wc w.heap.size F G GF GB g1 g2 l1 l2 bal fb fv mF' mG (k + 1) k (DF.put (.int .i64 (k : Int)) (voteD x y)) DB rb rv bB bV) ∧ Hid (Ans (DF.put (.int .i64 (k : Int)) (voteD x y)) bal q rb rv ok) ∧ Below w.heap.size w wc)
                case first =>
                  have n1 := HFr.out.GF1
                  have n2 := HFr.out.GF2
                  go_region_held3 (fun w' => w'.cell? ⟨g1, k, none⟩ = some (.int .i64 x) ∧ w'.cell? ⟨g2, k, none⟩ = some (.int .i64 y))
                    (first | exact ⟨p1, p2⟩ | exact ⟨(World.cell?_of_block (heap_set2 _ _ _ _ n1)).trans p1, (World.cell?_of_block (heap_set2 _ _ _ _ n2)).trans p2⟩ | go_keep)
                    (first
                      | (go_at_call 11; refine (vote_any _ _ _).mono ?_; rintro e w' ⟨rfl, rfl⟩)
                      | (go_at_call 20; refine (promise_core F bal (k : Int) x y q mF k DF _ _ T1.rf (by omega) kwf.out rfl).mono ?_; rintro e w5 ⟨rb, rv, ok, mF', rfl, hans, hrec, hturn⟩
                         have T2 := T1.fwd HFr.out B1.size hturn hrec
                         have p1 : w5.cell? ⟨g1, k, none⟩ = some (.int .i64 x) := (T2.r1.cell (i := k) (by omega)).trans (by rw [HX.out.1])
                         have p2 : w5.cell? ⟨g2, k, none⟩ = some (.int .i64 y) := (T2.r2.cell (i := k) (by omega)).trans (by rw [HX.out.2])
                         have p3 : w5.cell? ⟨GF, 0, none⟩ = some (.int .i64 fB) := block_cell T2.gf 0
                         have p4 : w5.cell? ⟨GF, 1, none⟩ = some (.int .i64 fV) := block_cell T2.gf 1
                         have p5 := block_free T2.gf 0
                         have p6 := block_free T2.gf 1))
                  go_wp2_with fail
                  go_meet
                  exact ⟨ok, mF', rb, rv, rfl, T2.setF HFr.out rb rv, hans, below_set2 (turn_below B1 hturn HFr.out.bF T1.lowF B1.size) HFr.out.bGF _ _⟩
                case rest =>
                  obtain ⟨ok, mF', rb, rv, rfl, hT2, hA2, hbel2⟩ := hcut
                  clear T1 B1 e1 e2 hT hbel
                  have hDF : IsD (DF.put (.int .i64 (k : Int)) (voteD x y)) (Up (k + 1)) (fun x => fb x.toNat) (fun x => fv x.toNat) (k + 1) := by
                    have := isD_up hD.out.1
                    rw [HX.out.1, HX.out.2] at this
                    exact this
                  have hok : (ok == decide (q ≤ (k : Int) + 1)) = true := by
                    have := ans_ok hDF hA2.out
                    rw [this]
                    simp
                  have HDF : Hid (IsD (DF.put (.int .i64 (k : Int)) (voteD x y)) (Up (k + 1)) (fun x => fb x.toNat) (fun x => fv x.toNat) (k + 1)) := hDF
                  clear hDF
                  generalize DF.put (.int .i64 (k : Int)) (voteD x y) = DF' at hT2 hA2 HDF
                  obtain ⟨j, hj, hjr⟩ : ∃ j : Nat, j = n - 1 - k ∧ (n : Int) - 1 - (k : Int) = (j : Int) := ⟨n - 1 - k, rfl, by omega⟩
                  have HJ : Hid (j = n - 1 - k) := hj
                  have jn : j < n := by omega
                  clear hj
                  have e1 := hT2.out.r1.cell (i := j) (by omega)
                  have e2 := hT2.out.r2.cell (i := j) (by omega)
                  have y0 : (0 : Int) ≤ (j : Int) := by omega
                  have y2 : (j : Int) < (l1 : Int) := by omega
                  have y3 : (j : Int) < (l2 : Int) := by omega
                  have jwf : Hid ((Lit.int .i64 (j : Int)).wf = true) := wf_small j (by omega)
                  obtain ⟨x', hx'⟩ : ∃ x, fb j = x := ⟨_, rfl⟩
                  obtain ⟨y', hy'⟩ : ∃ y, fv j = y := ⟨_, rfl⟩
                  rw [hx'] at e1
                  rw [hy'] at e2
                  have T1 : Two (wc.alloc (.cells #[.int .i64 x', .int .i64 y'] 30)).drew w.heap.size F G GF GB g1 g2 l1 l2 bal fb fv mF' mG (k + 1) k DF' DB rb rv bB bV := hT2.out.same (fun j hj => Below.heap_alloc _ _ _ hj)
                  have B1 : Below w.heap.size w (wc.alloc (.cells #[.int .i64 x', .int .i64 y'] 30)).drew := (hbel2.alloc hbel2.size _).drew
                  have HX' : Hid (fb j = x' ∧ fv j = y') := ⟨hx', hy'⟩
                  clear hx' hy'
                  go_upto_region 39 with fail
                  go_cut [20] (fun s wc => ∃ (ok2 : Bool) (mG' : Option Nat) (rb2 rv2 : Int), s = .bool ok2 ∧ Hid (Two wc w.heap.size F G GF GB g1 g2 l1 l2 bal fb fv mF' mG' (k + 1) (k + 1) DF' (DB.put (.int .i64 (j : Int)) (voteD x' y')) rb rv rb2 rv2) ∧ Hid (Ans (DB.put (.int .i64 (j : Int)) (voteD x' y')) bal q rb2 rv2 ok2) ∧ Below w.heap.size w wc)
                  case first =>
                    have n1 := HFr.out.GB1
                    have n2 := HFr.out.GB2
                    go_region_held3 (fun w' => w'.cell? ⟨g1, j, none⟩ = some (.int .i64 x') ∧ w'.cell? ⟨g2, j, none⟩ = some (.int .i64 y'))
                      (first | exact ⟨p1, p2⟩ | exact ⟨(World.cell?_of_block (heap_set2 _ _ _ _ n1)).trans p1, (World.cell?_of_block (heap_set2 _ _ _ _ n2)).trans p2⟩ | go_keep)
                      (first
                        | (go_at_call 11; refine (vote_any _ _ _).mono ?_; rintro e w' ⟨rfl, rfl⟩)
                        | (go_at_call 20; refine (promise_core G bal (j : Int) x' y' q mG k DB _ _ T1.rb (by omega) jwf.out rfl).mono ?_; rintro e w5 ⟨rb2, rv2, ok2, mG', rfl, hans, hrec, hturn⟩
                           have T2 := T1.bwd HFr.out B1.size hturn hrec
                           have p1 : w5.cell? ⟨g1, j, none⟩ = some (.int .i64 x') := (T2.r1.cell (i := j) (by omega)).trans (by rw [HX'.out.1])
                           have p2 : w5.cell? ⟨g2, j, none⟩ = some (.int .i64 y') := (T2.r2.cell (i := j) (by omega)).trans (by rw [HX'.out.2])
                           have p3 : w5.cell? ⟨GB, 0, none⟩ = some (.int .i64 bB) := block_cell T2.gb 0
                           have p4 : w5.cell? ⟨GB, 1, none⟩ = some (.int .i64 bV) := block_cell T2.gb 1
                           have p5 := block_free T2.gb 0
                           have p6 := block_free T2.gb 1))
                    go_wp2_with fail
                    go_meet
                    exact ⟨ok2, mG', rb2, rv2, rfl, T2.setB HFr.out rb2 rv2, hans, below_set2 (turn_below B1 hturn HFr.out.bG T1.lowB B1.size) HFr.out.bGB _ _⟩
                  case rest =>
                    obtain ⟨ok2, mG', rb2, rv2, rfl, hT3, hA3, hbel3⟩ := hcut
                    clear T1 B1 e1 e2 hT2 hbel2 hjr
                    have hDB : IsD (DB.put (.int .i64 (j : Int)) (voteD x' y')) (Dn n (k + 1)) (fun x => fb x.toNat) (fun x => fv x.toNat) (k + 1) := by
                      have := isD_dn hlt HJ.out hD.out.2
                      rw [HX'.out.1, HX'.out.2] at this
                      exact this
                    have hok2 : (ok2 == decide (q ≤ (k : Int) + 1)) = true := by
                      have := ans_ok hDB hA3.out
                      rw [this]
                      simp
                    have HDB : Hid (IsD (DB.put (.int .i64 (j : Int)) (voteD x' y')) (Dn n (k + 1)) (fun x => fb x.toNat) (fun x => fv x.toNat) (k + 1)) := hDB
                    clear hDB
                    go_wp2
                    go_roundg (n - (k + 1))
                    case measure => omega
                    case rel => exact ⟨k + 1, ok, ok2, mF', mG', _, _, rb, rv, rb2, rv2, by omega, rfl, by go_num, rfl, rfl, hT3, ⟨HDF.out, HDB.out⟩, fun _ => ⟨hA2.out, hA3.out⟩, hbel3⟩
              · obtain rfl : n = k := by omega
                clear hlt hk
                have hA' := hA.out hpos
                have eA := ans_same hD.out.1 (dn_up hD.out.2) hF.out hG.out hA'.1 hA'.2
                obtain ⟨rfl, rfl, rfl⟩ := eA
                have i0 : wr.cell? ⟨GF, 0, none⟩ = some (.int .i64 fB) := block_cell hT.out.gf 0
                have i1 : wr.cell? ⟨GF, 1, none⟩ = some (.int .i64 fV) := block_cell hT.out.gf 1
                have i2 : wr.cell? ⟨GB, 0, none⟩ = some (.int .i64 fB) := block_cell hT.out.gb 0
                have i3 : wr.cell? ⟨GB, 1, none⟩ = some (.int .i64 fV) := block_cell hT.out.gb 1
                have k1 := neq_vote fB fV fB fV
                have k2 : (fB == fB && fV == fV) = true := by simp
                rw [k2] at k1
                have k3 : (okF == okF) = true := by simp
                have HA1 : Hid (Ans DF bal q fB fV okF) := hA'.1
                have HAll : Hid (((n : Int) < q ∧ okF = false ∧ fB = 0 ∧ fV = 0) ∨ (¬ (n : Int) < q ∧ okF = true ∧ fB = bal ∧ fV = if found then mV else 2)) := ans_all hD.out.1 hF.out hG.out hA'.1
                clear hA hA' k2
                go_upto_if 171 with fail
                go_cut [] (fun wc => Below wr.heap.size wr wc)
                case first =>
                  have t1 : GF < wr.heap.size := block_lt hT.out.gf
                  rcases HAll.out with ⟨_, rfl, rfl, rfl⟩ | ⟨_, rfl, rfl, hv⟩
                  · have k5 := neq_vote 0 0 0 0
                    go_wp2_with fail
                    go_meet
                    exact Below.refl _ _
                  · cases found with
                    | true =>
                      simp only [if_true] at hv
                      subst hv
                      have k5 := neq_vote fB fV fB fV
                      have k6 : (fB == fB && fV == fV) = true := by simp
                      rw [k6] at k5
                      go_wp2_with fail
                      go_meet
                      exact b_alloc (Below.refl _ _) _
                    | false =>
                      simp at hv
                      subst hv
                      have k5 := neq_vote fB 2 fB 2
                      have k6 : (fB == fB && (2 : Int) == 2) = true := by simp
                      rw [k6] at k5
                      go_wp2_with fail
                      go_meet
                      exact b_alloc (Below.refl _ _) _
                case rest =>
                  have hTc : Two wc w.heap.size F G GF GB g1 g2 l1 l2 bal fb fv mF mG n n DF DB fB fV fB fV := hT.out.same (fun k hk => hcut.block k hk)
                  have hbc : Below w.heap.size w wc := hbel.trans (hcut.mono hbel.size)
                  have HTc : Hid (Two wc w.heap.size F G GF GB g1 g2 l1 l2 bal fb fv mF mG n n DF DB fB fV fB fV) := hTc
                  have HD0 : Hid (IsD DF (Up n) (fun x => fb x.toNat) (fun x => fv x.toNat) n ∧ IsD DB (Up n) (fun x => fb x.toNat) (fun x => fv x.toNat) n) := ⟨hD.out.1, dn_up hD.out.2⟩
                  clear hcut hTc hT hD i0 i1 i2 i3 hbel
                  go_wp2
                  go_loopg [24] n (fun gk i wr => ∃ (j : Nat) (mF mG : Option Nat) (DF DB : DataW Unit), j ≤ n ∧ gk = n - j ∧ i = .int .i64 j ∧ Hid (Two wr w.heap.size F G GF GB g1 g2 l1 l2 bal fb fv mF mG (n + j) (n + j) DF DB fB fV fB fV) ∧
                      Hid (IsD DF (Up n) (fun x => fb x.toNat) (fun x => fv x.toNat) n ∧ IsD DB (Up n) (fun x => fb x.toNat) (fun x => fv x.toNat) n) ∧ Below w.heap.size w wr)
                  case atStart => exact ⟨0, mF, mG, DF, DB, Nat.zero_le _, rfl, rfl, HTc, HD0, hbc⟩
                  case round =>
                    clear HTc hbc
                    obtain ⟨j, mF1, mG1, DF1, DB1, hj, rfl, rfl, hT4, hD4, hb4⟩ := hrel
                    by_cases hlt : j < n
                    · have y0 : (0 : Int) ≤ (j : Int) := by omega
                      have y1 : (j : Int) < (n : Int) := by omega
                      have y2 : (j : Int) < (l1 : Int) := by omega
                      have y3 : (j : Int) < (l2 : Int) := by omega
                      have jwf : Hid ((Lit.int .i64 (j : Int)).wf = true) := wf_small j (by omega)
                      obtain ⟨x, hx⟩ : ∃ x, fb j = x := ⟨_, rfl⟩
                      obtain ⟨y, hy⟩ : ∃ y, fv j = y := ⟨_, rfl⟩
                      have HX : Hid (fb j = x ∧ fv j = y) := ⟨hx, hy⟩
                      clear hx hy
                      have e1 := hT4.out.r1.cell (i := j) (by omega)
                      have e2 := hT4.out.r2.cell (i := j) (by omega)
                      rw [HX.out.1] at e1
                      rw [HX.out.2] at e2
                      have tlt := hT4.out.lt
                      have ne1 : wr.heap.size ≠ g1 := by omega
                      have ne2 : wr.heap.size ≠ g2 := by omega
                      have ne3 : wr.heap.size + 1 ≠ g1 := by omega
                      have ne4 : wr.heap.size + 1 ≠ g2 := by omega
                      have HLT : Hid (F < wr.heap.size ∧ G < wr.heap.size ∧ GF < wr.heap.size ∧ GB < wr.heap.size ∧ g1 < wr.heap.size ∧ g2 < wr.heap.size) := tlt
                      clear tlt
                      have TA := hT4.out.same (w' := ((wr.alloc (.cells #[.int .i64 0, .int .i64 0] 30)).alloc (.cells #[.int .i64 x, .int .i64 y] 30)).drew) (fun t ht => (b_drew (b_alloc (b_alloc (Below.refl _ _) _) _)).block t ht)
                      have TB := hT4.out.same (w' := ((wr.alloc (.cells #[.int .i64 x, .int .i64 y] 30)).alloc (.cells #[.int .i64 0, .int .i64 0] 30)).drew) (fun t ht => (b_drew (b_alloc (b_alloc (Below.refl _ _) _) _)).block t ht)
                      have TC := hT4.out.same (w' := (wr.alloc (.cells #[.int .i64 x, .int .i64 y] 30)).drew) (fun t ht => (b_drew (b_alloc (Below.refl _ _) _)).block t ht)
                      have bA : Below w.heap.size w ((wr.alloc (.cells #[.int .i64 0, .int .i64 0] 30)).alloc (.cells #[.int .i64 x, .int .i64 y] 30)).drew := hb4.trans ((b_drew (b_alloc (b_alloc (Below.refl _ _) _) _)).mono hb4.size)
                      have bB : Below w.heap.size w ((wr.alloc (.cells #[.int .i64 x, .int .i64 y] 30)).alloc (.cells #[.int .i64 0, .int .i64 0] 30)).drew := hb4.trans ((b_drew (b_alloc (b_alloc (Below.refl _ _) _) _)).mono hb4.size)
                      have bC : Below w.heap.size w (wr.alloc (.cells #[.int .i64 x, .int .i64 y] 30)).drew := hb4.trans ((b_drew (b_alloc (Below.refl _ _) _)).mono hb4.size)
                      go_upto_region 55 with fail
                      go_cut [25, 26] (fun s25 s26 wx => ∃ (V1 : Nat) (ok1 : Bool) (mF2 : Option Nat) (rb1 rv1 : Int), s25 = .pointer (some ⟨V1, 0, none⟩) ∧ s26 = .bool ok1 ∧ Hid (wx.heap[V1]? = some (.cells #[.int .i64 rb1, .int .i64 rv1] 30 (0, 0))) ∧ Hid (Two wx w.heap.size F G GF GB g1 g2 l1 l2 bal fb fv mF2 mG1 (n + j + 1) (n + j) (DF1.put (.int .i64 (j : Int)) (voteD x y)) DB1 fB fV fB fV) ∧ Hid (Ans (DF1.put (.int .i64 (j : Int)) (voteD x y)) bal q rb1 rv1 ok1) ∧ Below w.heap.size w wx)
                      case first =>
                        go_region_held3 (fun w' => w'.cell? ⟨g1, j, none⟩ = some (.int .i64 x) ∧ w'.cell? ⟨g2, j, none⟩ = some (.int .i64 y)) (go_keep)
                          (first
                            | (go_at_call 11; refine (vote_any _ _ _).mono ?_; rintro e w' ⟨rfl, rfl⟩)
                            | (go_at_call 20; refine (promise_core F bal (j : Int) x y q mF1 (n + j) DF1 _ _ ?hr (by omega) jwf.out rfl).mono ?_
                               case hr => first | exact TC.rf | exact TA.rf | exact TB.rf
                               rintro e w5 ⟨rb1, rv1, ok1, mF2, rfl, hans, hrec, hturn⟩
                               first
                                 | (have T2 := TA.fwd HFr.out bA.size hturn hrec
                                    have B2 : Below w.heap.size w w5 := turn_below bA hturn HFr.out.bF TA.lowF bA.size
                                    have vk := turn_cells hturn TA.rf (two_laid wr (.cells #[.int .i64 0, .int .i64 0] 30) (.cells #[.int .i64 x, .int .i64 y] 30)).1 (by have := HLT.out; omega)
                                    have p3 : w5.cell? ⟨wr.heap.size, 0, none⟩ = some (.int .i64 0) := block_cell vk 0
                                    have p4 : w5.cell? ⟨wr.heap.size, 1, none⟩ = some (.int .i64 0) := block_cell vk 1
                                    have p5 := block_free vk 0
                                    have p6 := block_free vk 1)
                                 | (have T2 := TB.fwd HFr.out bB.size hturn hrec
                                    have B2 : Below w.heap.size w w5 := turn_below bB hturn HFr.out.bF TB.lowF bB.size
                                    have vk := turn_cells hturn TB.rf (two_laid wr (.cells #[.int .i64 x, .int .i64 y] 30) (.cells #[.int .i64 0, .int .i64 0] 30)).2 (by have := HLT.out; omega)
                                    have p3 : w5.cell? ⟨wr.heap.size + 1, 0, none⟩ = some (.int .i64 0) := block_cell vk 0
                                    have p4 : w5.cell? ⟨wr.heap.size + 1, 1, none⟩ = some (.int .i64 0) := block_cell vk 1
                                    have p5 := block_free vk 0
                                    have p6 := block_free vk 1)
                                 | (have T2 := TC.fwd HFr.out bC.size hturn hrec
                                    have B2 : Below w.heap.size w w5 := turn_below bC hturn HFr.out.bF TC.lowF bC.size)
                               have p1 : w5.cell? ⟨g1, j, none⟩ = some (.int .i64 x) := (T2.r1.cell (i := j) (by omega)).trans (by rw [HX.out.1])
                               have p2 : w5.cell? ⟨g2, j, none⟩ = some (.int .i64 y) := (T2.r2.cell (i := j) (by omega)).trans (by rw [HX.out.2])
                               have ne5 : w5.heap.size ≠ g1 := Nat.ne_of_gt T2.r1.lt
                               have ne6 : w5.heap.size ≠ g2 := Nat.ne_of_gt T2.r2.lt))
                        all_goals (go_wp2_with fail)
                        all_goals go_meet
                        all_goals first
                          | (refine ⟨_, ok1, mF2, rb1, rv1, rfl, rfl, heap_setCell_same _ _ 1 _ _ (.int .i64 rv1) (heap_setCell_same _ _ 0 _ _ (.int .i64 rb1) vk), T2.other vk ?_ _ _, hans, below_set2 B2 ?_ _ _⟩
                             · (have := HLT.out; refine ⟨?_, ?_, ?_, ?_, ?_, ?_⟩ <;> omega)
                             · (have := hb4.size; omega))
                          | exact ⟨_, ok1, mF2, rb1, rv1, rfl, rfl, heap_alloc_new _ _, T2.same (fun t ht => (b_alloc (Below.refl _ _) _).block t ht), hans, B2.alloc B2.size _⟩
                      case rest =>
                        obtain ⟨V1, ok1, mF2, rb1, rv1, rfl, rfl, hV5, hT5, hA5, hb5⟩ := hcut
                        have eB := ans_same (isD_again' hlt HX.out hD4.out.1) HD0.out.1 hF.out hG.out hA5.out HA1.out
                        obtain ⟨rfl, rfl, rfl⟩ := eB
                        have i0 : wc.cell? ⟨GF, 0, none⟩ = some (.int .i64 rb1) := block_cell hT5.out.gf 0
                        have i1 : wc.cell? ⟨GF, 1, none⟩ = some (.int .i64 rv1) := block_cell hT5.out.gf 1
                        have i2 : wc.cell? ⟨V1, 0, none⟩ = some (.int .i64 rb1) := block_cell hV5.out 0
                        have i3 : wc.cell? ⟨V1, 1, none⟩ = some (.int .i64 rv1) := block_cell hV5.out 1
                        have HD5 : Hid (IsD (DF1.put (.int .i64 (j : Int)) (voteD x y)) (Up n) (fun x => fb x.toNat) (fun x => fv x.toNat) n) := isD_again' hlt HX.out hD4.out.1
                        clear TA TB TC bA bB bC e1 e2 ne1 ne2 ne3 ne4 HLT
                        have e1 := hT5.out.r1.cell (i := j) (by omega)
                        have e2 := hT5.out.r2.cell (i := j) (by omega)
                        rw [HX.out.1] at e1
                        rw [HX.out.2] at e2
                        have tlt := hT5.out.lt
                        have ne1 : wc.heap.size ≠ g1 := by omega
                        have ne2 : wc.heap.size ≠ g2 := by omega
                        have ne3 : wc.heap.size + 1 ≠ g1 := by omega
                        have ne4 : wc.heap.size + 1 ≠ g2 := by omega
                        have HLT : Hid (F < wc.heap.size ∧ G < wc.heap.size ∧ GF < wc.heap.size ∧ GB < wc.heap.size ∧ g1 < wc.heap.size ∧ g2 < wc.heap.size) := tlt
                        clear tlt
                        have TA := hT5.out.same (w' := ((wc.alloc (.cells #[.int .i64 0, .int .i64 0] 30)).alloc (.cells #[.int .i64 x, .int .i64 y] 30)).drew) (fun t ht => (b_drew (b_alloc (b_alloc (Below.refl _ _) _) _)).block t ht)
                        have TB := hT5.out.same (w' := ((wc.alloc (.cells #[.int .i64 x, .int .i64 y] 30)).alloc (.cells #[.int .i64 0, .int .i64 0] 30)).drew) (fun t ht => (b_drew (b_alloc (b_alloc (Below.refl _ _) _) _)).block t ht)
                        have TC := hT5.out.same (w' := (wc.alloc (.cells #[.int .i64 x, .int .i64 y] 30)).drew) (fun t ht => (b_drew (b_alloc (Below.refl _ _) _)).block t ht)
                        have bA : Below w.heap.size w ((wc.alloc (.cells #[.int .i64 0, .int .i64 0] 30)).alloc (.cells #[.int .i64 x, .int .i64 y] 30)).drew := hb5.trans ((b_drew (b_alloc (b_alloc (Below.refl _ _) _) _)).mono hb5.size)
                        have bB : Below w.heap.size w ((wc.alloc (.cells #[.int .i64 x, .int .i64 y] 30)).alloc (.cells #[.int .i64 0, .int .i64 0] 30)).drew := hb5.trans ((b_drew (b_alloc (b_alloc (Below.refl _ _) _) _)).mono hb5.size)
                        have bC : Below w.heap.size w (wc.alloc (.cells #[.int .i64 x, .int .i64 y] 30)).drew := hb5.trans ((b_drew (b_alloc (Below.refl _ _) _)).mono hb5.size)
                        go_upto_region 58 with fail
                        go_cut [27, 28] (fun s25 s26 wx => ∃ (V2 : Nat) (ok2 : Bool) (mG2 : Option Nat) (rb2 rv2 : Int), s25 = .pointer (some ⟨V2, 0, none⟩) ∧ s26 = .bool ok2 ∧ Hid (wx.heap[V2]? = some (.cells #[.int .i64 rb2, .int .i64 rv2] 30 (0, 0))) ∧ Hid (Two wx w.heap.size F G GF GB g1 g2 l1 l2 bal fb fv mF2 mG2 (n + j + 1) (n + j + 1) (DF1.put (.int .i64 (j : Int)) (voteD x y)) (DB1.put (.int .i64 (j : Int)) (voteD x y)) rb1 rv1 rb1 rv1) ∧ Hid (Ans (DB1.put (.int .i64 (j : Int)) (voteD x y)) bal q rb2 rv2 ok2) ∧ Below w.heap.size w wx)
                        case first =>
                          go_region_held3 (fun w' => w'.cell? ⟨g1, j, none⟩ = some (.int .i64 x) ∧ w'.cell? ⟨g2, j, none⟩ = some (.int .i64 y)) (go_keep)
                            (first
                              | (go_at_call 11; refine (vote_any _ _ _).mono ?_; rintro e w' ⟨rfl, rfl⟩)
                              | (go_at_call 20; refine (promise_core G bal (j : Int) x y q mG1 (n + j) DB1 _ _ ?hr (by omega) jwf.out rfl).mono ?_
                                 case hr => first | exact TC.rb | exact TA.rb | exact TB.rb
                                 rintro e w5 ⟨rb2, rv2, ok2, mG2, rfl, hans, hrec, hturn⟩
                                 first
                                   | (have T2 := TA.bwd HFr.out bA.size hturn hrec
                                      have B2 : Below w.heap.size w w5 := turn_below bA hturn HFr.out.bG TA.lowB bA.size
                                      have vk := turn_cells hturn TA.rb (two_laid wc (.cells #[.int .i64 0, .int .i64 0] 30) (.cells #[.int .i64 x, .int .i64 y] 30)).1 (by have := HLT.out; omega)
                                      have p3 : w5.cell? ⟨wc.heap.size, 0, none⟩ = some (.int .i64 0) := block_cell vk 0
                                      have p4 : w5.cell? ⟨wc.heap.size, 1, none⟩ = some (.int .i64 0) := block_cell vk 1
                                      have p5 := block_free vk 0
                                      have p6 := block_free vk 1)
                                   | (have T2 := TB.bwd HFr.out bB.size hturn hrec
                                      have B2 : Below w.heap.size w w5 := turn_below bB hturn HFr.out.bG TB.lowB bB.size
                                      have vk := turn_cells hturn TB.rb (two_laid wc (.cells #[.int .i64 x, .int .i64 y] 30) (.cells #[.int .i64 0, .int .i64 0] 30)).2 (by have := HLT.out; omega)
                                      have p3 : w5.cell? ⟨wc.heap.size + 1, 0, none⟩ = some (.int .i64 0) := block_cell vk 0
                                      have p4 : w5.cell? ⟨wc.heap.size + 1, 1, none⟩ = some (.int .i64 0) := block_cell vk 1
                                      have p5 := block_free vk 0
                                      have p6 := block_free vk 1)
                                   | (have T2 := TC.bwd HFr.out bC.size hturn hrec
                                      have B2 : Below w.heap.size w w5 := turn_below bC hturn HFr.out.bG TC.lowB bC.size)
                                 have p1 : w5.cell? ⟨g1, j, none⟩ = some (.int .i64 x) := (T2.r1.cell (i := j) (by omega)).trans (by rw [HX.out.1])
                                 have p2 : w5.cell? ⟨g2, j, none⟩ = some (.int .i64 y) := (T2.r2.cell (i := j) (by omega)).trans (by rw [HX.out.2])
                                 have ne5 : w5.heap.size ≠ g1 := Nat.ne_of_gt T2.r1.lt
                                 have ne6 : w5.heap.size ≠ g2 := Nat.ne_of_gt T2.r2.lt))
                          all_goals (go_wp2_with fail)
                          all_goals go_meet
                          all_goals first
                            | (refine ⟨_, ok2, mG2, rb2, rv2, rfl, rfl, heap_setCell_same _ _ 1 _ _ (.int .i64 rv2) (heap_setCell_same _ _ 0 _ _ (.int .i64 rb2) vk), T2.other vk ?_ _ _, hans, below_set2 B2 ?_ _ _⟩
                               · (have := HLT.out; refine ⟨?_, ?_, ?_, ?_, ?_, ?_⟩ <;> omega)
                               · (have := hb5.size; omega))
                            | exact ⟨_, ok2, mG2, rb2, rv2, rfl, rfl, heap_alloc_new _ _, T2.same (fun t ht => (b_alloc (Below.refl _ _) _).block t ht), hans, B2.alloc B2.size _⟩
                        case rest =>
                          obtain ⟨V2, ok2, mG2, rb2, rv2, rfl, rfl, hV6, hT6, hA6, hb6⟩ := hcut
                          have eB := ans_same (isD_again' hlt HX.out hD4.out.2) HD0.out.1 hF.out hG.out hA6.out HA1.out
                          obtain ⟨rfl, rfl, rfl⟩ := eB
                          have i0 : wc.cell? ⟨GF, 0, none⟩ = some (.int .i64 rb2) := block_cell hT6.out.gf 0
                          have i1 : wc.cell? ⟨GF, 1, none⟩ = some (.int .i64 rv2) := block_cell hT6.out.gf 1
                          have i2 : wc.cell? ⟨V2, 0, none⟩ = some (.int .i64 rb2) := block_cell hV6.out 0
                          have i3 : wc.cell? ⟨V2, 1, none⟩ = some (.int .i64 rv2) := block_cell hV6.out 1
                          have HD6 : Hid (IsD (DB1.put (.int .i64 (j : Int)) (voteD x y)) (Up n) (fun x => fb x.toNat) (fun x => fv x.toNat) n) := isD_again' hlt HX.out hD4.out.2
                          clear TA TB TC bA bB bC e1 e2 ne1 ne2 ne3 ne4
                          go_wp2
                          go_roundg (n - (j + 1))
                          case measure => omega
                          case rel => exact ⟨j + 1, mF2, mG2, _, _, by omega, rfl, by go_num, hT6, ⟨HD5.out, HD6.out⟩, hb6⟩
                    · obtain rfl : n = j := by omega
                      go_wp2
                      go_ret
                      exact ⟨rfl, hb4⟩

end Go.Proofs.Qxb6600353a
