/-
  Seat b6600347a. FnEncodeJoinsHalves (function 8): the walk at two slices of even length, neither empty.
-/
import Derived.Test.Qxb6600347aJoin
namespace Go.Proofs.Qxb6600347a
open Go.RowKit

theorem joined (SA SB : List UInt8) : (SA ++ (strOf [45] ++ SB) == ((⟨SA.toArray⟩ : ByteArray) ++ ⟨#[45]⟩ ++ ⟨SB.toArray⟩).toList) = true := by
  have e1 : ((⟨SA.toArray⟩ : ByteArray) ++ ⟨#[45]⟩) = ⟨(SA ++ [45]).toArray⟩ := ByteArray.mk_append_mk SA [45]
  rw [e1, ByteArray.mk_append_mk, ByteArray.toList_mk]
  simp [strOf]

set_option maxRecDepth 100000 in
set_option maxHeartbeats 3200000 in
theorem join_main (b0 o0 la c0 b1 o1 lb c1 : Nat) (fa fb : Nat → Int) (w : World) (hla : 0 < la) (hlb : 0 < lb) (hsum : la + lb ≤ 1048576)
    (k2 : ((la : Int) % 2 != 0) = false) (k3 : ((lb : Int) % 2 != 0) = false) (hfa : ∀ j, 0 ≤ fa j ∧ fa j ≤ 255) (hfb : ∀ j, 0 ≤ fb j ∧ fb j ≤ 255)
    (hca : ∀ j, j < la → w.cell? ⟨b0, o0 + j, none⟩ = some (.int .u8 (fa j))) (hcb : ∀ j, j < lb → w.cell? ⟨b1, o1 + j, none⟩ = some (.int .u8 (fb j)))
    (hb0 : b0 < w.heap.size) (hb1 : b1 < w.heap.size) :
    Calls Try.prog 8 #[.slice (some ⟨b0, o0, none⟩) la c0, .slice (some ⟨b1, o1, none⟩) lb c1] w fun e w' => e = .returned (.bool true) ∧ Below w.heap.size w w' := by
  have h0 : decide ((1048576 : Int) < (la : Int)) = false := decide_eq_false (by omega)
  have h1 : decide ((1048576 : Int) < (lb : Int)) = false := decide_eq_false (by omega)
  have h2 : decide ((1048576 : Int) < (la : Int) + (lb : Int)) = false := decide_eq_false (by omega)
  have k0 : ((la : Int) == 0) = false := by simp; omega
  have k1 : ((lb : Int) == 0) = false := by simp; omega
  have HFA : Hid (∀ j, 0 ≤ fa j ∧ fa j ≤ 255) := hfa
  have HFB : Hid (∀ j, 0 ≤ fb j ∧ fb j ≤ 255) := hfb
  have HCA : Hid (∀ j, j < la → w.cell? ⟨b0, o0 + j, none⟩ = some (.int .u8 (fa j))) := hca
  have HCB : Hid (∀ j, j < lb → w.cell? ⟨b1, o1 + j, none⟩ = some (.int .u8 (fb j))) := hcb
  clear hfa hfb hca hcb
  go_enter Try.func8, Try.ntmps8
  go_wp2_with fail
  refine (bytes2_yes _ _ la c0 lb c1 w hsum).mono ?_
  rintro e w' ⟨rfl, hw⟩
  obtain rfl := hw.symm
  clear hw
  go_wp2_with fail
  refine (clone_any b0 o0 la c0 fa _ (by omega) HCA.out hb0).mono ?_
  rintro e w1 ⟨rfl, row1, sz1, bel1⟩
  have S1 : Hid (w1.heap.size = w.heap.size + 1) := sz1
  clear sz1
  go_wp2_with fail
  refine (clone_any b1 o1 lb c1 fb _ (by omega) (fun j hj => (bel1.cell (by exact hb1)).trans (HCB.out j hj)) (by have := S1.out; omega)).mono ?_
  rintro e w2 ⟨rfl, row2, sz2, bel2⟩
  have S2 : Hid (w2.heap.size = w1.heap.size + 1) := sz2
  clear sz2
  have rowA : w2.rowIs w.heap.size 5 la (fun j => .int .u8 (fa j)) := row1.of_block (bel2.block _ (by have := S1.out; omega))
  clear row1
  have hmk := run_make_row' (P := Try.prog) 26 5 (.int .u8 0) 1 Try.underlying26 Try.info5 rfl .i64 .i64 (la + lb) (by omega) (by omega)
  rw [show ((la + lb : Nat) : Int) = (la : Int) + (lb : Int) from by omega] at hmk
  go_wp2
  clear hmk
  have rowC := World.rowIs_made w2 (.int .u8 0) (la + lb) 5
  have belC : Below w2.heap.size w2 (w2.alloc (.cells (madeCells #[.int .u8 0] (la + lb)) 5)) := (Below.refl _ _).alloc (Nat.le_refl _) _
  have szC : (w2.alloc (.cells (madeCells #[.int .u8 0] (la + lb)) 5)).heap.size = w2.heap.size + 1 := by simp
  have SC : Hid ((w2.alloc (.cells (madeCells #[.int .u8 0] (la + lb)) 5)).heap.size = w2.heap.size + 1) := szC
  clear szC
  generalize w2.alloc (.cells (madeCells #[.int .u8 0] (la + lb)) 5) = w3 at rowC belC SC ⊢
  have HRA : Hid (w2.rowIs w.heap.size 5 la (fun j => .int .u8 (fa j))) := rowA
  have HRB : Hid (w2.rowIs w1.heap.size 5 lb (fun j => .int .u8 (fb j))) := row2
  clear rowA row2
  go_loopw [6] (fun i wr => ∃ k : Nat, k ≤ la ∧ i = .int .i64 k ∧ wr.rowIs w2.heap.size 5 (la + lb) (fun j => if j < k then .int .u8 (fa j) else .int .u8 0) ∧ Hid (wr.heap.size = w2.heap.size + 1) ∧ Below w2.heap.size w2 wr) (fun i _ => la - (intOf i).toNat)
  case atStart => exact ⟨0, Nat.zero_le _, rfl, rowC.congr (fun i _ => by simp), SC, belC⟩
  case round =>
    clear rowC belC SC
    obtain ⟨k, hk, rfl, hrow, hsz, hbel⟩ := hrel
    by_cases hlt : k < la
    · have g1 : wr.cell? ⟨w.heap.size, k, none⟩ = some (.int .u8 (fa k)) := (hbel.cell (by have := HRA.out.lt; exact this)).trans (HRA.out.cell hlt)
      have g2 := hrow.cell (i := k) (by omega)
      have g3 := hrow.frozen k
      have q0 : (0 : Int) ≤ (k : Int) := by omega
      have q1 : (k : Int) < (la : Int) := by omega
      have q2 : (k : Int) < (la : Int) + (lb : Int) := by omega
      rw [if_neg (by omega)] at g2
      go_wp2
      go_roundw
      case rel =>
        refine ⟨k + 1, by omega, by go_num, (hrow.set k (.int .u8 (fa k))).congr (fun i hi => ?_), by simpa [Hid, World.setCell] using hsz.out, hbel.setCell (by simp) _⟩
        by_cases e : i = k
        · subst e; simp
        · by_cases e2 : i < k
          · simp [e, e2, show i < k + 1 by omega]
          · simp [e, e2, show ¬ i < k + 1 by omega]
      case measure => simp [intOf]; omega
    · have hkl : Hid (k = la) := by show k = la; omega
      have R1 : wr.rowIs w2.heap.size 5 (la + lb) (fun j => if j < la then .int .u8 (fa j) else if j < la + 0 then .int .u8 (fb (j - la)) else .int .u8 0) := hrow.congr (fun i hi => by rw [hkl.out]; by_cases e : i < la <;> simp [e])
      clear hrow
      have HW : Hid (wr.heap.size = w2.heap.size + 1 ∧ Below w2.heap.size w2 wr) := ⟨hsz, hbel⟩
      clear hsz hbel
      go_wp2
      generalize wr = wr0 at R1 HW ⊢
      go_loopw [7] (fun i wr => ∃ k : Nat, k ≤ lb ∧ i = .int .i64 k ∧ wr.rowIs w2.heap.size 5 (la + lb) (fun j => if j < la then .int .u8 (fa j) else if j < la + k then .int .u8 (fb (j - la)) else .int .u8 0) ∧ Hid (wr.heap.size = w2.heap.size + 1) ∧ Below w2.heap.size w2 wr) (fun i _ => lb - (intOf i).toNat)
      case atStart => exact ⟨0, Nat.zero_le _, rfl, R1, HW.out.1, HW.out.2⟩
      case round =>
        clear R1 HW
        obtain ⟨m, hm, rfl, hrow, hsz, hbel⟩ := hrel
        by_cases hlt2 : m < lb
        · have g1 : wr.cell? ⟨w1.heap.size, m, none⟩ = some (.int .u8 (fb m)) := (hbel.cell (by have := HRB.out.lt; exact this)).trans (HRB.out.cell hlt2)
          have g2 := hrow.cell (i := la + m) (by omega)
          have g3 := hrow.frozen (la + m)
          have q0 : (0 : Int) ≤ (m : Int) := by omega
          have q1 : (m : Int) < (lb : Int) := by omega
          have q2 : (la : Int) + (m : Int) < (la : Int) + (lb : Int) := by omega
          have q3 : (0 : Int) ≤ (la : Int) + (m : Int) := by omega
          rw [if_neg (by omega), if_neg (by omega)] at g2
          have q4 : ((la : Int) + (m : Int)).toNat = la + m := by omega
          go_wp2
          go_roundw
          case rel =>
            refine ⟨m + 1, by omega, by go_num, (hrow.set (la + m) (.int .u8 (fb m))).congr (fun i hi => ?_), by simpa [Hid, World.setCell] using hsz.out, hbel.setCell (by simp) _⟩
            by_cases e : i = la + m
            · subst e; simp [show ¬ la + m < la by omega]
            · by_cases e1 : i < la
              · simp [e, e1]
              · by_cases e2 : i < la + m
                · simp [e, e1, e2, show i < la + (m + 1) by omega]
                · simp [e, e1, e2, show ¬ i < la + (m + 1) by omega]
          case measure => simp [intOf]; omega
        · have hml : Hid (m = lb) := by show m = lb; omega
          have rC : wr.rowIs w2.heap.size 5 (la + lb) (fun j => .int .u8 (if j < la then fa j else fb (j - la))) := hrow.congr (fun i hi => by rw [hml.out]; by_cases e : i < la <;> simp [e, hi])
          have rA : wr.rowIs w.heap.size 5 la (fun j => .int .u8 (fa j)) := HRA.out.of_block (hbel.block _ HRA.out.lt)
          have rB : wr.rowIs w1.heap.size 5 lb (fun j => .int .u8 (fb j)) := HRB.out.of_block (hbel.block _ HRB.out.lt)
          have hbelw : Below w.heap.size w wr := (bel1.trans (bel2.mono bel1.size)).trans (hbel.mono (Nat.le_trans bel1.size bel2.size))
          have HT : Hid (wr.rowIs w2.heap.size 5 (la + lb) (fun j => .int .u8 (if j < la then fa j else fb (j - la))) ∧ wr.rowIs w.heap.size 5 la (fun j => .int .u8 (fa j)) ∧ wr.rowIs w1.heap.size 5 lb (fun j => .int .u8 (fb j))) := ⟨rC, rA, rB⟩
          clear rC rA rB hrow hsz hbel
          have E1 : encTo (fun j => if j < la then fa j else fb (j - la)) ((la + lb) / 2) = encTo fa (la / 2) ++ [45] ++ encTo fb (lb / 2) := by
            simp at k2 k3
            obtain ⟨p, hp⟩ : ∃ p, lb / 2 = p + 1 := ⟨lb / 2 - 1, by omega⟩
            rw [hp, show (la + lb) / 2 = la / 2 + (p + 1) from by omega]
            exact encTo_join (by omega) (fun j hj => by simp [show j < la by omega]) p (fun j hj => by simp [show ¬ 2 * (la / 2) + j < la by omega, show 2 * (la / 2) + j - la = j by omega])
          have L1 := encTo_length_le fa (la / 2)
          have L2 := encTo_length_le fb (lb / 2)
          have HE : Hid (encTo (fun j => if j < la then fa j else fb (j - la)) ((la + lb) / 2) = encTo fa (la / 2) ++ [45] ++ encTo fb (lb / 2)) := E1
          clear E1
          go_wp2_with fail
          refine (encode_any w2.heap.size (la + lb) (la + lb) (fun j => if j < la then fa j else fb (j - la)) wr (by simp at k2 k3 ⊢; omega) (by omega) (fun j => by by_cases e : j < la <;> simp [e, HFA.out, HFB.out]) (fun j hj => HT.out.1.cell hj) HT.out.1.lt).mono ?_
          rintro e w4 ⟨rfl, b4⟩
          rw [HE.out, strOf_append, strOf_append]
          have lA : (strOf (encTo fa (la / 2))).length ≤ 6291456 := by rw [strOf_length]; omega
          have lB : (strOf (encTo fb (lb / 2))).length ≤ 6291456 := by rw [strOf_length]; omega
          go_wp2_with fail
          refine (encode_any w.heap.size la la fa _ k2 (by omega) HFA.out (fun j hj => (b4.cell (by exact HT.out.2.1.lt)).trans (HT.out.2.1.cell hj)) (by have := HT.out.2.1.lt; have := b4.size; omega)).mono ?_
          rintro e w5 ⟨rfl, b5⟩
          generalize strOf (encTo fa (la / 2)) = SA at lA ⊢
          have A1 := fun (w : World) => run_string_add_sum (P := Try.prog) w ⟨SA.toArray⟩ ⟨#[45]⟩ (by simp [ByteArray.size]; omega)
          go_wp2_with fail
          refine (encode_any w1.heap.size lb lb fb _ k3 (by omega) HFB.out (fun j hj => (b5.cell (p := ⟨w1.heap.size, j, none⟩) (by have := HT.out.2.2.lt; have := b4.size; show w1.heap.size < w4.heap.size; omega)).trans ((b4.cell (by exact HT.out.2.2.lt)).trans (HT.out.2.2.cell hj))) (by have := HT.out.2.2.lt; have := b4.size; have := b5.size; omega)).mono ?_
          rintro e w6 ⟨rfl, b6⟩
          generalize strOf (encTo fb (lb / 2)) = SB at lB ⊢
          have hj := joined SA SB
          go_wp2_with fail
          go_ret
          refine ⟨by simp, ?_⟩
          have s1 := hbelw.size
          have s2 := b4.size
          have s3 := b5.size
          exact ((hbelw.trans (b4.mono s1)).trans (b5.mono (Nat.le_trans s1 s2))).trans (b6.mono (Nat.le_trans s1 (Nat.le_trans s2 s3)))

end Go.Proofs.Qxb6600347a
