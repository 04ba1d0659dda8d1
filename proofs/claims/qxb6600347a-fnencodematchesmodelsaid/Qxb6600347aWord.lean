import Derived.Test.Qxb6600347aRows
import Derived.Test.Qxb6600347aPlain
import Derived.WalkKit
import Derived.WalkSpells
import Derived.ProofKit
import Derived.OpenShut
import Derived.Below
import Derived.Deep.RegionHeld3
import Derived.Deep.AppendLies
import Derived.BigQuiet
namespace Go.Proofs.Qxb6600347a
open Go.RowKit
set_option linter.unusedSimpArgs false

theorem Try.info5 : (Try.prog.info? 5).map (fun i => (i.zero, i.size, i.bytes)) = some (some (.int .u8 0), 1, 1) := by kernel_rfl

/-- Operation number i of a region that draws its order is taken first; its slot is told. -/
theorem take_at {P : Program} {ops : Array Oper} {Q : Exit → Act → World → Prop} {md : Region.Mode} {S : World → Prop} (i : Nat) (d : Option Tmp) (v : Value) {oi : Oper} {fuel : Nat} {listed : Array Bool} {a : Act} {w : World}
    (hi : ops[i]? = some oi) (hd : oi.dst = d) (hs : Region.noSelect ops = true) (hf : Region.free md ops listed i = true) (hr : (Region.ready md ops listed).contains i = true)
    (hQ : ∀ c a w, Q (.panic c) (a.put d v) w → Q (.panic c) a w) (hw : Region.wanted oi (yielded ops a.tmps) = true) (hy : ∀ w, S w → (execOp a.eval oi).run P w = .ok (.value v) w) (hS : S w)
    (h : wpAnyH P md ops Q S fuel (listed.setIfInBounds i true) (a.put d v) w) : wpAnyH P md ops Q S (fuel + 1) listed a w := by
  subst hd
  exact wpAnyH_take hi hs hf hr hQ (Or.inl ⟨hw, hy⟩) hS h

/-- 'consonants[i]', i in its bounds. -/
theorem run_cons (i : Int) (h0 : 0 ≤ i) (h1 : i < 16) (w : World) :
    (Instr.index 9 (.string { data := #[98, 100, 102, 103, 104, 106, 107, 108, 109, 110, 112, 114, 115, 116, 118, 122] }) (.int .u16 i)).run Try.prog w = .ok (.int .u8 (consL i)) w := by
  obtain ⟨n, rfl⟩ := Int.eq_ofNat_of_zero_le h0
  rcases (show n = 0 ∨ n = 1 ∨ n = 2 ∨ n = 3 ∨ n = 4 ∨ n = 5 ∨ n = 6 ∨ n = 7 ∨ n = 8 ∨ n = 9 ∨ n = 10 ∨ n = 11 ∨ n = 12 ∨ n = 13 ∨ n = 14 ∨ n = 15 from by omega) with rfl | rfl | rfl | rfl | rfl | rfl | rfl | rfl | rfl | rfl | rfl | rfl | rfl | rfl | rfl | rfl <;> kernel_rfl
/-- 'vowels[i]', i in its bounds. -/
theorem run_vow (i : Int) (h0 : 0 ≤ i) (h1 : i < 4) (w : World) :
    (Instr.index 9 (.string { data := #[97, 105, 111, 117] }) (.int .u16 i)).run Try.prog w = .ok (.int .u8 (vowL i)) w := by
  obtain ⟨n, rfl⟩ := Int.eq_ofNat_of_zero_le h0
  rcases (show n = 0 ∨ n = 1 ∨ n = 2 ∨ n = 3 from by omega) with rfl | rfl | rfl | rfl <;> kernel_rfl

theorem mask3 (y : Int) (h0 : 0 ≤ y) (h1 : y ≤ 65535) : bits .and .u16 y 3 = y % 4 := by
  rw [u16_and y 3 h0 (by omega) (by omega) (by omega)]
  rw [show (3 : Int).toNat = 3 from rfl, nat_mask2]
  omega
theorem mask15 (y : Int) (h0 : 0 ≤ y) (h1 : y ≤ 65535) : bits .and .u16 y 15 = y % 16 := by
  rw [u16_and y 15 h0 (by omega) (by omega) (by omega)]
  rw [show (15 : Int).toNat = 15 from rfl, nat_mask4]
  omega

set_option maxRecDepth 100000 in
set_option maxHeartbeats 1600000 in
theorem appendWord_own (x : Int) (h0 : 0 ≤ x) (h1 : x ≤ 65535) (ov : Value) (n base : Nat) (xs : List Value) (w : World)
    (hown : w.ownsRow base 5 1 ov n xs) (hbase : base ≤ w.heap.size) (hn : n ≤ 1000000000) :
    Calls Try.prog 20 #[ov, .int .u16 x] w fun e w' => ∃ g cap, e = .returned (.slice (some ⟨g, 0, none⟩) (n + 5) cap) ∧
      w'.ownsRow base 5 1 (.slice (some ⟨g, 0, none⟩) (n + 5) cap) (n + 5) (xs ++ (word x).map (Value.int .u8)) ∧ w.grownBy w' ov.ownBlock ∧ (ov.ownBlock = some g ∨ w.heap.size ≤ g) := by
  obtain ⟨i0, hi0, hz0, hz1, hz2⟩ := info_parts Try.info5
  have b1 := mask3 (x / 1024) (by omega) (by omega)
  have b2 := mask15 (x / 64) (by omega) (by omega)
  have b3 := mask3 (x / 16) (by omega) (by omega)
  have b4 := mask15 x (by omega) (by omega)
  have k0 := run_cons (x / 4096) (by omega) (by omega)
  have k1 := run_vow (x / 1024 % 4) (by omega) (by omega)
  have k2 := run_cons (x / 64 % 16) (by omega) (by omega)
  have k3 := run_vow (x / 16 % 4) (by omega) (by omega)
  have k4 := run_cons (x % 16) (by omega) (by omega)
  go_enter Try.func20, Try.ntmps20
  go_wp2_with fail
  refine wp_region_noPanic ?_
  refine wp_region_held_drew (S := fun _ => True) (by kernel_rfl) trivial (fun hHeld => ?_)
  refine take_at 0 (some 5) ?_ rfl rfl (by kernel_rfl) (by kernel_rfl) (by kernel_rfl) (fun _ _ _ h => h) (by rfl) ?_ hHeld ?_
  rotate_left
  · intro w hSw; go_simp; try with_reducible rfl
  simp only [Act.put, List.setIfInBounds_toArray, List.set_cons_zero, List.set_cons_succ]
  refine take_at 1 (some 6) ?_ rfl rfl (by kernel_rfl) (by kernel_rfl) (by kernel_rfl) (fun _ _ _ h => h) (by rfl) ?_ hHeld ?_
  rotate_left
  · intro w hSw; go_simp; try with_reducible rfl
  simp only [Act.put, List.setIfInBounds_toArray, List.set_cons_zero, List.set_cons_succ]
  refine take_at 2 (some 7) ?_ rfl rfl (by kernel_rfl) (by kernel_rfl) (by kernel_rfl) (fun _ _ _ h => h) (by rfl) ?_ hHeld ?_
  rotate_left
  · intro w hSw; go_simp; try with_reducible rfl
  simp only [Act.put, List.setIfInBounds_toArray, List.set_cons_zero, List.set_cons_succ]
  refine take_at 3 (some 8) ?_ rfl rfl (by kernel_rfl) (by kernel_rfl) (by kernel_rfl) (fun _ _ _ h => h) (by rfl) ?_ hHeld ?_
  rotate_left
  · intro w hSw; go_simp; try with_reducible rfl
  simp only [Act.put, List.setIfInBounds_toArray, List.set_cons_zero, List.set_cons_succ]
  refine take_at 4 (some 9) ?_ rfl rfl (by kernel_rfl) (by kernel_rfl) (by kernel_rfl) (fun _ _ _ h => h) (by rfl) ?_ hHeld ?_
  rotate_left
  · intro w hSw; go_simp; try with_reducible rfl
  simp only [Act.put, List.setIfInBounds_toArray, List.set_cons_zero, List.set_cons_succ]
  refine take_at 5 (some 10) ?_ rfl rfl (by kernel_rfl) (by kernel_rfl) (by kernel_rfl) (fun _ _ _ h => h) (by rfl) ?_ hHeld ?_
  rotate_left
  · intro w hSw; go_simp; try with_reducible rfl
  simp only [Act.put, List.setIfInBounds_toArray, List.set_cons_zero, List.set_cons_succ]
  refine take_at 6 (some 11) ?_ rfl rfl (by kernel_rfl) (by kernel_rfl) (by kernel_rfl) (fun _ _ _ h => h) (by rfl) ?_ hHeld ?_
  rotate_left
  · intro w hSw; go_simp; try with_reducible rfl
  simp only [Act.put, List.setIfInBounds_toArray, List.set_cons_zero, List.set_cons_succ]
  refine take_at 7 (some 12) ?_ rfl rfl (by kernel_rfl) (by kernel_rfl) (by kernel_rfl) (fun _ _ _ h => h) (by rfl) ?_ hHeld ?_
  rotate_left
  · intro w hSw; go_simp; try with_reducible rfl
  simp only [Act.put, List.setIfInBounds_toArray, List.set_cons_zero, List.set_cons_succ]
  refine take_at 8 (some 13) ?_ rfl rfl (by kernel_rfl) (by kernel_rfl) (by kernel_rfl) (fun _ _ _ h => h) (by rfl) ?_ hHeld ?_
  rotate_left
  · intro w hSw; go_simp; try with_reducible rfl
  simp only [Act.put, List.setIfInBounds_toArray, List.set_cons_zero, List.set_cons_succ]
  refine take_at 9 (some 14) ?_ rfl rfl (by kernel_rfl) (by kernel_rfl) (by kernel_rfl) (fun _ _ _ h => h) (by rfl) ?_ hHeld ?_
  rotate_left
  · intro w hSw; go_simp; try with_reducible rfl
  simp only [Act.put, List.setIfInBounds_toArray, List.set_cons_zero, List.set_cons_succ]
  refine take_at 10 (some 15) ?_ rfl rfl (by kernel_rfl) (by kernel_rfl) (by kernel_rfl) (fun _ _ _ h => h) (by rfl) ?_ hHeld ?_
  rotate_left
  · intro w hSw; go_simp; try with_reducible rfl
  simp only [Act.put, List.setIfInBounds_toArray, List.set_cons_zero, List.set_cons_succ]
  refine take_at 11 (some 16) ?_ rfl rfl (by kernel_rfl) (by kernel_rfl) (by kernel_rfl) (fun _ _ _ h => h) (by rfl) ?_ hHeld ?_
  rotate_left
  · intro w hSw; go_simp; try with_reducible rfl
  simp only [Act.put, List.setIfInBounds_toArray, List.set_cons_zero, List.set_cons_succ]
  refine take_at 12 (some 17) ?_ rfl rfl (by kernel_rfl) (by kernel_rfl) (by kernel_rfl) (fun _ _ _ h => h) (by rfl) ?_ hHeld ?_
  rotate_left
  · intro w hSw; go_simp; try with_reducible rfl
  simp only [Act.put, List.setIfInBounds_toArray, List.set_cons_zero, List.set_cons_succ]
  refine take_at 13 (some 18) ?_ rfl rfl (by kernel_rfl) (by kernel_rfl) (by kernel_rfl) (fun _ _ _ h => h) (by rfl) ?_ hHeld ?_
  rotate_left
  · intro w hSw; go_simp; try with_reducible rfl
  simp only [Act.put, List.setIfInBounds_toArray, List.set_cons_zero, List.set_cons_succ]
  refine take_at 14 (some 19) ?_ rfl rfl (by kernel_rfl) (by kernel_rfl) (by kernel_rfl) (fun _ _ _ h => h) (by rfl) ?_ hHeld ?_
  rotate_left
  · intro w hSw; go_simp; try with_reducible rfl
  simp only [Act.put, List.setIfInBounds_toArray, List.set_cons_zero, List.set_cons_succ]
  refine take_at 15 (some 20) ?_ rfl rfl (by kernel_rfl) (by kernel_rfl) (by kernel_rfl) (fun _ _ _ h => h) (by rfl) ?_ hHeld ?_
  rotate_left
  · intro w hSw; go_simp; try with_reducible rfl
  simp only [Act.put, List.setIfInBounds_toArray, List.set_cons_zero, List.set_cons_succ]
  refine take_at 16 (some 21) ?_ rfl rfl (by kernel_rfl) (by kernel_rfl) (by kernel_rfl) (fun _ _ _ h => h) (by rfl) ?_ hHeld ?_
  rotate_left
  · intro w hSw; go_simp; try with_reducible rfl
  simp only [Act.put, List.setIfInBounds_toArray, List.set_cons_zero, List.set_cons_succ]
  refine take_at 17 (some 22) ?_ rfl rfl (by kernel_rfl) (by kernel_rfl) (by kernel_rfl) (fun _ _ _ h => h) (by rfl) ?_ hHeld ?_
  rotate_left
  · intro w hSw; go_simp; try with_reducible rfl
  simp only [Act.put, List.setIfInBounds_toArray, List.set_cons_zero, List.set_cons_succ]
  refine take_at 18 (some 23) ?_ rfl rfl (by kernel_rfl) (by kernel_rfl) (by kernel_rfl) (fun _ _ _ h => h) (by rfl) ?_ hHeld ?_
  rotate_left
  · intro w hSw; go_simp; try with_reducible rfl
  simp only [Act.put, List.setIfInBounds_toArray, List.set_cons_zero, List.set_cons_succ]
  clear k0 k1 k2 k3 k4 b1 b2 b3 b4
  generalize hc0 : consL (x / 4096) = c0
  generalize hc1 : vowL (x / 1024 % 4) = c1
  generalize hc2 : consL (x / 64 % 16) = c2
  generalize hc3 : vowL (x / 16 % 4) = c3
  generalize hc4 : consL (x % 16) = c4
  have hword : Hid (word x = [c0, c1, c2, c3, c4]) := by unfold word; rw [hc0, hc1, hc2, hc3, hc4]; exact rfl
  clear hc0 hc1 hc2 hc3 hc4
  refine wpAnyH_ready (rs := [19]) (by kernel_rfl) (by simp) ?_
  refine AllReadyH.cons rfl (fun K hK => ?_) AllReadyH.nil
  go_simp
  refine hK.out _ _ trivial (fun hHeld => ?_)
  clear hK K
  refine wpAnyH_ready (rs := [20]) (by kernel_rfl) (by simp) ?_
  refine AllReadyH.cons rfl (fun K hK => ?_) AllReadyH.nil
  refine step_append_lies _ (by rfl) _ _ _ (by rfl) base 5 i0 _ 1 1 Try.underlying26 hi0 hz0 hz1 hz2 rfl (by omega) ov n xs (by rfl) ((hown.alloc _).drew)
        ⟨w.heap.size, 0, none⟩ 5 5 [.int .u8 c0, .int .u8 c1, .int .u8 c2, .int .u8 c3, .int .u8 c4] (by rfl) (by rfl) (World.news_of_block (cs := #[.int .u8 c0, .int .u8 c1, .int .u8 c2, .int .u8 c3, .int .u8 c4]) (t := 5) (fr := (0, 0)) (heap_alloc_new w _)) (by simp [Value.oneCell'])
        (by omega) (by unfold maxLen; omega) (by omega) (by simp; omega) (w.heap.size + 1) (by simp) ?_
  intro g cap w1 hown1 hgrow hat hlt
  change K (Act.put _ (some 25) _) w1
  simp only [Act.put, List.setIfInBounds_toArray, List.set_cons_zero, List.set_cons_succ]
  refine hK.out _ _ trivial (fun hHeld => ?_)
  clear hK K
  refine take_at 21 (some 4) ?_ rfl rfl (by kernel_rfl) (by kernel_rfl) (by kernel_rfl) (fun _ _ _ h => h) (by rfl) ?_ hHeld ?_
  rotate_left
  · intro w hSw; go_simp; try with_reducible rfl
  simp only [Act.put, List.setIfInBounds_toArray, List.set_cons_zero, List.set_cons_succ]
  refine wpAnyH_done (by kernel_rfl) ?_ _
  refine NoPanic.normal ?_
  go_wp2
  go_ret
  refine ⟨g, cap, rfl, ?_, ?_, ?_⟩
  · rw [hword.out]; exact hown1
  · exact ⟨hgrow.os, hgrow.tape, hgrow.output, by have := hgrow.size; simp at this; omega, fun k hk hne => (hgrow.block k (by simp; omega) hne).trans (Below.heap_alloc w _ k hk)⟩
  · rcases hat with h | h
    · exact .inl h
    · exact .inr (by omega)
end Go.Proofs.Qxb6600347a
