/-
  Seat b6600347a. Encode (function 15).
-/
import Derived.Test.Qxb6600347aWord
import Derived.Test.Qxb6600347aEncPlain
import Derived.Deep.OwnRows
import Derived.Laws.IdiomStrings
namespace Go.Proofs.Qxb6600347a
open Go.RowKit

/-- 'uint16(x)<<8 | uint16(y)' of two bytes. -/
theorem or_pair (x y : Int) (h0 : 0 ≤ x) (h1 : x ≤ 255) (h2 : 0 ≤ y) (h3 : y ≤ 255) : bits .or .u16 (x * 256) y = x * 256 + y := by
  obtain ⟨a, rfl⟩ := Int.eq_ofNat_of_zero_le h0
  obtain ⟨b, rfl⟩ := Int.eq_ofNat_of_zero_le h2
  rw [u16_or _ _ (by omega) (by omega) (by omega) (by omega)]
  have e : ((a : Int) * 256).toNat = a <<< 8 := by rw [Nat.shiftLeft_eq]; omega
  rw [e, Int.toNat_natCast, ← Nat.shiftLeft_add_eq_or_of_lt (by omega), Nat.shiftLeft_eq]
  omega

set_option maxRecDepth 100000 in
set_option maxHeartbeats 3200000 in
theorem encode_any (g n c : Nat) (f : Nat → Int) (w : World) (hev : ((n : Int) % 2 != 0) = false) (hn : n ≤ 1048576) (hf : ∀ j, 0 ≤ f j ∧ f j ≤ 255)
    (hc : ∀ j, j < n → w.cell? ⟨g, j, none⟩ = some (.int .u8 (f j))) (hg : g < w.heap.size) :
    Calls Try.prog 15 #[.slice (some ⟨g, 0, none⟩) n c] w fun e w' => e = .returned (.string ⟨(strOf (encTo f (n / 2))).toArray⟩) ∧ Below w.heap.size w w' := by
  obtain ⟨i0, hi0, hz0, hz1, hz2⟩ := info_parts Try.info5
  have HC : Hid (∀ j, j < n → w.cell? ⟨g, j, none⟩ = some (.int .u8 (f j))) := hc
  have HF : Hid (∀ j, 0 ≤ f j ∧ f j ≤ 255) := hf
  clear hc hf
  go_enter Try.func15, Try.ntmps15
  go_wp2_with (first
    | (at_make; refine wpList_make_own _ rfl _ _ 26 rfl w.heap.size 5 i0 (.int .u8 0) 1 Try.underlying26 hi0 hz0 hz1 _ _ _ (n / 2 * 6) rfl rfl (by omega) (by rw [hz2]; omega) (by unfold maxLen; omega) (Nat.le_refl _) ?_; intro w1 hown1 hgrow1)
    | go_in)
  have hbel1 : Below w.heap.size w w1 := (Below.refl _ _).grown hgrow1 (Nat.le_refl _) (fun k hk => by cases hk)
  go_loopw [3, 4] (fun v i wr => ∃ k j g' cap' L : Nat, j ≤ n ∧ i = .int .i64 j ∧ v = .slice (some ⟨g', 0, none⟩) L cap' ∧ Hid (j = 2 * k ∧ L = (encTo f k).length) ∧
      wr.ownsRow w.heap.size 5 1 (.slice (some ⟨g', 0, none⟩) L cap') L ((encTo f k).map (Value.int .u8)) ∧ Below w.heap.size w wr) (fun _ i _ => n - (intOf i).toNat)
  case atStart => exact ⟨0, 0, w.heap.size, n / 2 * 6, 0, by omega, rfl, rfl, ⟨rfl, rfl⟩, hown1, hbel1⟩
  case round =>
    obtain ⟨k, j, g', cap', L, hk, rfl, rfl, HL, hown, hbel⟩ := hrel
    clear hown1 hbel1 hgrow1
    by_cases hlt : j < n
    · have hj1 : j + 1 < n := by have := HL.out.1; simp at hev; omega
      have c0 : wr.cell? ⟨g, j, none⟩ = some (.int .u8 (f j)) := (hbel.cell (by exact hg)).trans (HC.out _ hlt)
      have c1 : wr.cell? ⟨g, j + 1, none⟩ = some (.int .u8 (f (j + 1))) := (hbel.cell (by exact hg)).trans (HC.out _ hj1)
      have f0 := HF.out j
      have f1 := HF.out (j + 1)
      obtain ⟨f00, f01⟩ := f0
      obtain ⟨f10, f11⟩ := f1
      have HN : Hid (encTo f (k + 1) = encTo f k ++ (if k = 0 then [] else [45]) ++ word (f j * 256 + f (j + 1))) := by rw [HL.out.1]; rfl
      generalize f j = x at c0 f00 f01 HN
      generalize f (j + 1) = y at c1 f10 f11 HN
      have q0 : (0 : Int) ≤ (j : Int) := by omega
      have q1 : (j : Int) < (n : Int) := by omega
      have q2 : (j : Int) + 1 < (n : Int) := by omega
      have q3 : IntKind.i64.wrap ((j : Int) + 1) = (j : Int) + 1 := by rw [IntKind.wrap_i64]; omega
      have q4 : (0 : Int) ≤ (j : Int) + 1 := by omega
      have q5 : IntKind.u16.wrap y = y := by rw [IntKind.wrap_u16]; omega
      have q7 : IntKind.u16.wrap x = x := by rw [IntKind.wrap_u16]; omega
      have q8 : IntKind.u16.wrap (x * 256) = x * 256 := by rw [IntKind.wrap_u16]; omega
      have q6 := or_pair x y f00 f01 f10 f11
      have HLL : Hid (L ≤ 6291456) := by have h1 := encTo_length_le f k; have h2 := HL.out; show L ≤ 6291456; omega
      have hgk : g ≠ g' := by
        have := hown.lt g' rfl
        omega
      by_cases hk0 : j = 0
      · have hj0 : ¬ (0 : Int) < (j : Int) := by omega
        have HK : Hid (j = 0) := hk0
        clear hk0
        go_wp2_with fail
        go_region_held3 (fun w' => w'.cell? ⟨g, j, none⟩ = some (.int .u8 x) ∧ w'.cell? ⟨g, j + 1, none⟩ = some (.int .u8 y))
          (first
            | go_keep
            | (go_split_ands
               refine ⟨?_, ?_⟩
               · (rw [hgrow.cell_far _ (by have := hbel.size; simp; omega) (by simp [Value.ownBlock, hgk])]; assumption)
               · (rw [hgrow.cell_far _ (by have := hbel.size; simp; omega) (by simp [Value.ownBlock, hgk])]; assumption)))
          ((go_at_call 20; refine (appendWord_own (x * 256 + y) (by omega) (by omega) (.slice (some ⟨g', 0, none⟩) L cap') L w.heap.size ((encTo f k).map (Value.int .u8)) wr.drew (by exact hown) (by exact hbel.size) (by have := HLL.out; omega)).mono ?_; rintro e w2 ⟨g2, cap2, rfl, hown2, hgrow, hat⟩))
        go_wp2
        go_roundw
        case rel =>
          refine ⟨k + 1, j + 2, g2, cap2, L + 5, by omega, by go_num, rfl, ⟨by have := HL.out; omega, ?_⟩, ?_, hbel.drew.grown hgrow hbel.size (fun k hk => by cases hk; exact (hown.lt _ rfl).1)⟩
          · rw [HN.out, if_pos (by have := HL.out; have := HK.out; omega)]; simp [word_length]; have := HL.out; omega
          · rw [HN.out, if_pos (by have := HL.out; have := HK.out; omega)]; simpa using hown2
        case measure => simp [intOf]; omega
      · have hj0 : (0 : Int) < (j : Int) := by omega
        have HK : Hid (¬ j = 0) := hk0
        clear hk0
        have C0 : Hid (wr.cell? ⟨g, j, none⟩ = some (.int .u8 x)) := c0
        have C1 : Hid (wr.cell? ⟨g, j + 1, none⟩ = some (.int .u8 y)) := c1
        clear c0 c1
        go_wp2_with (first
          | (at_builtin; refine wpList_append_lies _ rfl _ _ _ rfl w.heap.size 5 i0 _ 1 1 Try.underlying26 hi0 hz0 hz1 hz2 rfl (by omega) (.slice (some ⟨g', 0, none⟩) L cap') L ((encTo f k).map (Value.int .u8)) (by rfl) (hown.alloc _) ⟨wr.heap.size, 0, none⟩ 1 1 [.int .u8 45] (by rfl) (by rfl) (World.news_of_block (cs := #[.int .u8 45]) (t := 5) (fr := (0, 0)) (heap_alloc_new wr _)) (by simp [Value.oneCell']) (by omega) (by have := HLL.out; unfold maxLen; omega) (by have := HLL.out; omega) (by have := hbel.size; simp; omega) (wr.heap.size + 1) (by simp) ?_; intro g3 cap3 w3 hown3 hgrow3 hat3 hlt3)
          | fail)
        have hbel3 : Below w.heap.size w w3 := (hbel.alloc hbel.size _).grown hgrow3 (by have := hbel.size; simp; omega) (fun k hk => by cases hk; exact (hown.lt _ rfl).1)
        have c0 : w3.cell? ⟨g, j, none⟩ = some (.int .u8 x) := (hbel3.cell (by exact hg)).trans (((hbel.cell (by exact hg)).symm).trans C0.out)
        have c1 : w3.cell? ⟨g, j + 1, none⟩ = some (.int .u8 y) := (hbel3.cell (by exact hg)).trans (((hbel.cell (by exact hg)).symm).trans C1.out)
        have hgk3 : g ≠ g3 := by
          have := hown3.lt g3 rfl
          omega
        clear hgrow3 hat3 hlt3 C0 C1
        go_region_held3 (fun w' => w'.cell? ⟨g, j, none⟩ = some (.int .u8 x) ∧ w'.cell? ⟨g, j + 1, none⟩ = some (.int .u8 y))
          (first
            | go_keep
            | (go_split_ands
               refine ⟨?_, ?_⟩
               · (rw [hgrow.cell_far _ (by have := hbel3.size; simp; omega) (by simp [Value.ownBlock, hgk3])]; assumption)
               · (rw [hgrow.cell_far _ (by have := hbel3.size; simp; omega) (by simp [Value.ownBlock, hgk3])]; assumption)))
          ((go_at_call 20; refine (appendWord_own (x * 256 + y) (by omega) (by omega) (.slice (some ⟨g3, 0, none⟩) (L + 1) cap3) (L + 1) w.heap.size ((encTo f k).map (Value.int .u8) ++ [.int .u8 45]) w3.drew (by exact hown3) (by exact hbel3.size) (by have := HLL.out; omega)).mono ?_; rintro e w2 ⟨g2, cap2, rfl, hown2, hgrow, hat⟩))
        go_wp2
        go_roundw
        case rel =>
          refine ⟨k + 1, j + 2, g2, cap2, L + 1 + 5, by omega, by go_num, rfl, ⟨by have := HL.out; omega, ?_⟩, ?_, hbel3.drew.grown hgrow hbel3.size (fun k hk => by cases hk; exact (hown3.lt _ rfl).1)⟩
          · rw [HN.out, if_neg (by have := HL.out; have := HK.out; omega)]; simp [word_length]; have := HL.out; omega
          · rw [HN.out, if_neg (by have := HL.out; have := HK.out; omega)]; simpa using hown2
        case measure => simp [intOf]; omega
    · have hcv : (convert 26 9 (.slice (some ⟨g', 0, none⟩) L cap')).run Try.prog wr = .ok (.string ⟨(strOf (encTo f k)).toArray⟩) wr := by
        have hl : L = (strOf (encTo f k)).length := by rw [strOf_length]; exact HL.out.2
        have hcl := hown.cells (g := g') rfl
        rw [hl]
        exact run_convert_bytes_back wr 26 9 5 ⟨g', 0, none⟩ cap' (strOf (encTo f k)) Try.underlying26 Try.underlying5 Try.underlying9 (fun t ht => by
          rw [strOf_get (encTo_byte f k) ht]
          refine hcl t _ ?_
          have ht' : t < (encTo f k).length := by simpa [strOf_length] using ht
          simp [List.getD, ht'])
      have HD : Hid (n / 2 = k) := by have := HL.out; simp at hev; show n / 2 = k; omega
      go_wp2
      go_ret
      exact ⟨by rw [HD.out]; rfl, hbel⟩

set_option maxRecDepth 100000 in
/-- Of an empty slice, whatever its address: the empty string. -/
theorem encode_empty (a : Option Addr) (c : Nat) (w : World) :
    Calls Try.prog 15 #[.slice a 0 c] w fun e w' => e = .returned (.string ⟨#[]⟩) ∧ Below w.heap.size w w' := by
  have hmk : ∀ w : World, (Instr.makeSlice 26 (.int .i64 0) (.int .i64 0)).run Try.prog w = .ok (.slice (some ⟨w.heap.size, 0, none⟩) 0 0) (w.alloc (.cells (madeCells #[.int .u8 0] 0) 5)) :=
    run_make_row' (P := Try.prog) 26 5 (.int .u8 0) 1 Try.underlying26 Try.info5 rfl .i64 .i64 0 (by omega) (by omega)
  have hcv : ∀ (w : World) (x : Addr), (convert 26 9 (.slice (some x) 0 0)).run Try.prog w = .ok (.string ⟨#[]⟩) w := fun w x =>
    run_convert_bytes_back w 26 9 5 x 0 [] Try.underlying26 Try.underlying5 Try.underlying9 (fun t ht => by simp at ht)
  have B0 : Below w.heap.size w (w.alloc (.cells (madeCells #[.int .u8 0] 0) 5)) := (Below.refl _ _).alloc (Nat.le_refl _) _
  go_enter Try.func15, Try.ntmps15
  go_wp2
  refine wp_loop_rounds 1 ?_
  rw [rounds_succ]
  go_wp2
  go_ret
  exact ⟨rfl, B0⟩

end Go.Proofs.Qxb6600347a
