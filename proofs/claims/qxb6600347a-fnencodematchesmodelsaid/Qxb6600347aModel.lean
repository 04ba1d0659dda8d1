/-
  Seat b6600347a. zzConsVal (21), zzVowVal (22), zzModelWord (16).
-/
import Derived.Test.Qxb6600347aEncode
namespace Go.Proofs.Qxb6600347a
open Go.RowKit

set_option maxRecDepth 100000 in
set_option maxHeartbeats 3200000 in
theorem consVal_any (i : Int) (h0 : 0 ≤ i) (h1 : i < 16) (w : World) : Calls Try.prog 21 #[.int .u8 (consL i)] w fun e w' => e = .returned (.int .i64 i) ∧ w' = w := by
  obtain ⟨n, rfl⟩ := Int.eq_ofNat_of_zero_le h0
  rcases (show n = 0 ∨ n = 1 ∨ n = 2 ∨ n = 3 ∨ n = 4 ∨ n = 5 ∨ n = 6 ∨ n = 7 ∨ n = 8 ∨ n = 9 ∨ n = 10 ∨ n = 11 ∨ n = 12 ∨ n = 13 ∨ n = 14 ∨ n = 15 from by omega) with rfl | rfl | rfl | rfl | rfl | rfl | rfl | rfl | rfl | rfl | rfl | rfl | rfl | rfl | rfl | rfl
  · show Calls Try.prog 21 #[.int .u8 98] w fun e w' => e = .returned (.int .i64 0) ∧ w' = w
    go_enter Try.func21, Try.ntmps21
    go_wp2
    go_ret
    exact ⟨rfl, rfl⟩
  · show Calls Try.prog 21 #[.int .u8 100] w fun e w' => e = .returned (.int .i64 1) ∧ w' = w
    go_enter Try.func21, Try.ntmps21
    go_wp2
    go_ret
    exact ⟨rfl, rfl⟩
  · show Calls Try.prog 21 #[.int .u8 102] w fun e w' => e = .returned (.int .i64 2) ∧ w' = w
    go_enter Try.func21, Try.ntmps21
    go_wp2
    go_ret
    exact ⟨rfl, rfl⟩
  · show Calls Try.prog 21 #[.int .u8 103] w fun e w' => e = .returned (.int .i64 3) ∧ w' = w
    go_enter Try.func21, Try.ntmps21
    go_wp2
    go_ret
    exact ⟨rfl, rfl⟩
  · show Calls Try.prog 21 #[.int .u8 104] w fun e w' => e = .returned (.int .i64 4) ∧ w' = w
    go_enter Try.func21, Try.ntmps21
    go_wp2
    go_ret
    exact ⟨rfl, rfl⟩
  · show Calls Try.prog 21 #[.int .u8 106] w fun e w' => e = .returned (.int .i64 5) ∧ w' = w
    go_enter Try.func21, Try.ntmps21
    go_wp2
    go_ret
    exact ⟨rfl, rfl⟩
  · show Calls Try.prog 21 #[.int .u8 107] w fun e w' => e = .returned (.int .i64 6) ∧ w' = w
    go_enter Try.func21, Try.ntmps21
    go_wp2
    go_ret
    exact ⟨rfl, rfl⟩
  · show Calls Try.prog 21 #[.int .u8 108] w fun e w' => e = .returned (.int .i64 7) ∧ w' = w
    go_enter Try.func21, Try.ntmps21
    go_wp2
    go_ret
    exact ⟨rfl, rfl⟩
  · show Calls Try.prog 21 #[.int .u8 109] w fun e w' => e = .returned (.int .i64 8) ∧ w' = w
    go_enter Try.func21, Try.ntmps21
    go_wp2
    go_ret
    exact ⟨rfl, rfl⟩
  · show Calls Try.prog 21 #[.int .u8 110] w fun e w' => e = .returned (.int .i64 9) ∧ w' = w
    go_enter Try.func21, Try.ntmps21
    go_wp2
    go_ret
    exact ⟨rfl, rfl⟩
  · show Calls Try.prog 21 #[.int .u8 112] w fun e w' => e = .returned (.int .i64 10) ∧ w' = w
    go_enter Try.func21, Try.ntmps21
    go_wp2
    go_ret
    exact ⟨rfl, rfl⟩
  · show Calls Try.prog 21 #[.int .u8 114] w fun e w' => e = .returned (.int .i64 11) ∧ w' = w
    go_enter Try.func21, Try.ntmps21
    go_wp2
    go_ret
    exact ⟨rfl, rfl⟩
  · show Calls Try.prog 21 #[.int .u8 115] w fun e w' => e = .returned (.int .i64 12) ∧ w' = w
    go_enter Try.func21, Try.ntmps21
    go_wp2
    go_ret
    exact ⟨rfl, rfl⟩
  · show Calls Try.prog 21 #[.int .u8 116] w fun e w' => e = .returned (.int .i64 13) ∧ w' = w
    go_enter Try.func21, Try.ntmps21
    go_wp2
    go_ret
    exact ⟨rfl, rfl⟩
  · show Calls Try.prog 21 #[.int .u8 118] w fun e w' => e = .returned (.int .i64 14) ∧ w' = w
    go_enter Try.func21, Try.ntmps21
    go_wp2
    go_ret
    exact ⟨rfl, rfl⟩
  · show Calls Try.prog 21 #[.int .u8 122] w fun e w' => e = .returned (.int .i64 15) ∧ w' = w
    go_enter Try.func21, Try.ntmps21
    go_wp2
    go_ret
    exact ⟨rfl, rfl⟩

set_option maxRecDepth 100000 in
set_option maxHeartbeats 3200000 in
theorem vowVal_any (i : Int) (h0 : 0 ≤ i) (h1 : i < 4) (w : World) : Calls Try.prog 22 #[.int .u8 (vowL i)] w fun e w' => e = .returned (.int .i64 i) ∧ w' = w := by
  obtain ⟨n, rfl⟩ := Int.eq_ofNat_of_zero_le h0
  rcases (show n = 0 ∨ n = 1 ∨ n = 2 ∨ n = 3 from by omega) with rfl | rfl | rfl | rfl
  · show Calls Try.prog 22 #[.int .u8 97] w fun e w' => e = .returned (.int .i64 0) ∧ w' = w
    go_enter Try.func22, Try.ntmps22
    go_wp2
    go_ret
    exact ⟨rfl, rfl⟩
  · show Calls Try.prog 22 #[.int .u8 105] w fun e w' => e = .returned (.int .i64 1) ∧ w' = w
    go_enter Try.func22, Try.ntmps22
    go_wp2
    go_ret
    exact ⟨rfl, rfl⟩
  · show Calls Try.prog 22 #[.int .u8 111] w fun e w' => e = .returned (.int .i64 2) ∧ w' = w
    go_enter Try.func22, Try.ntmps22
    go_wp2
    go_ret
    exact ⟨rfl, rfl⟩
  · show Calls Try.prog 22 #[.int .u8 117] w fun e w' => e = .returned (.int .i64 3) ∧ w' = w
    go_enter Try.func22, Try.ntmps22
    go_wp2
    go_ret
    exact ⟨rfl, rfl⟩

/-- s[i], i in its bounds. -/
theorem run_at (l : List UInt8) (i : Nat) (v : Int) (hi : i < l.length) (hv : ((l[i]).toNat : Int) = v) (w : World) :
    (Instr.index 9 (.string ⟨l.toArray⟩) (.int .i64 (i : Int))).run Try.prog w = .ok (.int .u8 v) w := by
  rw [run_index_string (P := Try.prog) w 9 ⟨l.toArray⟩ .i64 (i : Int) Try.underlying9]
  have hs : (⟨l.toArray⟩ : ByteArray).size = l.length := by simp [ByteArray.size]
  rw [dif_pos ⟨by omega, by rw [hs]; omega⟩]
  rw [← hv]
  rfl

set_option maxRecDepth 100000 in
set_option maxHeartbeats 3200000 in
theorem modelWord_any (l : List UInt8) (a x : Int) (h0 : 0 ≤ x) (h1 : x ≤ 65535) (w : World) (ha0 : 0 ≤ a) (ha : a ≤ 100000000)
    (k0 : ∀ w, (Instr.index 9 (.string ⟨l.toArray⟩) (.int .i64 a)).run Try.prog w = .ok (.int .u8 (consL (x / 4096))) w)
    (k1 : ∀ w, (Instr.index 9 (.string ⟨l.toArray⟩) (.int .i64 (a + 1))).run Try.prog w = .ok (.int .u8 (vowL (x / 1024 % 4))) w)
    (k2 : ∀ w, (Instr.index 9 (.string ⟨l.toArray⟩) (.int .i64 (a + 2))).run Try.prog w = .ok (.int .u8 (consL (x / 64 % 16))) w)
    (k3 : ∀ w, (Instr.index 9 (.string ⟨l.toArray⟩) (.int .i64 (a + 3))).run Try.prog w = .ok (.int .u8 (vowL (x / 16 % 4))) w)
    (k4 : ∀ w, (Instr.index 9 (.string ⟨l.toArray⟩) (.int .i64 (a + 4))).run Try.prog w = .ok (.int .u8 (consL (x % 16))) w) :
    Calls Try.prog 16 #[.string ⟨l.toArray⟩, .int .i64 a] w fun e w' => e = .returned (.int .i64 x) ∧ w' = w := by
  generalize hs : (⟨l.toArray⟩ : ByteArray) = s at k0 k1 k2 k3 k4 ⊢
  clear hs
  have c0 := consVal_any (x / 4096) (by omega) (by omega)
  have c1 := vowVal_any (x / 1024 % 4) (by omega) (by omega)
  have c2 := consVal_any (x / 64 % 16) (by omega) (by omega)
  have c3 := vowVal_any (x / 16 % 4) (by omega) (by omega)
  have c4 := consVal_any (x % 16) (by omega) (by omega)
  generalize consL (x / 4096) = y0 at k0 c0
  generalize vowL (x / 1024 % 4) = y1 at k1 c1
  generalize consL (x / 64 % 16) = y2 at k2 c2
  generalize vowL (x / 16 % 4) = y3 at k3 c3
  generalize consL (x % 16) = y4 at k4 c4
  have hx : x / 4096 * 4096 + x / 1024 % 4 * 1024 + x / 64 % 16 * 64 + x / 16 % 4 * 16 + x % 16 = x := by omega
  have d0 : 0 ≤ x / 4096 ∧ x / 4096 < 16 := by omega
  have d1 : 0 ≤ x / 1024 % 4 ∧ x / 1024 % 4 < 4 := by omega
  have d2 : 0 ≤ x / 64 % 16 ∧ x / 64 % 16 < 16 := by omega
  have d3 : 0 ≤ x / 16 % 4 ∧ x / 16 % 4 < 4 := by omega
  have d4 : 0 ≤ x % 16 ∧ x % 16 < 16 := by omega
  have C0 := show Hid _ from c0
  have C1 := show Hid _ from c1
  have C2 := show Hid _ from c2
  have C3 := show Hid _ from c3
  have C4 := show Hid _ from c4
  clear c0 c1 c2 c3 c4
  generalize x / 4096 = t0 at C0 hx d0
  generalize x / 1024 % 4 = t1 at C1 hx d1
  generalize x / 64 % 16 = t2 at C2 hx d2
  generalize x / 16 % 4 = t3 at C3 hx d3
  generalize x % 16 = t4 at C4 hx d4
  obtain ⟨d00, d01⟩ := d0
  obtain ⟨d10, d11⟩ := d1
  obtain ⟨d20, d21⟩ := d2
  obtain ⟨d30, d31⟩ := d3
  obtain ⟨d40, d41⟩ := d4
  have HX : Hid (t0 * 4096 + t1 * 1024 + t2 * 64 + t3 * 16 + t4 = x) := hx
  clear hx
  have n0 : ¬ t0 < 0 := by omega
  have n1 : ¬ t1 < 0 := by omega
  have n2 : ¬ t2 < 0 := by omega
  have n3 : ¬ t3 < 0 := by omega
  have n4 : ¬ t4 < 0 := by omega
  go_enter Try.func16, Try.ntmps16
  go_wp2_with fail
  refine (C0.out _).mono ?_
  rintro e w' ⟨rfl, hw⟩
  obtain rfl := hw.symm
  clear hw
  go_wp2_with fail
  refine (C1.out _).mono ?_
  rintro e w' ⟨rfl, hw⟩
  obtain rfl := hw.symm
  clear hw
  go_wp2_with fail
  refine (C2.out _).mono ?_
  rintro e w' ⟨rfl, hw⟩
  obtain rfl := hw.symm
  clear hw
  go_wp2_with fail
  refine (C3.out _).mono ?_
  rintro e w' ⟨rfl, hw⟩
  obtain rfl := hw.symm
  clear hw
  go_wp2_with fail
  refine (C4.out _).mono ?_
  rintro e w' ⟨rfl, hw⟩
  obtain rfl := hw.symm
  clear hw
  go_wp2
  go_ret
  exact ⟨by rw [← HX.out]; rfl, rfl⟩

end Go.Proofs.Qxb6600347a
