/-
  Seat b6600347a. PLAIN MATHEMATICS: what Encode writes, as a list of bytes. No Go in sight.
-/
import Derived.Test.Qxb6600347aPlain
namespace Go.Proofs.Qxb6600347a

/-- The first k words of what Encode writes for the bytes f 0, f 1, .. -/
def encTo (f : Nat → Int) : Nat → List Int
  | 0 => []
  | k + 1 => encTo f k ++ (if k = 0 then [] else [45]) ++ word (f (2 * k) * 256 + f (2 * k + 1))

theorem encTo_length (f : Nat → Int) : ∀ k, (encTo f (k + 1)).length = 6 * k + 5
  | 0 => by simp [encTo, word_length]
  | k + 1 => by
    have := encTo_length f k
    rw [encTo]
    simp [word_length, this]
    omega

theorem encTo_length_le (f : Nat → Int) (k : Nat) : (encTo f k).length ≤ 6 * k := by
  cases k with
  | zero => simp [encTo]
  | succ k => rw [encTo_length]; omega

theorem cons_byte (i : Int) : 0 ≤ consL i ∧ consL i ≤ 255 := by
  unfold consL
  have key : ∀ n : Nat, 0 ≤ ([98, 100, 102, 103, 104, 106, 107, 108, 109, 110, 112, 114, 115, 116, 118, 122] : List Int).getD n 0 ∧ ([98, 100, 102, 103, 104, 106, 107, 108, 109, 110, 112, 114, 115, 116, 118, 122] : List Int).getD n 0 ≤ 255 := fun n => by
    by_cases h : n < 16
    · have k2 : ∀ m : Fin 16, 0 ≤ ([98, 100, 102, 103, 104, 106, 107, 108, 109, 110, 112, 114, 115, 116, 118, 122] : List Int).getD m.val 0 ∧ ([98, 100, 102, 103, 104, 106, 107, 108, 109, 110, 112, 114, 115, 116, 118, 122] : List Int).getD m.val 0 ≤ 255 := by decide
      exact k2 ⟨n, h⟩
    · simp only [List.getD]; rw [List.getElem?_eq_none (by simp; omega)]; simp
  exact key _
theorem vow_byte (i : Int) : 0 ≤ vowL i ∧ vowL i ≤ 255 := by
  unfold vowL
  have key : ∀ n : Nat, 0 ≤ ([97, 105, 111, 117] : List Int).getD n 0 ∧ ([97, 105, 111, 117] : List Int).getD n 0 ≤ 255 := fun n => by
    by_cases h : n < 4
    · have k2 : ∀ m : Fin 4, 0 ≤ ([97, 105, 111, 117] : List Int).getD m.val 0 ∧ ([97, 105, 111, 117] : List Int).getD m.val 0 ≤ 255 := by decide
      exact k2 ⟨n, h⟩
    · simp only [List.getD]; rw [List.getElem?_eq_none (by simp; omega)]; simp
  exact key _
theorem word_byte (x : Int) : ∀ n ∈ word x, 0 ≤ n ∧ n ≤ 255 := by
  intro n hn
  simp only [word, List.mem_cons, List.not_mem_nil, or_false] at hn
  rcases hn with rfl | rfl | rfl | rfl | rfl
  · exact cons_byte _
  · exact vow_byte _
  · exact cons_byte _
  · exact vow_byte _
  · exact cons_byte _
theorem encTo_byte (f : Nat → Int) : ∀ k, ∀ n ∈ encTo f k, 0 ≤ n ∧ n ≤ 255
  | 0, n, hn => by simp [encTo] at hn
  | k + 1, n, hn => by
    rw [encTo, List.mem_append, List.mem_append] at hn
    rcases hn with (hn | hn) | hn
    · exact encTo_byte f k n hn
    · by_cases hk : k = 0
      · simp [hk] at hn
      · simp [hk] at hn; omega
    · exact word_byte _ n hn

/-- The same bytes give the same words. -/
theorem encTo_congr {f g : Nat → Int} : ∀ k, (∀ j, j < 2 * k → f j = g j) → encTo f k = encTo g k
  | 0, _ => rfl
  | k + 1, h => by
    rw [encTo, encTo, encTo_congr k (fun j hj => h j (by omega)), h (2 * k) (by omega), h (2 * k + 1) (by omega)]

/-- Two halves, one behind the other. -/
theorem encTo_join {f a b : Nat → Int} {m : Nat} (hm : 0 < m) (hf : ∀ j, j < 2 * m → f j = a j) : ∀ p, (∀ j, j < 2 * (p + 1) → f (2 * m + j) = b j) →
    encTo f (m + (p + 1)) = encTo a m ++ [45] ++ encTo b (p + 1)
  | 0, h => by
    have h0 := h 0 (by omega)
    have h1 := h 1 (by omega)
    simp only [Nat.add_zero] at h0
    show encTo f (m + 0 + 1) = _
    rw [encTo, Nat.add_zero, encTo_congr m hf, if_neg (by omega), h0, h1]
    simp [encTo]
  | p + 1, h => by
    have ih := encTo_join hm hf p (fun j hj => h j (by omega))
    have h0 := h (2 * (p + 1)) (by omega)
    have h1 := h (2 * (p + 1) + 1) (by omega)
    show encTo f (m + (p + 1) + 1) = _
    rw [encTo, ih, if_neg (by omega), show 2 * (m + (p + 1)) = 2 * m + 2 * (p + 1) from by omega, h0, show 2 * m + 2 * (p + 1) + 1 = 2 * m + (2 * (p + 1) + 1) from by omega, h1]
    conv => rhs; rw [encTo, if_neg (by omega)]
    simp only [List.append_assoc]

/-- Bytes as a string's bytes. -/
def strOf (l : List Int) : List UInt8 := l.map fun n => UInt8.ofNat n.toNat

theorem strOf_length (l : List Int) : (strOf l).length = l.length := by simp [strOf]
theorem strOf_append (k l : List Int) : strOf (k ++ l) = strOf k ++ strOf l := by simp [strOf]
theorem strOf_get {l : List Int} (hl : ∀ n ∈ l, 0 ≤ n ∧ n ≤ 255) {j : Nat} (hj : j < (strOf l).length) : (((strOf l)[j]).toNat : Int) = l.getD j 0 := by
  have hj' : j < l.length := by simpa [strOf] using hj
  have hm := hl l[j] (List.getElem_mem hj')
  simp only [strOf, List.getElem_map, UInt8.toNat_ofNat', List.getD, List.getElem?_eq_getElem hj', Option.getD_some]
  omega

/-- The k-th word begins at 6 k. -/
theorem encTo_word (f : Nat → Int) (k : Nat) (t : Nat) (ht : t < 5) : (encTo f (k + 1)).getD (6 * k + t) 0 = (word (f (2 * k) * 256 + f (2 * k + 1))).getD t 0 := by
  rw [encTo]
  have hl : (encTo f k ++ (if k = 0 then [] else [45])).length = 6 * k := by
    cases k with
    | zero => simp [encTo]
    | succ k => rw [List.length_append, encTo_length]; simp; omega
  simp only [List.getD]
  rw [List.getElem?_append_right (by omega), hl, show 6 * k + t - 6 * k = t from by omega]
/-- The dash ahead of it. -/
theorem encTo_dash (f : Nat → Int) (k : Nat) (hk : 0 < k) : (encTo f (k + 1)).getD (6 * k - 1) 0 = 45 := by
  rw [encTo, if_neg (by omega)]
  obtain ⟨p, rfl⟩ : ∃ p, k = p + 1 := ⟨k - 1, by omega⟩
  have hl := encTo_length f p
  simp only [List.getD]
  rw [List.getElem?_append_left (by simp [hl]; omega), List.getElem?_append_right (by omega), hl, show 6 * (p + 1) - 1 - (6 * p + 5) = 0 from by omega]
  rfl
/-- More words turn nothing of what is written. -/
theorem encTo_more (f : Nat → Int) (k : Nat) : ∀ d j, j < (encTo f k).length → (encTo f (k + d)).getD j 0 = (encTo f k).getD j 0
  | 0, _, _ => rfl
  | d + 1, j, hj => by
    have ih := encTo_more f k d j hj
    have hle : (encTo f k).length ≤ (encTo f (k + d)).length := by
      clear ih hj
      induction d with
      | zero => simp
      | succ d ih => rw [show k + (d + 1) = (k + d) + 1 from rfl, encTo]; simp; omega
    rw [← ih, show k + (d + 1) = (k + d) + 1 from rfl, encTo]
    simp only [List.getD]
    rw [List.append_assoc, List.getElem?_append_left (by omega)]

end Go.Proofs.Qxb6600347a
