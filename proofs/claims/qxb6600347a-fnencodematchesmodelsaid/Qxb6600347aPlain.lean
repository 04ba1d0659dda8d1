/-
  Seat b6600347a. PLAIN MATHEMATICS: the five letters of a proquint word. No Go in sight.
-/
namespace Go.Proofs.Qxb6600347a

/-- The consonant that stands for i. -/
def consL (i : Int) : Int := ([98, 100, 102, 103, 104, 106, 107, 108, 109, 110, 112, 114, 115, 116, 118, 122] : List Int).getD i.toNat 0
/-- The vowel that stands for i. -/
def vowL (i : Int) : Int := ([97, 105, 111, 117] : List Int).getD i.toNat 0
/-- The five letters of the word of x. -/
def word (x : Int) : List Int := [consL (x / 4096), vowL (x / 1024 % 4), consL (x / 64 % 16), vowL (x / 16 % 4), consL (x % 16)]

theorem word_length (x : Int) : (word x).length = 5 := rfl

/-- The consonants rise. -/
theorem cons_lt {i j : Int} (h0 : 0 ≤ i) (h : i < j) (h1 : j < 16) : consL i < consL j := by
  obtain ⟨a, rfl⟩ := Int.eq_ofNat_of_zero_le h0
  obtain ⟨b, rfl⟩ := Int.eq_ofNat_of_zero_le (show 0 ≤ j by omega)
  have key : ∀ b : Fin 16, ∀ a : Fin 16, a.val < b.val → consL (a.val : Int) < consL (b.val : Int) := by decide
  exact key ⟨b, by omega⟩ ⟨a, by omega⟩ (by simp; omega)
/-- The vowels rise. -/
theorem vow_lt {i j : Int} (h0 : 0 ≤ i) (h : i < j) (h1 : j < 4) : vowL i < vowL j := by
  obtain ⟨a, rfl⟩ := Int.eq_ofNat_of_zero_le h0
  obtain ⟨b, rfl⟩ := Int.eq_ofNat_of_zero_le (show 0 ≤ j by omega)
  have key : ∀ b : Fin 4, ∀ a : Fin 4, a.val < b.val → vowL (a.val : Int) < vowL (b.val : Int) := by decide
  exact key ⟨b, by omega⟩ ⟨a, by omega⟩ (by simp; omega)

/-- Two byte strings compared from the left: less than nought, nought, more than nought. -/
def cmpL : List Int → List Int → Int
  | [], [] => 0
  | [], _ :: _ => -1
  | _ :: _, [] => 1
  | x :: xs, y :: ys => if x < y then -1 else if y < x then 1 else cmpL xs ys

theorem cmp_self : ∀ l : List Int, cmpL l l = 0
  | [] => rfl
  | x :: r => by simp [cmpL, cmp_self r]

theorem word_cmp_lt {a b : Int} (h0 : 0 ≤ a) (h : a < b) (h1 : b ≤ 65535) : cmpL (word a) (word b) = -1 := by
  have c1 : ∀ {i j : Int}, 0 ≤ i → i < j → j < 16 → ∀ xs ys, cmpL (consL i :: xs) (consL j :: ys) = -1 := fun h0 h h1 xs ys => by
    simp [cmpL, cons_lt h0 h h1]
  have c2 : ∀ {i j : Int}, i = j → ∀ xs ys, cmpL (consL i :: xs) (consL j :: ys) = cmpL xs ys := fun h xs ys => by
    subst h; simp [cmpL]
  have v1 : ∀ {i j : Int}, 0 ≤ i → i < j → j < 4 → ∀ xs ys, cmpL (vowL i :: xs) (vowL j :: ys) = -1 := fun h0 h h1 xs ys => by
    simp [cmpL, vow_lt h0 h h1]
  have v2 : ∀ {i j : Int}, i = j → ∀ xs ys, cmpL (vowL i :: xs) (vowL j :: ys) = cmpL xs ys := fun h xs ys => by
    subst h; simp [cmpL]
  unfold word
  by_cases e1 : a / 4096 = b / 4096
  · rw [c2 e1]
    by_cases e2 : a / 1024 % 4 = b / 1024 % 4
    · rw [v2 e2]
      by_cases e3 : a / 64 % 16 = b / 64 % 16
      · rw [c2 e3]
        by_cases e4 : a / 16 % 4 = b / 16 % 4
        · rw [v2 e4]
          exact c1 (by omega) (by omega) (by omega) _ _
        · exact v1 (by omega) (by omega) (by omega) _ _
      · exact c1 (by omega) (by omega) (by omega) _ _
    · exact v1 (by omega) (by omega) (by omega) _ _
  · exact c1 (by omega) (by omega) (by omega) _ _

/-- Turned round, the comparison turns its sign. -/
theorem cmp_swap : ∀ (k l : List Int), cmpL k l = - cmpL l k
  | [], [] => rfl
  | [], _ :: _ => rfl
  | _ :: _, [] => rfl
  | x :: xs, y :: ys => by
    simp only [cmpL]
    by_cases h1 : x < y
    · have h2 : ¬ y < x := by omega
      simp [h1, h2]
    · by_cases h2 : y < x
      · simp [h1, h2]
      · simp only [h1, h2, if_false]
        exact cmp_swap xs ys

theorem word_cmp_gt {a b : Int} (h0 : 0 ≤ b) (h : b < a) (h1 : a ≤ 65535) : cmpL (word a) (word b) = 1 := by
  rw [cmp_swap, word_cmp_lt h0 h h1]; rfl

end Go.Proofs.Qxb6600347a
