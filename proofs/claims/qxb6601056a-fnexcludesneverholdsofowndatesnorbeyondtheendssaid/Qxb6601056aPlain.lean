/-
  THE PLAIN LAWS FOR SEAT b6601056a: the order of strings ('Op.bytesLess') is a strict order; neighbours that ascend ascend throughout. No program in sight.
-/
import GoSem.Op.String
namespace Go.Proofs.Qxb6601056a.Pl
open Go

theorem bl_irrefl : ∀ x : List UInt8, Op.bytesLess x x = false
  | [] => by simp [Op.bytesLess]
  | a :: x => by simp [Op.bytesLess, bl_irrefl x]

theorem bl_trans : ∀ x y z : List UInt8, Op.bytesLess x y = true → Op.bytesLess y z = true → Op.bytesLess x z = true
  | _, _, [], _, h => by simp [Op.bytesLess] at h
  | _, [], _ :: _, h, _ => by simp [Op.bytesLess] at h
  | [], _ :: _, _ :: _, _, _ => by simp [Op.bytesLess]
  | a :: x, b :: y, c :: z, h1, h2 => by
    simp only [Op.bytesLess, Bool.or_eq_true, Bool.and_eq_true, decide_eq_true_eq, beq_iff_eq] at h1 h2 ⊢
    rcases h1 with h1 | ⟨rfl, h1⟩
    · rcases h2 with h2 | ⟨rfl, h2⟩
      · exact Or.inl (UInt8.lt_trans h1 h2)
      · exact Or.inl h1
    · rcases h2 with h2 | ⟨rfl, h2⟩
      · exact Or.inl h2
      · exact Or.inr ⟨rfl, bl_trans x y z h1 h2⟩

theorem bl_asymm (x y : List UInt8) (h : Op.bytesLess x y = true) : Op.bytesLess y x = false := by
  cases h2 : Op.bytesLess y x with
  | false => rfl
  | true => have := bl_trans x y x h h2; rw [bl_irrefl] at this; exact absurd this (by simp)

theorem bl_ne (x y : List UInt8) (h : Op.bytesLess x y = true) : (x == y) = false := by
  rw [beq_eq_false_iff_ne]
  rintro rfl
  rw [bl_irrefl] at h
  exact absurd h (by simp)

theorem bl_append : ∀ (x : List UInt8) (c : UInt8) (l : List UInt8), Op.bytesLess x (x ++ c :: l) = true
  | [], _, _ => by simp [Op.bytesLess]
  | a :: x, c, l => by simp [Op.bytesLess, bl_append x c l]

theorem bl_take (x : List UInt8) (k : Nat) (h : k < x.length) : Op.bytesLess (x.take k) x = true := by
  have e : x = x.take k ++ x[k] :: x.drop (k + 1) := by simp
  have := bl_append (x.take k) x[k] (x.drop (k + 1))
  rwa [← e] at this

theorem bl_nil (x : List UInt8) (h : 0 < x.length) : Op.bytesLess [] x = true := by
  cases x with
  | nil => simp at h
  | cons a x => simp [Op.bytesLess]

/-- Strictly ascending neighbours: so are all pairs. -/
theorem asc (n : Nat) (S : Nat → List UInt8) (h : ∀ j, j + 1 < n → Op.bytesLess (S j) (S (j + 1)) = true) (i : Nat) : ∀ d, i + d + 1 < n → Op.bytesLess (S i) (S (i + d + 1)) = true
  | 0, hd => h i hd
  | d + 1, hd => bl_trans _ _ _ (asc n S h i d (by omega)) (h (i + d + 1) hd)

theorem asc_lt (n : Nat) (S : Nat → List UInt8) (h : ∀ j, j + 1 < n → Op.bytesLess (S j) (S (j + 1)) = true) (i j : Nat) (hij : i < j) (hj : j < n) : Op.bytesLess (S i) (S j) = true := by
  have := asc n S h i (j - i - 1) (by omega)
  rwa [show i + (j - i - 1) + 1 = j by omega] at this

theorem asc_le (n : Nat) (S : Nat → List UInt8) (h : ∀ j, j + 1 < n → Op.bytesLess (S j) (S (j + 1)) = true) (i j : Nat) (hij : i ≤ j) (hj : j < n) : Op.bytesLess (S j) (S i) = false := by
  by_cases e : i = j
  · subst e; exact bl_irrefl _
  · exact bl_asymm _ _ (asc_lt n S h i j (by omega) hj)

end Go.Proofs.Qxb6601056a.Pl
