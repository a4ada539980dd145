/-
  THE PLAIN LAW of the comparison: the lexicographic order of byte lists, and of pairs of them. No Go in sight.
-/
import Derived.Lib.Bytealg
namespace Go.Proofs.Qxb6605735a
open Go.Lib

theorem cb_range : ∀ (a b : List UInt8), compareBytes a b = -1 ∨ compareBytes a b = 0 ∨ compareBytes a b = 1
  | [], [] => by simp [compareBytes]
  | [], _ :: _ => by simp [compareBytes]
  | _ :: _, [] => by simp [compareBytes]
  | x :: a, y :: b => by
    have ih := cb_range a b
    unfold compareBytes
    split
    · exact Or.inl rfl
    · split
      · exact Or.inr (Or.inr rfl)
      · exact ih

theorem cb_anti : ∀ (a b : List UInt8), compareBytes a b = - compareBytes b a
  | [], [] => by simp [compareBytes]
  | [], _ :: _ => by simp [compareBytes]
  | _ :: _, [] => by simp [compareBytes]
  | x :: a, y :: b => by
    have ih := cb_anti a b
    unfold compareBytes
    by_cases h1 : x < y
    · have h2 : ¬ y < x := fun h => UInt8.lt_irrefl x (UInt8.lt_trans h1 h)
      simp [h1, h2]
    · by_cases h2 : y < x
      · simp [h1, h2]
      · simp only [h1, h2, if_false]; exact ih

theorem cb_eq : ∀ (a b : List UInt8), compareBytes a b = 0 ↔ a = b
  | [], [] => by simp [compareBytes]
  | [], _ :: _ => by simp [compareBytes]
  | _ :: _, [] => by simp [compareBytes]
  | x :: a, y :: b => by
    have ih := cb_eq a b
    unfold compareBytes
    by_cases h1 : x < y
    · have : x ≠ y := fun h => by subst h; exact UInt8.lt_irrefl x h1
      simp [h1, this]
    · by_cases h2 : y < x
      · have : x ≠ y := fun h => by subst h; exact UInt8.lt_irrefl x h2
        simp [h1, h2, this]
      · have e : x = y := UInt8.le_antisymm (UInt8.not_lt.1 h2) (UInt8.not_lt.1 h1)
        subst e
        simp only [h1, if_false]
        simp [ih]

theorem cb_trans : ∀ (a b d : List UInt8), compareBytes a b ≤ 0 → compareBytes b d ≤ 0 → compareBytes a d ≤ 0
  | [], _, [] => by simp [compareBytes]
  | [], _, _ :: _ => by simp [compareBytes]
  | _ :: _, [], _ => by simp [compareBytes]
  | _ :: _, _ :: _, [] => by simp [compareBytes]
  | x :: a, y :: b, z :: d => by
    have ih := cb_trans a b d
    unfold compareBytes
    by_cases h1 : x < y
    · by_cases h2 : y < z
      · have := UInt8.lt_trans h1 h2
        simp [this]
      · by_cases h3 : z < y
        · simp [h2, h3]
        · have e : y = z := UInt8.le_antisymm (UInt8.not_lt.1 h3) (UInt8.not_lt.1 h2)
          subst e
          simp [h1]
    · by_cases h2 : y < x
      · simp [h1, h2]
      · have e : x = y := UInt8.le_antisymm (UInt8.not_lt.1 h2) (UInt8.not_lt.1 h1)
        subst e
        simp only [h1, if_false]
        by_cases h3 : x < z
        · simp [h3]
        · by_cases h4 : z < x
          · simp [h3, h4]
          · simp only [h3, h4, if_false]; exact ih

/-- cmp.Or(x, y). -/
def orTwo (x y : Int) : Int := if (x != 0) = true then x else y

/-- The comparison of two pairs (name, value). -/
def cmpPair (a0 a1 b0 b1 : List UInt8) : Int := orTwo (compareBytes a0 b0) (compareBytes a1 b1)

theorem cmpPair_range (a0 a1 b0 b1 : List UInt8) : cmpPair a0 a1 b0 b1 = -1 ∨ cmpPair a0 a1 b0 b1 = 0 ∨ cmpPair a0 a1 b0 b1 = 1 := by
  unfold cmpPair orTwo
  have h0 := cb_range a0 b0
  have h1 := cb_range a1 b1
  split <;> omega

theorem cmpPair_anti (a0 a1 b0 b1 : List UInt8) : cmpPair a0 a1 b0 b1 = - cmpPair b0 b1 a0 a1 := by
  unfold cmpPair orTwo
  rw [cb_anti b0 a0, cb_anti b1 a1]
  simp only [bne_iff_ne, ne_eq]
  split <;> split <;> omega

theorem cmpPair_eq (a0 a1 b0 b1 : List UInt8) : cmpPair a0 a1 b0 b1 = 0 ↔ a0 = b0 ∧ a1 = b1 := by
  unfold cmpPair orTwo
  rw [← cb_eq a0 b0, ← cb_eq a1 b1]
  simp only [bne_iff_ne, ne_eq]
  split <;> omega

theorem cb_trans_strict (a b d : List UInt8) (h1 : compareBytes a b ≤ 0) (h2 : compareBytes b d ≤ 0) (h3 : compareBytes a b < 0 ∨ compareBytes b d < 0) : compareBytes a d < 0 := by
  have h := cb_trans a b d h1 h2
  have hn : compareBytes a d ≠ 0 := by
    intro e
    rw [cb_eq] at e
    subst e
    have := cb_anti a b
    omega
  omega

theorem cmpPair_trans (a0 a1 b0 b1 d0 d1 : List UInt8) (h1 : cmpPair a0 a1 b0 b1 ≤ 0) (h2 : cmpPair b0 b1 d0 d1 ≤ 0) : cmpPair a0 a1 d0 d1 ≤ 0 := by
  unfold cmpPair orTwo at *
  simp only [bne_iff_ne, ne_eq] at *
  by_cases e1 : compareBytes a0 b0 = 0
  · by_cases e2 : compareBytes b0 d0 = 0
    · rw [if_neg (by simpa using e1)] at h1
      rw [if_neg (by simpa using e2)] at h2
      have e3 : compareBytes a0 d0 = 0 := by rw [cb_eq] at *; rw [e1, e2]
      rw [if_neg (by simpa using e3)]
      exact cb_trans _ _ _ h1 h2
    · rw [if_pos e2] at h2
      have := cb_trans_strict a0 b0 d0 (by omega) (by omega) (by omega)
      rw [if_pos (by omega)]; omega
  · rw [if_pos e1] at h1
    have h2' : compareBytes b0 d0 ≤ 0 := by
      by_cases e2 : compareBytes b0 d0 = 0
      · omega
      · rw [if_pos e2] at h2; exact h2
    have := cb_trans_strict a0 b0 d0 (by omega) h2' (by omega)
    rw [if_pos (by omega)]; omega

theorem cmpPair_trans' (a0 a1 b0 b1 d0 d1 : List UInt8) (h1 : 0 ≤ cmpPair a0 a1 b0 b1) (h2 : 0 ≤ cmpPair b0 b1 d0 d1) : 0 ≤ cmpPair a0 a1 d0 d1 := by
  have := cmpPair_trans d0 d1 b0 b1 a0 a1 (by rw [cmpPair_anti]; omega) (by rw [cmpPair_anti]; omega)
  rw [cmpPair_anti] at this
  omega

end Go.Proofs.Qxb6605735a
