/-
  PLAIN: the bits of a time's word that holds nanoseconds alone; seconds and nanoseconds of a duration. No Go function in sight.
-/
import Derived.WalkKit
namespace Go.Proofs.Qxb6605735a
open Go.RowKit

theorem bit63_off (x : Int) (h0 : 0 ≤ x) (h1 : x < 1073741824) : bits .and .u64 x 9223372036854775808 = 0 := by
  obtain ⟨n, rfl⟩ : ∃ n : Nat, x = (n : Int) := ⟨x.toNat, by omega⟩
  have := u64_and_nat n (2 ^ 63) (by omega) (by decide)
  have e : ((2 ^ 63 : Nat) : Int) = 9223372036854775808 := by decide
  rw [e] at this
  rw [this, nat_bit, Nat.div_eq_of_lt (by omega)]
  rfl

theorem mask30 (x : Int) (h0 : 0 ≤ x) (h1 : x < 1073741824) : bits .and .u64 x 1073741823 = x := by
  obtain ⟨n, rfl⟩ : ∃ n : Nat, x = (n : Int) := ⟨x.toNat, by omega⟩
  have := u64_and_nat n (2 ^ 30 - 1) (by omega) (by decide)
  have e : ((2 ^ 30 - 1 : Nat) : Int) = 1073741823 := by decide
  rw [e] at this
  rw [this, Nat.and_two_pow_sub_one_eq_mod, Nat.mod_eq_of_lt (by omega)]

theorem and_zero_r (x : Int) (h0 : 0 ≤ x) (h1 : x < 1073741824) : bits .and .u64 x 0 = 0 := by
  obtain ⟨n, rfl⟩ : ∃ n : Nat, x = (n : Int) := ⟨x.toNat, by omega⟩
  have := u64_and_nat n 0 (by omega) (by decide)
  simpa using this

theorem or_zero_l (x : Int) (h0 : 0 ≤ x) (h1 : x < 1073741824) : bits .or .u64 0 x = x := by
  obtain ⟨n, rfl⟩ : ∃ n : Nat, x = (n : Int) := ⟨x.toNat, by omega⟩
  have := u64_or_nat 0 n (by decide) (by omega)
  simpa using this

theorem and_self64 (x : Int) (h0 : 0 ≤ x) (h1 : x < 1073741824) : bits .and .u64 x x = x := by
  obtain ⟨n, rfl⟩ : ∃ n : Nat, x = (n : Int) := ⟨x.toNat, by omega⟩
  have := u64_and_nat n n (by omega) (by omega)
  simpa using this

/-- Go's own reckoning of a duration back from its seconds and nanoseconds: the product may wrap, the sum wraps back. -/
theorem dur_back (s n d : Int) (h0 : -9223372036854775808 ≤ d) (h1 : d ≤ 9223372036854775807) (hd : d = 1000000000 * s + n) : wrap64 (wrap64 (s * 1000000000) + n) = d := by
  unfold wrap64
  omega

theorem andNot_zero_l : bits .andNot .u64 0 1073741823 = 0 := by decide

end Go.Proofs.Qxb6605735a
