/-
  PLAIN: the bytes of a number below 2^64, joined again; compared from the last byte down. No Go function in sight.
-/
import Derived.WalkKit
namespace Go.Proofs.Qxb6605965a

theorem or_join (i : Nat) (x y : Int) (hi : i ≤ 64) (hx0 : 0 ≤ x) (hx : x < 2 ^ i) (hy0 : 0 ≤ y) (hy : y < 18446744073709551616) (hm : y % 2 ^ i = 0) : bits .or .u64 x y = x + y := by
  obtain ⟨m, rfl⟩ : ∃ m : Nat, x = (m : Int) := ⟨x.toNat, by omega⟩
  obtain ⟨n, rfl⟩ : ∃ n : Nat, y = (n : Int) := ⟨y.toNat, by omega⟩
  have e : (2 : Int) ^ i = ((2 ^ i : Nat) : Int) := by simp
  rw [e] at hx hm
  have hx' : m < 2 ^ i := by omega
  have hm' : n % 2 ^ i = 0 := by omega
  have hp : (2 : Nat) ^ i ≤ 2 ^ 64 := Nat.pow_le_pow_right (by decide) hi
  have e64 : (2 : Nat) ^ 64 = 18446744073709551616 := by decide
  rw [u64_or_nat m n (by omega) (by omega), Nat.or_comm, nat_join i n m hm' hx']
  omega

theorem le_join (v : Int) (h0 : 0 ≤ v) (h1 : v < 18446744073709551616) :
    bits .or .u64 (bits .or .u64 (bits .or .u64 (bits .or .u64 (bits .or .u64 (bits .or .u64 (bits .or .u64 (bits .or .u64 0 (v % 256)) (v / 256 % 256 * 256)) (v / 65536 % 256 * 65536)) (v / 16777216 % 256 * 16777216)) (v / 4294967296 % 256 * 4294967296)) (v / 1099511627776 % 256 * 1099511627776)) (v / 281474976710656 % 256 * 281474976710656)) (v / 72057594037927936 * 72057594037927936) = v := by
  have s0 : bits .or .u64 0 (v % 256) = v % 256 := by rw [or_join 0 0 (v % 256) (by decide) (by decide) (by decide) (by omega) (by omega) (by omega)]; omega
  have s1 : bits .or .u64 (v % 256) (v / 256 % 256 * 256) = v % 65536 := by rw [or_join 8 (v % 256) (v / 256 % 256 * 256) (by decide) (by omega) (by omega) (by omega) (by omega) (by omega)]; omega
  have s2 : bits .or .u64 (v % 65536) (v / 65536 % 256 * 65536) = v % 16777216 := by rw [or_join 16 (v % 65536) (v / 65536 % 256 * 65536) (by decide) (by omega) (by omega) (by omega) (by omega) (by omega)]; omega
  have s3 : bits .or .u64 (v % 16777216) (v / 16777216 % 256 * 16777216) = v % 4294967296 := by rw [or_join 24 (v % 16777216) (v / 16777216 % 256 * 16777216) (by decide) (by omega) (by omega) (by omega) (by omega) (by omega)]; omega
  have s4 : bits .or .u64 (v % 4294967296) (v / 4294967296 % 256 * 4294967296) = v % 1099511627776 := by rw [or_join 32 (v % 4294967296) (v / 4294967296 % 256 * 4294967296) (by decide) (by omega) (by omega) (by omega) (by omega) (by omega)]; omega
  have s5 : bits .or .u64 (v % 1099511627776) (v / 1099511627776 % 256 * 1099511627776) = v % 281474976710656 := by rw [or_join 40 (v % 1099511627776) (v / 1099511627776 % 256 * 1099511627776) (by decide) (by omega) (by omega) (by omega) (by omega) (by omega)]; omega
  have s6 : bits .or .u64 (v % 281474976710656) (v / 281474976710656 % 256 * 281474976710656) = v % 72057594037927936 := by rw [or_join 48 (v % 281474976710656) (v / 281474976710656 % 256 * 281474976710656) (by decide) (by omega) (by omega) (by omega) (by omega) (by omega)]; omega
  have s7 : bits .or .u64 (v % 72057594037927936) (v / 72057594037927936 * 72057594037927936) = v := by rw [or_join 56 (v % 72057594037927936) (v / 72057594037927936 * 72057594037927936) (by decide) (by omega) (by omega) (by omega) (by omega) (by omega)]; omega
  rw [s0, s1, s2, s3, s4, s5, s6, s7]

/-- Byte k of v, the least first. -/
def byt (v : Int) (k : Nat) : Int := v / 256 ^ k % 256

theorem byt_range (v : Int) (k : Nat) : 0 ≤ byt v k ∧ byt v k ≤ 255 := by unfold byt; omega

theorem byt_step (v : Int) (k : Nat) : v / 256 ^ k = 256 * (v / 256 ^ (k + 1)) + byt v k := by
  have e : v / 256 ^ (k + 1) = v / 256 ^ k / 256 := by
    rw [Int.pow_succ, Int.ediv_ediv_of_nonneg (Int.pow_nonneg (by decide))]
  unfold byt
  rw [e]
  omega

/-- The bytes from k on agree: so do the numbers above them. -/
theorem high_eq (a b : Int) (ha0 : 0 ≤ a) (ha : a < 18446744073709551616) (hb0 : 0 ≤ b) (hb : b < 18446744073709551616) : ∀ (d k : Nat), k + d = 8 → (∀ j, k ≤ j → j < 8 → byt a j = byt b j) → a / 256 ^ k = b / 256 ^ k
  | 0, k, hk, _ => by
    obtain rfl : k = 8 := by omega
    have e : (256 : Int) ^ 8 = 18446744073709551616 := by decide
    rw [e]; omega
  | d + 1, k, hk, h => by
    rw [byt_step a k, byt_step b k, high_eq a b ha0 ha hb0 hb d (k + 1) (by omega) (fun j h1 h2 => h j (by omega) h2), h k (by omega) (by omega)]

theorem all_eq (a b : Int) (ha0 : 0 ≤ a) (ha : a < 18446744073709551616) (hb0 : 0 ≤ b) (hb : b < 18446744073709551616) (h : ∀ j, 0 ≤ j → j < 8 → byt a j = byt b j) : a = b := by
  have := high_eq a b ha0 ha hb0 hb 8 0 (by omega) h
  simpa using this

theorem first_lt (a b : Int) (ha0 : 0 ≤ a) (ha : a < 18446744073709551616) (hb0 : 0 ≤ b) (hb : b < 18446744073709551616) (k : Nat) (hk : k < 8) (h : ∀ j, k + 1 ≤ j → j < 8 → byt a j = byt b j) (hlt : byt a k < byt b k) : a < b := by
  have e := high_eq a b ha0 ha hb0 hb (7 - k) (k + 1) (by omega) h
  have s1 := byt_step a k
  have s2 := byt_step b k
  have hq : a / 256 ^ k < b / 256 ^ k := by omega
  rcases Int.lt_or_le a b with h | h
  · exact h
  · have := Int.ediv_le_ediv (c := 256 ^ k) (Int.pow_pos (by decide)) h
    omega

end Go.Proofs.Qxb6605965a
