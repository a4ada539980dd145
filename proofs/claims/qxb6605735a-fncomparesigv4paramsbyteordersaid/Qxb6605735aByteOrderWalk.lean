/-
  The walks of b1byteOrder (9), zzBytes_FnCompareSigV4ParamsByteOrder (7) and the law's own text (3).
-/
import Derived.Test.Qxb6605735aCmpWalks
import Derived.Deep.QuietTactic
import Derived.BigQuiet
namespace Go.Proofs.Qxb6605735a
open Go.RowKit

/-! ### Plain: what one round of b1byteOrder's loop knows -/
theorem cb_step (a b : ByteArray) (k : Nat) (ha : k < a.size) (hb : k < b.size) :
    Lib.compareBytes (a.data.toList.drop k) (b.data.toList.drop k) = if a[k] < b[k] then -1 else if b[k] < a[k] then 1 else Lib.compareBytes (a.data.toList.drop (k + 1)) (b.data.toList.drop (k + 1)) := by
  have ha' : k < a.data.toList.length := by simpa using ha
  have hb' : k < b.data.toList.length := by simpa using hb
  rw [List.drop_eq_getElem_cons ha', List.drop_eq_getElem_cons hb']
  rfl

theorem cb_lt (a b : ByteArray) (k : Nat) (ha : k < a.size) (hb : k < b.size) (h : (a[k].toNat : Int) < (b[k].toNat : Int)) :
    Lib.compareBytes (a.data.toList.drop k) (b.data.toList.drop k) = -1 := by
  rw [cb_step a b k ha hb, if_pos (UInt8.lt_iff_toNat_lt.2 (by omega))]

theorem cb_gt (a b : ByteArray) (k : Nat) (ha : k < a.size) (hb : k < b.size) (h : (b[k].toNat : Int) < (a[k].toNat : Int)) :
    Lib.compareBytes (a.data.toList.drop k) (b.data.toList.drop k) = 1 := by
  rw [cb_step a b k ha hb, if_neg (by rw [UInt8.lt_iff_toNat_lt]; omega), if_pos (UInt8.lt_iff_toNat_lt.2 (by omega))]

theorem cb_on (a b : ByteArray) (k : Nat) (ha : k < a.size) (hb : k < b.size) (h1 : (b[k].toNat : Int) ≤ (a[k].toNat : Int)) (h2 : (a[k].toNat : Int) ≤ (b[k].toNat : Int)) :
    Lib.compareBytes (a.data.toList.drop k) (b.data.toList.drop k) = Lib.compareBytes (a.data.toList.drop (k + 1)) (b.data.toList.drop (k + 1)) := by
  rw [cb_step a b k ha hb, if_neg (by rw [UInt8.lt_iff_toNat_lt]; omega), if_neg (by rw [UInt8.lt_iff_toNat_lt]; omega)]

theorem cb_end (a b : ByteArray) (k : Nat) (h : a.size ≤ k ∨ b.size ≤ k) (ha : k ≤ a.size) (hb : k ≤ b.size) :
    Lib.compareBytes (a.data.toList.drop k) (b.data.toList.drop k) = if a.size < b.size then -1 else if b.size < a.size then 1 else 0 := by
  have la : a.data.toList.length = a.size := Array.length_toList
  have lb : b.data.toList.length = b.size := Array.length_toList
  by_cases h1 : a.size < b.size
  · rw [if_pos h1, List.drop_of_length_le (by omega)]
    rw [List.drop_eq_getElem_cons (show k < b.data.toList.length by omega)]
    rfl
  · by_cases h2 : b.size < a.size
    · rw [if_neg h1, if_pos h2, List.drop_of_length_le (l := b.data.toList) (by omega)]
      rw [List.drop_eq_getElem_cons (show k < a.data.toList.length by omega)]
      rfl
    · rw [if_neg h1, if_neg h2, List.drop_of_length_le (by omega), List.drop_of_length_le (by omega)]
      rfl

set_option maxHeartbeats 2000000 in
theorem order9 (a b : ByteArray) (w : World) (wa : a.size ≤ 1048576) (wb : b.size ≤ 1048576) :
    Calls Try.prog 9 #[.string a, .string b] w fun e w' => ∃ x : Int, e = .returned (.int .i64 x) ∧ x = Lib.compareBytes a.data.toList b.data.toList ∧ ∃ n, w' = w.drewN n := by
  by_cases hl : b.size < a.size
  · go_enter Try.func9, Try.ntmps9
    go_wp2
    go_loopw [6] (fun i wr => ∃ k : Nat, k ≤ b.size ∧ i = .int .i64 k ∧ Lib.compareBytes a.data.toList b.data.toList = Lib.compareBytes (a.data.toList.drop k) (b.data.toList.drop k) ∧ ∃ n, wr = w.drewN n) (fun i _ => b.size - (intOf i).toNat)
    case atStart => exact ⟨0, Nat.zero_le _, rfl, rfl, 0, rfl⟩
    case round =>
      obtain ⟨k, hk, rfl, hc, n, rfl⟩ := hrel
      have HC : Hid (Lib.compareBytes a.data.toList b.data.toList = Lib.compareBytes (a.data.toList.drop k) (b.data.toList.drop k)) := hc
      clear hc
      by_cases hlt : k < b.size
      · have hka : k < a.size := by omega
        have hA : k < a.size := by omega
        have hB : k < b.size := by omega
        rcases Nat.lt_trichotomy a[k].toNat b[k].toNat with h | h | h
        · have R := cb_lt a b k hA hB (by omega)
          have HR : Hid (Lib.compareBytes (a.data.toList.drop k) (b.data.toList.drop k) = -1) := R
          clear R
          go_wp2
          go_quiet (fail)
          go_wp2
          go_ret
          exact ⟨_, rfl, by rw [HC.out, HR.out], _, World.drewN_drewN _ _ _⟩
        · have R := cb_on a b k hA hB (by omega) (by omega)
          have HR : Hid (Lib.compareBytes (a.data.toList.drop k) (b.data.toList.drop k) = Lib.compareBytes (a.data.toList.drop (k + 1)) (b.data.toList.drop (k + 1))) := R
          clear R
          have h1 : a[k].toNat ≤ b[k].toNat := by omega
          have h2 : b[k].toNat ≤ a[k].toNat := by omega
          clear h
          go_wp2
          go_quiet (fail)
          go_wp2
          go_quiet (fail)
          go_wp2
          go_roundw
          case rel => exact ⟨k + 1, by omega, by go_num, by rw [HC.out, HR.out], _, rfl⟩
          case measure => simp [intOf]; omega
        · have R := cb_gt a b k hA hB (by omega)
          have HR : Hid (Lib.compareBytes (a.data.toList.drop k) (b.data.toList.drop k) = 1) := R
          clear R
          go_wp2
          go_quiet (fail)
          go_wp2
          go_quiet (fail)
          go_wp2
          go_ret
          exact ⟨_, rfl, by rw [HC.out, HR.out], _, by rw [World.drewN_drewN, World.drewN_drewN]⟩
      · have R := cb_end a b k (by omega) (by omega) (by omega)
        have HR : Hid (Lib.compareBytes (a.data.toList.drop k) (b.data.toList.drop k) = if a.size < b.size then -1 else if b.size < a.size then 1 else 0) := R
        clear R
        go_wp2
        all_goals go_ret
        all_goals exact ⟨_, rfl, by rw [HC.out, HR.out]; first | rw [if_pos (by omega)] | rw [if_neg (by omega), if_pos (by omega)] | rw [if_neg (by omega), if_neg (by omega)], n, rfl⟩
  · go_enter Try.func9, Try.ntmps9
    go_wp2
    go_loopw [6] (fun i wr => ∃ k : Nat, k ≤ a.size ∧ i = .int .i64 k ∧ Lib.compareBytes a.data.toList b.data.toList = Lib.compareBytes (a.data.toList.drop k) (b.data.toList.drop k) ∧ ∃ n, wr = w.drewN n) (fun i _ => a.size - (intOf i).toNat)
    case atStart => exact ⟨0, Nat.zero_le _, rfl, rfl, 0, rfl⟩
    case round =>
      obtain ⟨k, hk, rfl, hc, n, rfl⟩ := hrel
      have HC : Hid (Lib.compareBytes a.data.toList b.data.toList = Lib.compareBytes (a.data.toList.drop k) (b.data.toList.drop k)) := hc
      clear hc
      by_cases hlt : k < a.size
      · have hka : k < b.size := by omega
        have hA : k < a.size := by omega
        have hB : k < b.size := by omega
        rcases Nat.lt_trichotomy a[k].toNat b[k].toNat with h | h | h
        · have R := cb_lt a b k hA hB (by omega)
          have HR : Hid (Lib.compareBytes (a.data.toList.drop k) (b.data.toList.drop k) = -1) := R
          clear R
          go_wp2
          go_quiet (fail)
          go_wp2
          go_ret
          exact ⟨_, rfl, by rw [HC.out, HR.out], _, World.drewN_drewN _ _ _⟩
        · have R := cb_on a b k hA hB (by omega) (by omega)
          have HR : Hid (Lib.compareBytes (a.data.toList.drop k) (b.data.toList.drop k) = Lib.compareBytes (a.data.toList.drop (k + 1)) (b.data.toList.drop (k + 1))) := R
          clear R
          have h1 : a[k].toNat ≤ b[k].toNat := by omega
          have h2 : b[k].toNat ≤ a[k].toNat := by omega
          clear h
          go_wp2
          go_quiet (fail)
          go_wp2
          go_quiet (fail)
          go_wp2
          go_roundw
          case rel => exact ⟨k + 1, by omega, by go_num, by rw [HC.out, HR.out], _, rfl⟩
          case measure => simp [intOf]; omega
        · have R := cb_gt a b k hA hB (by omega)
          have HR : Hid (Lib.compareBytes (a.data.toList.drop k) (b.data.toList.drop k) = 1) := R
          clear R
          go_wp2
          go_quiet (fail)
          go_wp2
          go_quiet (fail)
          go_wp2
          go_ret
          exact ⟨_, rfl, by rw [HC.out, HR.out], _, by rw [World.drewN_drewN, World.drewN_drewN]⟩
      · have R := cb_end a b k (by omega) (by omega) (by omega)
        have HR : Hid (Lib.compareBytes (a.data.toList.drop k) (b.data.toList.drop k) = if a.size < b.size then -1 else if b.size < a.size then 1 else 0) := R
        clear R
        go_wp2
        all_goals go_ret
        all_goals exact ⟨_, rfl, by rw [HC.out, HR.out]; first | rw [if_pos (by omega)] | rw [if_neg (by omega), if_pos (by omega)] | rw [if_neg (by omega), if_neg (by omega)], n, rfl⟩

set_option maxHeartbeats 2000000 in
theorem zz7 (a0 a1 a2 a3 a4 a5 : ByteArray) (w0 : a0.size ≤ maxLen) (w1 : a1.size ≤ maxLen) (w2 : a2.size ≤ maxLen) (w3 : a3.size ≤ maxLen) (w4 : a4.size ≤ maxLen) (w5 : a5.size ≤ maxLen) (w : World) :
    Calls Try.prog 7 #[.string a0, .string a1, .string a2, .string a3, .string a4, .string a5] w fun e w' => ∃ b : Bool, e = .returned (.bool b) ∧ (b = true → a0.size + a1.size + a2.size + a3.size + a4.size + a5.size ≤ 1048576) ∧ w' = w := by
  unfold maxLen at w0 w1 w2 w3 w4 w5
  go_enter Try.func7, Try.ntmps7
  go_wp2
  all_goals go_ret
  all_goals first | exact ⟨false, rfl, fun h => Bool.noConfusion h, rfl⟩ | exact ⟨true, rfl, fun _ => by omega, rfl⟩

theorem grown_drewN {W w' : World} (h : Grown W w') (n : Nat) : Grown W (w'.drewN n) := by
  induction n with
  | zero => exact h
  | succ n ih => exact ih.drew

set_option maxHeartbeats 8000000 in
set_option maxRecDepth 100000 in
theorem byte_walk (a0 : ByteArray) (a1 : ByteArray) (a2 : ByteArray) (a3 : ByteArray) (a4 : ByteArray) (a5 : ByteArray) (w0 : a0.size ≤ maxLen) (w1 : a1.size ≤ maxLen) (w2 : a2.size ≤ maxLen) (w3 : a3.size ≤ maxLen) (w4 : a4.size ≤ maxLen) (w5 : a5.size ≤ maxLen) (w : World) :
    Calls Try.prog 3 #[.string a0, .string a1, .string a2, .string a3, .string a4, .string a5] w fun e w' => e = .returned (.bool true) ∧ Grown w w' := by
  go_enter Try.func3, Try.ntmps3
  go_wp2_with fail
  refine (zz7 a0 a1 a2 a3 a4 a5 w0 w1 w2 w3 w4 w5 _).mono ?_
  rintro e w' ⟨b, rfl, hb, rfl⟩
  cases b
  · clear hb
    go_wp2
    go_ret
    exact ⟨rfl, Grown.refl _⟩
  have hs := hb rfl
  clear hb w0 w1 w2 w3 w4 w5
  go_wp2_with fail
  refine (cmp8 _ _ _ _ _ _ _).mono ?_
  rintro e u1 ⟨got, rfl, hgot, g1⟩
  have HG : Hid (got = cmpPair a0.data.toList a1.data.toList a3.data.toList a4.data.toList) := hgot
  clear hgot
  go_wp2_with fail
  refine (order9 _ _ _ (by omega) (by omega)).mono ?_
  rintro e u2 ⟨x, rfl, hx, n, rfl⟩
  by_cases h0 : x = 0
  · subst h0
    have HX : Hid (0 = Lib.compareBytes a0.data.toList a3.data.toList) := hx
    clear hx
    go_wp2_with fail
    refine (order9 _ _ _ (by omega) (by omega)).mono ?_
    rintro e u3 ⟨y, rfl, hy, m, rfl⟩
    have e1 : got = y := by rw [HG.out, hy]; unfold cmpPair orTwo; rw [← HX.out]; rfl
    subst e1
    clear hy
    go_wp2
    go_ret
    exact ⟨by simp, grown_drewN g1 _⟩
  · have e1 : got = x := by rw [HG.out, hx]; unfold cmpPair orTwo; rw [if_pos (by rw [← hx]; simpa using h0)]
    subst e1
    clear hx HG
    have h0' : (got == 0) = false := by simpa using h0
    clear h0
    go_wp2
    go_ret
    exact ⟨by simp, grown_drewN g1 _⟩

end Go.Proofs.Qxb6605735a
