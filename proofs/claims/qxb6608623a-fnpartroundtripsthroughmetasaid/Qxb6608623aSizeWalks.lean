/-
  The walks of what counts bytes: membersBytesRB1 (27), rejoinsBytesRB1 (28), metaBytesRB1 (16), zzBytes_FnPartRoundTripsThroughMeta (15).
-/
import Derived.Test.Qxb6608623aViews
namespace Go.Proofs.Qxb6608623a
open Go.RowKit

set_option maxHeartbeats 4000000 in
theorem mb27 (a : Option Addr) (len cap : Nat) (ms : List M4) (acc : Int) (w : World) (hM : Mems w a len ms) (hS : SmallM ms) (hl0 : len ≤ maxLen) (h0 : 0 ≤ acc) (h1 : acc ≤ 134217728) :
    Calls Try.prog 27 #[.slice a len cap, .int .i64 acc] w fun e w' => ∃ r : Int, e = .returned (.int .i64 r) ∧ 0 ≤ r ∧ r ≤ 134217728 ∧ w' = w := by
  unfold maxLen at hl0
  by_cases hout : 1048576 < acc ∨ (1048576 : Int) < (len : Int)
  · rcases (show 1048576 < acc ∨ (acc ≤ 1048576 ∧ (1048576 : Int) < (len : Int)) from by omega) with h | ⟨h, h'⟩
    all_goals clear hout
    all_goals go_enter Try.func27, Try.ntmps27
    all_goals go_wp2
    all_goals go_ret
    all_goals exact ⟨_, rfl, by omega, by omega, rfl⟩
  · obtain ⟨ha, hl⟩ : acc ≤ 1048576 ∧ (len : Int) ≤ 1048576 := by omega
    clear hout
    go_enter Try.func27, Try.ntmps27
    go_wp2
    go_loop [1, 5] (fun z i => ∃ (k : Nat) (t : Int), k ≤ len ∧ i = .int .i64 k ∧ z = .int .i64 t ∧ 0 ≤ t ∧ t ≤ 134217728) (fun _ i => len - (intOf i).toNat)
    case atStart => exact ⟨0, _, Nat.zero_le _, rfl, rfl, by omega, by omega⟩
    case round =>
      obtain ⟨k, t, hk, rfl, rfl, ht0, ht1⟩ := hrel
      by_cases hlt : k < len
      · obtain ⟨b, off, s1, n, s2, s3, rfl, hmk, c0, c1, c2, c3⟩ := hM.at hlt
        obtain ⟨z1, z2, z3⟩ := hS.at hmk
        simp only at z1 z2 z3
        clear hM hS hmk
        go_wp2
        · go_ret
          exact ⟨_, rfl, by omega, by omega, rfl⟩
        · go_ret
          exact ⟨_, rfl, by omega, by omega, rfl⟩
        · go_ret
          exact ⟨_, rfl, by omega, by omega, rfl⟩
        · go_round
          case rel => exact ⟨k + 1, _, by omega, by go_num, rfl, by omega, by omega⟩
          case measure => simp [intOf]; omega
      · go_wp2
        go_ret
        exact ⟨_, rfl, by omega, by omega, rfl⟩

set_option maxHeartbeats 4000000 in
theorem rb28 (a : Option Addr) (len cap : Nat) (rs : List (ByteArray × Int)) (acc : Int) (w : World) (hR : Rejs w a len rs) (hS : SmallR rs) (hl0 : len ≤ maxLen) (h0 : 0 ≤ acc) (h1 : acc ≤ 134217728) :
    Calls Try.prog 28 #[.slice a len cap, .int .i64 acc] w fun e w' => ∃ r : Int, e = .returned (.int .i64 r) ∧ 0 ≤ r ∧ r ≤ 134217728 ∧ w' = w := by
  unfold maxLen at hl0
  by_cases hout : 1048576 < acc ∨ (1048576 : Int) < (len : Int)
  · rcases (show 1048576 < acc ∨ (acc ≤ 1048576 ∧ (1048576 : Int) < (len : Int)) from by omega) with h | ⟨h, h'⟩
    all_goals clear hout
    all_goals go_enter Try.func28, Try.ntmps28
    all_goals go_wp2
    all_goals go_ret
    all_goals exact ⟨_, rfl, by omega, by omega, rfl⟩
  · obtain ⟨ha, hl⟩ : acc ≤ 1048576 ∧ (len : Int) ≤ 1048576 := by omega
    clear hout
    go_enter Try.func28, Try.ntmps28
    go_wp2
    go_loop [1, 5] (fun z i => ∃ (k : Nat) (t : Int), k ≤ len ∧ i = .int .i64 k ∧ z = .int .i64 t ∧ 0 ≤ t ∧ t ≤ 134217728) (fun _ i => len - (intOf i).toNat)
    case atStart => exact ⟨0, _, Nat.zero_le _, rfl, rfl, by omega, by omega⟩
    case round =>
      obtain ⟨k, t, hk, rfl, rfl, ht0, ht1⟩ := hrel
      by_cases hlt : k < len
      · obtain ⟨b, off, s1, n, rfl, hmk, c0, c1⟩ := hR.at hlt
        have z1 := hS.at hmk
        simp only at z1
        clear hR hS hmk
        go_wp2
        · go_ret
          exact ⟨_, rfl, by omega, by omega, rfl⟩
        · go_round
          case rel => exact ⟨k + 1, _, by omega, by go_num, rfl, by omega, by omega⟩
          case measure => simp [intOf]; omega
      · go_wp2
        go_ret
        exact ⟨_, rfl, by omega, by omega, rfl⟩

set_option maxHeartbeats 4000000 in
theorem mb16 (sl er p1 p2 j1 j2 fr sz cl : Int) (hj : Bool) (ma ja ra : Option Addr) (ml mc jl jc rl rc : Nat) (ms js : List M4) (rs : List (ByteArray × Int)) (w : World) (hM : Mems w ma ml ms) (hJ : Mems w ja jl js) (hR : Rejs w ra rl rs) (hSM : SmallM ms) (hSJ : SmallM js) (hSR : SmallR rs) (hl1 : ml ≤ maxLen) (hl2 : jl ≤ maxLen) (hl3 : rl ≤ maxLen) :
    Calls Try.prog 16 #[.agg #[.int .u64 sl, .int .u64 er, .slice ma ml mc, .int .u64 p1, .int .u64 p2, .bool hj, .slice ja jl jc, .int .u64 j1, .int .u64 j2, .int .u64 fr, .int .u64 sz, .slice ra rl rc, .int .u64 cl]] w fun e w' => ∃ r : Int, e = .returned (.int .i64 r) ∧ 0 ≤ r ∧ r ≤ 134217728 ∧ Below w.heap.size w w' := by
  obtain ⟨W, hW⟩ : ∃ W, W = w.alloc (.cells #[.int .u64 sl, .int .u64 er, .slice ma ml mc, .int .u64 p1, .int .u64 p2, .bool hj, .slice ja jl jc, .int .u64 j1, .int .u64 j2, .int .u64 fr, .int .u64 sz, .slice ra rl rc, .int .u64 cl] 40) := ⟨_, rfl⟩
  have hb : Below w.heap.size w W := by rw [hW]; exact (Below.refl _ _).alloc (Nat.le_refl _) _
  have HM := hM.below hb
  have HJ := hJ.below hb
  have HR := hR.below hb
  go_enter Try.func16, Try.ntmps16
  go_wp2_with fail
  rw [← hW]
  refine (mb27 ma ml mc ms 0 W HM hSM hl1 (by omega) (by omega)).mono ?_
  rintro e w1 ⟨r1, rfl, g1, g2, rfl⟩
  subst hW
  go_wp2_with fail
  refine (mb27 ja jl jc js r1 _ HJ hSJ hl2 (by omega) (by omega)).mono ?_
  rintro e w1 ⟨r2, rfl, g3, g4, rfl⟩
  go_wp2_with fail
  refine (rb28 ra rl rc rs r2 _ HR hSR hl3 (by omega) (by omega)).mono ?_
  rintro e w1 ⟨r3, rfl, g5, g6, rfl⟩
  go_wp2
  go_ret
  exact ⟨_, rfl, g5, g6, hb⟩
end Go.Proofs.Qxb6608623a
