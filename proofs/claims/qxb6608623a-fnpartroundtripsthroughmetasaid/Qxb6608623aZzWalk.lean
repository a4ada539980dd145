/-
  The walk of zzBytes_FnPartRoundTripsThroughMeta (15).
-/
import Derived.Test.Qxb6608623aSizeWalks
namespace Go.Proofs.Qxb6608623a
open Go.RowKit

theorem take_all_small {ms : List M4} {l : Nat} (hl : ms.length = l) {k : Nat} (hk : ¬ k < l) (h : SmallM (ms.take k)) : SmallM ms := by
  rwa [List.take_of_length_le (by omega)] at h
theorem take_all_smallR {rs : List (ByteArray × Int)} {l : Nat} (hl : rs.length = l) {k : Nat} (hk : ¬ k < l) (h : SmallR (rs.take k)) : SmallR rs := by
  rwa [List.take_of_length_le (by omega)] at h

set_option maxHeartbeats 16000000 in
set_option maxRecDepth 100000 in
theorem zz15 (sl er p1 p2 j1 j2 fr sz cl : Int) (hj : Bool) (ma ja ra : Option Addr) (ml mc jl jc rl rc : Nat) (ms js : List M4) (rs : List (ByteArray × Int)) (ofs : Int) (da : Option Addr) (dl dc : Nat) (w : World) (hM : Mems w ma ml ms) (hJ : Mems w ja jl js) (hR : Rejs w ra rl rs) (hOM : OkM ms) (hOJ : OkM js) (hOR : OkR rs) (hl1 : ml ≤ maxLen) (hl2 : jl ≤ maxLen) (hl3 : rl ≤ maxLen) (hl4 : dl ≤ maxLen) :
    Calls Try.prog 15 #[.agg #[.int .u64 sl, .int .u64 er, .slice ma ml mc, .int .u64 p1, .int .u64 p2, .bool hj, .slice ja jl jc, .int .u64 j1, .int .u64 j2, .int .u64 fr, .int .u64 sz, .slice ra rl rc, .int .u64 cl], .int .u64 ofs, .slice da dl dc] w fun e w' => (e = .returned (.bool false) ∨ (e = .returned (.bool true) ∧ ml ≤ 1048576 ∧ jl ≤ 1048576 ∧ rl ≤ 1048576 ∧ dl ≤ 1048576 ∧ SmallM ms ∧ SmallM js ∧ SmallR rs)) ∧ Below w.heap.size w w' := by
  unfold maxLen at hl1 hl2 hl3 hl4
  have hb : Below w.heap.size w (w.alloc (.cells #[.int .u64 sl, .int .u64 er, .slice ma ml mc, .int .u64 p1, .int .u64 p2, .bool hj, .slice ja jl jc, .int .u64 j1, .int .u64 j2, .int .u64 fr, .int .u64 sz, .slice ra rl rc, .int .u64 cl] 40)) := (Below.refl _ _).alloc (Nat.le_refl _) _
  by_cases g1 : (1048576 : Int) < (ml : Int)
  · go_enter Try.func15, Try.ntmps15
    go_wp2
    go_ret
    exact ⟨Or.inl rfl, hb⟩
  go_enter Try.func15, Try.ntmps15
  go_wp2
  go_loop [7, 8] (fun z i => ∃ (k : Nat) (t : Int), k ≤ ml ∧ i = .int .i64 k ∧ z = .int .i64 t ∧ 0 ≤ t ∧ t ≤ 1048576 ∧ SmallM (ms.take k)) (fun _ i => ml - (intOf i).toNat)
  case atStart => exact ⟨0, _, Nat.zero_le _, rfl, rfl, by omega, by omega, fun m hm => by simp at hm⟩
  case round =>
    obtain ⟨k1, tk1, hkk1, rfl, rfl, ht0k1, ht1k1, hsm⟩ := hrel
    by_cases hlt : k1 < ml
    · obtain ⟨b, off, s1, n, s2, s3, rfl, hmk, c0, c1, c2, c3⟩ := hM.at hlt
      have hbw : b < w.heap.size := World.block_lt_of_cell? _ _ c0
      obtain ⟨z1, z2, z3⟩ := hOM.at hmk
      simp only at z1 z2 z3
      unfold maxLen at z1 z2 z3
      have HK : Hid _ := hmk
      clear hM hJ hR hOM hOJ hOR hmk c1
      go_wp2
      any_goals (go_ret; exact ⟨Or.inl rfl, hb⟩)
      go_round
      case rel => exact ⟨k1 + 1, _, by omega, by go_num, rfl, by omega, by omega, hsm.snoc HK.out (by simp only; omega) (by simp only; omega) (by simp only; omega)⟩
      case measure => simp [intOf]; omega
    · have SMk1 := take_all_small hM.len_eq hlt hsm
      have SMHk1 : Hid (SmallM ms) := SMk1
      clear SMk1 hsm hkk1
      go_wp2
      any_goals (go_ret; exact ⟨Or.inl rfl, hb⟩)
      have g2 : (jl : Int) ≤ 1048576 := by assumption
      go_loop [7, 9] (fun z i => ∃ (k : Nat) (t : Int), k ≤ jl ∧ i = .int .i64 k ∧ z = .int .i64 t ∧ 0 ≤ t ∧ t ≤ 1048576 ∧ SmallM (js.take k)) (fun _ i => jl - (intOf i).toNat)
      case atStart => exact ⟨0, _, Nat.zero_le _, rfl, rfl, by omega, by omega, fun m hm => by simp at hm⟩
      case round =>
        obtain ⟨k2, tk2, hkk2, rfl, rfl, ht0k2, ht1k2, hsm⟩ := hrel
        by_cases hlt : k2 < jl
        · obtain ⟨b, off, s1, n, s2, s3, rfl, hmk, c0, c1, c2, c3⟩ := hJ.at hlt
          have hbw : b < w.heap.size := World.block_lt_of_cell? _ _ c0
          obtain ⟨z1, z2, z3⟩ := hOJ.at hmk
          simp only at z1 z2 z3
          unfold maxLen at z1 z2 z3
          have HK : Hid _ := hmk
          clear hM hJ hR hOM hOJ hOR hmk c1
          go_wp2
          any_goals (go_ret; exact ⟨Or.inl rfl, hb⟩)
          go_round
          case rel => exact ⟨k2 + 1, _, by omega, by go_num, rfl, by omega, by omega, hsm.snoc HK.out (by simp only; omega) (by simp only; omega) (by simp only; omega)⟩
          case measure => simp [intOf]; omega
        · have SMk2 := take_all_small hJ.len_eq hlt hsm
          have SMHk2 : Hid (SmallM js) := SMk2
          clear SMk2 hsm hkk2
          go_wp2
          any_goals (go_ret; exact ⟨Or.inl rfl, hb⟩)
          have g3 : (rl : Int) ≤ 1048576 := by assumption
          go_loop [7, 10] (fun z i => ∃ (k : Nat) (t : Int), k ≤ rl ∧ i = .int .i64 k ∧ z = .int .i64 t ∧ 0 ≤ t ∧ t ≤ 1048576 ∧ SmallR (rs.take k)) (fun _ i => rl - (intOf i).toNat)
          case atStart => exact ⟨0, _, Nat.zero_le _, rfl, rfl, by omega, by omega, fun m hm => by simp at hm⟩
          case round =>
            obtain ⟨k3, tk3, hkk3, rfl, rfl, ht0k3, ht1k3, hsm⟩ := hrel
            by_cases hlt : k3 < rl
            · obtain ⟨b, off, s1, n, rfl, hmk, c0, c1⟩ := hR.at hlt
              have hbw : b < w.heap.size := World.block_lt_of_cell? _ _ c0
              obtain ⟨z1, z2⟩ := hOR.at hmk
              simp only at z1
              unfold maxLen at z1
              have HK : Hid _ := hmk
              clear hM hJ hR hOM hOJ hOR hmk c1 z2
              go_wp2
              any_goals (go_ret; exact ⟨Or.inl rfl, hb⟩)
              go_round
              case rel => exact ⟨k3 + 1, _, by omega, by go_num, rfl, by omega, by omega, hsm.snoc HK.out (by simp only; omega)⟩
              case measure => simp [intOf]; omega
            · have SMk3 := take_all_smallR hR.len_eq hlt hsm
              have SMHk3 : Hid (SmallR rs) := SMk3
              clear SMk3 hsm hkk3
              go_wp2
              any_goals (go_ret; exact ⟨Or.inl rfl, hb⟩)
              have g4 : (dl : Int) ≤ 1048576 := by assumption
              go_ret
              exact ⟨Or.inr ⟨rfl, by omega, by omega, by omega, by omega, SMHk1.out, SMHk2.out, SMHk3.out⟩, hb⟩
end Go.Proofs.Qxb6608623a
