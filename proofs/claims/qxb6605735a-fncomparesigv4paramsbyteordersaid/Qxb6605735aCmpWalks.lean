/-
  The contracts of the comparison's road: bytealg.CompareString (31), strings.Compare (22), cmp.Or[int] at two values (21), compareSigV4Params (17), ZZcompareSigV4Params (8).
-/
import Derived.Test.Qxb6605735aRows
import Derived.WalkKit
import Derived.WalkSpells
import Derived.Lib.Strings
import Derived.Lib.Slices
import Derived.Lib.Walk
import Derived.Lib.Bytealg
import Derived.Test.Qxb6605735aCmpLaw
import Derived.RegionTactic
import Derived.Deep.RegionWith
import Derived.Deep.RegionHeld
namespace Go.Proofs.Qxb6605735a
open Go.RowKit

set_option maxHeartbeats 1000000 in
set_option maxRecDepth 100000 in
theorem cs31 (a b : ByteArray) (w : World) :
    Calls Try.prog 31 #[.string a, .string b] w fun e w' => e = .returned (.int .i64 (Lib.compareBytes a.data.toList b.data.toList)) ∧ w' = w := by
  go_enter Try.func31, Try.ntmps31
  go_wp2
  rw [run_callFunc_extern Try.func32 (by kernel_rfl) (by kernel_rfl) (by kernel_rfl) (e := Extern.BytealgCompare.compare) (by kernel_rfl), Lib.run_compareString]
  simp only [Result.andThen]
  rw [Oper.upon_value]
  go_wp2
  go_ret
  exact ⟨rfl, rfl⟩

set_option maxHeartbeats 1000000 in
theorem cmp22 (a b : ByteArray) (w : World) :
    Calls Try.prog 22 #[.string a, .string b] w fun e w' => e = .returned (.int .i64 (Lib.compareBytes a.data.toList b.data.toList)) ∧ w' = w := by
  go_enter Try.func22, Try.ntmps22
  go_wp2_with (go_at_call 31; refine (cs31 _ _ _).mono ?_; rintro e w' ⟨rfl, rfl⟩)
  go_ret
  exact ⟨rfl, rfl⟩

set_option maxHeartbeats 1000000 in
theorem or21 (b o : Nat) (x y : Int) (w : World) (h0 : w.cell? ⟨b, o, none⟩ = some (.int .i64 x)) (h1 : w.cell? ⟨b, o + 1, none⟩ = some (.int .i64 y)) :
    Calls Try.prog 21 #[.slice (some ⟨b, o, none⟩) 2 2] w fun e w' => e = .returned (.int .i64 (orTwo x y)) ∧ w' = w := by
  by_cases hx : (x != 0) = true
  · go_enter Try.func21, Try.ntmps21
    go_wp2
    refine wp_loop_rounds 1 ?_
    rw [rounds_succ]
    go_wp2
    go_ret
    exact ⟨by simp [orTwo, hx], rfl⟩
  · have hx' : (x != 0) = false := by simpa using hx
    by_cases hy : (y != 0) = true
    · go_enter Try.func21, Try.ntmps21
      go_wp2
      refine wp_loop_rounds 2 ?_
      rw [rounds_succ]
      go_wp2
      rw [rounds_succ]
      go_wp2
      go_ret
      exact ⟨by simp [orTwo, hx'], rfl⟩
    · have hy' : (y != 0) = false := by simpa using hy
      have hy0 : y = 0 := by simpa using hy
      have HY : Hid (y = 0) := hy0
      clear hy hy0
      go_enter Try.func21, Try.ntmps21
      go_wp2
      refine wp_loop_rounds 3 ?_
      rw [rounds_succ]
      go_wp2
      rw [rounds_succ]
      go_wp2
      rw [rounds_succ]
      go_wp2
      go_ret
      exact ⟨by simp [orTwo, hx', HY.out], rfl⟩

set_option maxHeartbeats 2000000 in
theorem cmp17 (n0 v0 r0 n1 v1 r1 : ByteArray) (w : World) :
    Calls Try.prog 17 #[.agg #[.string n0, .string v0, .string r0], .agg #[.string n1, .string v1, .string r1]] w fun e w' => ∃ x : Int, e = .returned (.int .i64 x) ∧ x = cmpPair n0.data.toList v0.data.toList n1.data.toList v1.data.toList ∧ Grown w w' := by
  go_enter Try.func17, Try.ntmps17
  go_wp2
  go_region_held (fun w' => w'.cell? ⟨w.heap.size, 0, none⟩ = some (.string n0) ∧ w'.cell? ⟨w.heap.size, 1, none⟩ = some (.string v0) ∧ w'.cell? ⟨w.heap.size + 1, 0, none⟩ = some (.string n1) ∧ w'.cell? ⟨w.heap.size + 1, 1, none⟩ = some (.string v1)) (go_keep)
    (first | (go_at_call 22; refine (cmp22 _ _ _).mono ?_; rintro e w' ⟨rfl, rfl⟩) | (go_at_call 21; (refine (or21 _ _ (Lib.compareBytes n0.data.toList n1.data.toList) (Lib.compareBytes v0.data.toList v1.data.toList) _ ?_ ?_).mono ?_; (go_simp); (go_simp); rintro e w' ⟨rfl, rfl⟩)))
  all_goals go_wp2
  all_goals go_ret
  all_goals exact ⟨_, rfl, rfl, by repeat (first | exact Grown.refl _ | apply Grown.drew | apply Grown.alloc)⟩

set_option maxHeartbeats 2000000 in
theorem cmp8 (n0 v0 r0 n1 v1 r1 : ByteArray) (w : World) :
    Calls Try.prog 8 #[.string n0, .string v0, .string r0, .string n1, .string v1, .string r1] w fun e w' => ∃ x : Int, e = .returned (.int .i64 x) ∧ x = cmpPair n0.data.toList v0.data.toList n1.data.toList v1.data.toList ∧ Grown w w' := by
  go_enter Try.func8, Try.ntmps8
  go_wp2_with fail
  refine (cmp17 _ _ _ _ _ _ _).mono ?_
  rintro e w' ⟨x, rfl, hx, hg⟩
  have HX : Hid (x = cmpPair n0.data.toList v0.data.toList n1.data.toList v1.data.toList) := hx
  clear hx
  go_wp2
  go_ret
  exact ⟨_, rfl, HX.out, hg⟩
end Go.Proofs.Qxb6605735a
