/-
  sameConfigRB1 (33).
-/
import Derived.Test.Qxb6608623aConfLaws
import Derived.Test.Qxb6608623aMetaWalks
import Derived.BigQuiet
namespace Go.Proofs.Qxb6608623a
open Go.RowKit

theorem w33 {sl er p1 p2 j1 j2 fr sz cl : Int} {hj : Bool} {ma ja ra ca jp : Option Addr} {ml mc jl jc rl rc cc : Nat} {w w1 : World} {n : Nat} (h : w1 = ((w.alloc (.cells #[.int .u64 er, .slice ca ml cc, .int .u64 p1, .int .u64 p2, .pointer jp] 50)).alloc (.cells #[.int .u64 sl, .int .u64 er, .slice ma ml mc, .int .u64 p1, .int .u64 p2, .bool hj, .slice ja jl jc, .int .u64 j1, .int .u64 j2, .int .u64 fr, .int .u64 sz, .slice ra rl rc, .int .u64 cl] 40)).drewN n) :
    Below w.heap.size w w1 ∧ w1.cell? ⟨w.heap.size, 4, none⟩ = some (.pointer jp) ∧ w1.cell? ⟨w.heap.size + 1, 5, none⟩ = some (.bool hj) ∧ w1.cell? ⟨w.heap.size + 1, 6, none⟩ = some (.slice ja jl jc) ∧ w1.cell? ⟨w.heap.size + 1, 7, none⟩ = some (.int .u64 j1) ∧ w1.cell? ⟨w.heap.size + 1, 8, none⟩ = some (.int .u64 j2) := by
  have hb : Below w.heap.size w w1 := by
    rw [h]
    exact below_drewN (((Below.refl _ _).alloc (Nat.le_refl _) _).alloc (by simp) _) _
  have h1 : w1.heap[w.heap.size]? = some (.cells #[.int .u64 er, .slice ca ml cc, .int .u64 p1, .int .u64 p2, .pointer jp] 50 (0, 0)) := by
    rw [h]
    exact heap_alloc2_old w _ _
  have h2 : w1.heap[w.heap.size + 1]? = some (.cells #[.int .u64 sl, .int .u64 er, .slice ma ml mc, .int .u64 p1, .int .u64 p2, .bool hj, .slice ja jl jc, .int .u64 j1, .int .u64 j2, .int .u64 fr, .int .u64 sz, .slice ra rl rc, .int .u64 cl] 40 (0, 0)) := by
    rw [h]
    exact heap2_new w _ _
  exact ⟨hb, cell_of_row _ _ 4 _ _ _ h1, cell_of_row _ _ 5 _ _ _ h2, cell_of_row _ _ 6 _ _ _ h2, cell_of_row _ _ 7 _ _ _ h2, cell_of_row _ _ 8 _ _ _ h2⟩

set_option maxHeartbeats 4000000 in
set_option maxRecDepth 100000 in
theorem conf33 (sl er p1 p2 j1 j2 fr sz cl : Int) (hj : Bool) (ma ja ra ca jp : Option Addr) (ml mc jl jc rl rc cc : Nat) (ms js : List M4) (w : World) (hM : Mems w ma ml ms) (hJ : Mems w ja jl js) (hl1 : ml ≤ 1048576) (hl2 : jl ≤ 1048576)
    (hC : Conf w ma ja ml jl ms js hj j1 j2 ca jp) :
    Calls Try.prog 33 #[.agg #[.int .u64 er, .slice ca ml cc, .int .u64 p1, .int .u64 p2, .pointer jp], .agg #[.int .u64 sl, .int .u64 er, .slice ma ml mc, .int .u64 p1, .int .u64 p2, .bool hj, .slice ja jl jc, .int .u64 j1, .int .u64 j2, .int .u64 fr, .int .u64 sz, .slice ra rl rc, .int .u64 cl]] w fun e w' => Gives w (.bool true) e w' := by
  have HC : Hid _ := hC
  clear hC
  go_enter Try.func33, Try.ntmps33
  cases hj with
  | false =>
    obtain rfl := HC.out.noj rfl
    go_wp2_with (go_at_call 43; refine (same43 ca ma ml cc mc ms _ (HC.out.mems.below ?_) (hM.below ?_) HC.out.nil_iff hl1).mono ?_; rotate_left; rotate_left; rintro e w1 ⟨rfl, n1, rfl⟩; rotate_left; exact ((Below.refl _ _).alloc (Nat.le_refl _) _).alloc (by simp) _; exact ((Below.refl _ _).alloc (Nat.le_refl _) _).alloc (by simp) _)
    go_ret
    exact Gives.intro rfl (below_drewN ((((Below.refl _ _).alloc (Nat.le_refl _) _)).alloc (by simp) _) _)
  | true =>
    obtain ⟨g, ja', jc', rfl, k0, k1, k2, k3, k4, hnj, hJ'⟩ := HC.out.joint rfl
    have K : Hid _ := And.intro k0 (And.intro k1 (And.intro k2 (And.intro k3 k4)))
    clear k0 k1 k2 k3 k4
    go_wp2_with (go_at_call 43; refine (same43 ca ma ml cc mc ms _ (HC.out.mems.below ?_) (hM.below ?_) HC.out.nil_iff hl1).mono ?_; rotate_left; rotate_left; rintro e w1 ⟨rfl, n1, hw1⟩; obtain ⟨hb1, q4, r5, r6, r7, r8⟩ := w33 hw1; obtain ⟨k0, k1, k2, k3, k4⟩ := K.out; replace k0 := cell_later hb1 k0; replace k1 := cell_later hb1 k1; replace k2 := cell_later hb1 k2; replace k3 := cell_later hb1 k3; replace k4 := cell_later hb1 k4; clear hw1; rotate_left; exact ((Below.refl _ _).alloc (Nat.le_refl _) _).alloc (by simp) _; exact ((Below.refl _ _).alloc (Nat.le_refl _) _).alloc (by simp) _)
    have HB : Hid _ := hb1
    clear hb1
    go_quiet ((go_at_call 43; refine Calls.quiet_of (same43 ja' ja jl jc' jc js _ (hJ'.below ?_) (hJ.below ?_) hnj hl2) <;> exact below_drewN HB.out _))
    go_wp2
    go_ret
    exact Gives.intro rfl (below_drewN HB.out _)
end Go.Proofs.Qxb6608623a
