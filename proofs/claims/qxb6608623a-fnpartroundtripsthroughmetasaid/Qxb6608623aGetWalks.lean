/-
  The getters ZZmetaSlot (32), ZZmetaConfig (34), ZZmetaFrom (35), ZZmetaSize (36), ZZmetaRejoins (38), ZZmetaCluster (39).
-/
import Derived.Test.Qxb6608623aMetaWalks
namespace Go.Proofs.Qxb6608623a
open Go.RowKit

set_option maxHeartbeats 1600000 in
theorem get32 (sl er : Int) (ca : Option Addr) (ml cc : Nat) (p1 p2 : Int) (jp : Option Addr) (fr sz : Int) (rm : Option Nat) (cl : Int) (w : World) : Calls Try.prog 32 #[.agg (cells10 sl er ca ml cc p1 p2 jp fr sz rm cl)] w fun e w' => Gives w (.int .u64 sl) e w' := by
  go_enter Try.func32, Try.ntmps32
  go_wp2
  go_ret
  exact Gives.intro rfl ((Below.refl _ _).alloc (Nat.le_refl _) _)

set_option maxHeartbeats 1600000 in
theorem get35 (sl er : Int) (ca : Option Addr) (ml cc : Nat) (p1 p2 : Int) (jp : Option Addr) (fr sz : Int) (rm : Option Nat) (cl : Int) (w : World) : Calls Try.prog 35 #[.agg (cells10 sl er ca ml cc p1 p2 jp fr sz rm cl)] w fun e w' => Gives w (.int .u64 fr) e w' := by
  go_enter Try.func35, Try.ntmps35
  go_wp2
  go_ret
  exact Gives.intro rfl ((Below.refl _ _).alloc (Nat.le_refl _) _)

set_option maxHeartbeats 1600000 in
theorem get36 (sl er : Int) (ca : Option Addr) (ml cc : Nat) (p1 p2 : Int) (jp : Option Addr) (fr sz : Int) (rm : Option Nat) (cl : Int) (w : World) : Calls Try.prog 36 #[.agg (cells10 sl er ca ml cc p1 p2 jp fr sz rm cl)] w fun e w' => Gives w (.int .u64 sz) e w' := by
  go_enter Try.func36, Try.ntmps36
  go_wp2
  go_ret
  exact Gives.intro rfl ((Below.refl _ _).alloc (Nat.le_refl _) _)

set_option maxHeartbeats 1600000 in
theorem get38 (sl er : Int) (ca : Option Addr) (ml cc : Nat) (p1 p2 : Int) (jp : Option Addr) (fr sz : Int) (rm : Option Nat) (cl : Int) (w : World) : Calls Try.prog 38 #[.agg (cells10 sl er ca ml cc p1 p2 jp fr sz rm cl)] w fun e w' => Gives w (.map rm) e w' := by
  go_enter Try.func38, Try.ntmps38
  go_wp2
  go_ret
  exact Gives.intro rfl ((Below.refl _ _).alloc (Nat.le_refl _) _)

set_option maxHeartbeats 1600000 in
theorem get39 (sl er : Int) (ca : Option Addr) (ml cc : Nat) (p1 p2 : Int) (jp : Option Addr) (fr sz : Int) (rm : Option Nat) (cl : Int) (w : World) : Calls Try.prog 39 #[.agg (cells10 sl er ca ml cc p1 p2 jp fr sz rm cl)] w fun e w' => Gives w (.int .u64 cl) e w' := by
  go_enter Try.func39, Try.ntmps39
  go_wp2
  go_ret
  exact Gives.intro rfl ((Below.refl _ _).alloc (Nat.le_refl _) _)

set_option maxHeartbeats 1600000 in
theorem get34 (sl er : Int) (ca : Option Addr) (ml cc : Nat) (p1 p2 : Int) (jp : Option Addr) (fr sz : Int) (rm : Option Nat) (cl : Int) (w : World) : Calls Try.prog 34 #[.agg (cells10 sl er ca ml cc p1 p2 jp fr sz rm cl)] w fun e w' => Gives w (.agg #[.int .u64 er, .slice ca ml cc, .int .u64 p1, .int .u64 p2, .pointer jp]) e w' := by
  go_enter Try.func34, Try.ntmps34
  go_wp2
  exact bodyPost_ret (results_cell_row (fn := Try.f34) (p := 2) (ty := 50) rfl _ _ (w.heap.size + 1) 50 _ (0, 0) _ rfl (heap2_new w _ _) Try.underlying50 rfl (by kernel_rfl)) rfl (Gives.intro rfl (((Below.refl _ _).alloc (Nat.le_refl _) _).alloc (by simp) _))
end Go.Proofs.Qxb6608623a
