/-
  The contracts of pageRef's road: (littleEndian).AppendUint64 onto nil (28), pageRef (22), ZZpageRef (8).
-/
import Derived.Test.Qxb6605965aRows
import Derived.WalkKit
import Derived.WalkSpells
import Derived.WalkLawsBesides
import Derived.RegionTactic
import Derived.Deep.AppendLies
namespace Go.Proofs.Qxb6605965a
open Go.RowKit

theorem Try.info5 : (Try.prog.info? 5).map (fun i => (i.zero, i.size, i.bytes)) = some (some (.int .u8 0), 1, 1) := by kernel_rfl

/-- The eight bytes of v, the least first. -/
def leCells (v : Int) : List Value := [.int .u8 (v % 256), .int .u8 (v / 256 % 256), .int .u8 (v / 65536 % 256), .int .u8 (v / 16777216 % 256), .int .u8 (v / 4294967296 % 256), .int .u8 (v / 1099511627776 % 256), .int .u8 (v / 281474976710656 % 256), .int .u8 (v / 72057594037927936)]

set_option maxHeartbeats 4000000 in
set_option maxRecDepth 100000 in
theorem app28 (v : Int) (h0 : 0 ≤ v) (h1 : v < 18446744073709551616) (w : World) :
    Calls Try.prog 28 #[.agg #[], .slice none 0 0, .int .u64 v] w fun e w' => ∃ g cap, e = .returned (.slice (some ⟨g, 0, none⟩) 8 cap) ∧ w'.ownsRow w.heap.size 5 1 (.slice (some ⟨g, 0, none⟩) 8 cap) 8 (leCells v) ∧ g < w'.heap.size ∧ Below w.heap.size w w' := by
  obtain ⟨i0, hi, hz0, hz1, hz2⟩ := info_parts Try.info5
  have hown : w.ownsRow w.heap.size 5 1 (.slice none 0 0) 0 [] := World.ownsRow_nil _ _ _ _
  go_enter Try.func28, Try.ntmps28
  go_wp2_with (at_builtin; refine wpList_append_lies _ rfl (.tmp 7) (.tmp 31) 23 rfl w.heap.size 5 i0 (.int .u8 0) 1 1 Try.underlying23 hi hz0 hz1 hz2 rfl (by decide) _ 0 [] rfl ((hown.alloc _).alloc _) ⟨w.heap.size + 1, 0, none⟩ 8 8 (leCells v) rfl rfl ?c1 (by simp [leCells, Value.oneCell']) (by decide) (by unfold maxLen; omega) (by omega) (by simp; omega) (w.heap.size + 1 + 1) (by simp) ?_)
  case c1 => exact World.news_of_block (cs := #[.int .u8 (v % 256), .int .u8 (v / 256 % 256), .int .u8 (v / 65536 % 256), .int .u8 (v / 16777216 % 256), .int .u8 (v / 4294967296 % 256), .int .u8 (v / 1099511627776 % 256), .int .u8 (v / 281474976710656 % 256), .int .u8 (v / 72057594037927936)]) (heap_alloc2_new w _ _)
  · intro g cap w1 hown1 hgrow hat hlt
    have hb : Below w.heap.size w w1 := (((Below.refl _ _).alloc (Nat.le_refl _) _).alloc (by simp) _).grown hgrow (by simp; omega) (fun k h => by cases h)
    clear hgrow hat
    go_wp2
    go_ret
    exact ⟨g, cap, rfl, hown1, hlt, hb⟩

set_option maxHeartbeats 4000000 in
theorem ref22 (v : Int) (h0 : 0 ≤ v) (h1 : v < 18446744073709551616) (w : World) :
    Calls Try.prog 22 #[.int .u64 v] w fun e w' => ∃ g cap, e = .returned (.slice (some ⟨g, 0, none⟩) 8 cap) ∧ w'.ownsRow w.heap.size 5 1 (.slice (some ⟨g, 0, none⟩) 8 cap) 8 (leCells v) ∧ g < w'.heap.size ∧ Below w.heap.size w w' := by
  go_enter Try.func22, Try.ntmps22
  go_wp2_with fail
  refine (app28 v h0 h1 _).mono ?_
  rintro e w' ⟨g, cap, rfl, hown, hlt, hb⟩
  go_wp2
  go_ret
  exact ⟨g, cap, rfl, hown, hlt, hb⟩

set_option maxHeartbeats 4000000 in
/-- ZZpageRef hands out eight new bytes. -/
theorem ref8 (v : Int) (h0 : 0 ≤ v) (h1 : v < 18446744073709551616) (w : World) :
    Calls Try.prog 8 #[.int .u64 v] w fun e w' => ∃ g cap, e = .returned (.slice (some ⟨g, 0, none⟩) 8 cap) ∧ w'.ownsRow w.heap.size 5 1 (.slice (some ⟨g, 0, none⟩) 8 cap) 8 (leCells v) ∧ g < w'.heap.size ∧ Below w.heap.size w w' := by
  go_enter Try.func8, Try.ntmps8
  go_wp2_with fail
  refine (ref22 v h0 h1 _).mono ?_
  rintro e w' ⟨g, cap, rfl, hown, hlt, hb⟩
  go_wp2
  go_ret
  exact ⟨g, cap, rfl, hown, hlt, hb⟩

/-- What the eight cells hold. -/
theorem le_cells {w : World} {B g cap : Nat} {v : Value} {id : Int} (hv : v = .slice (some ⟨g, 0, none⟩) 8 cap) (hown : w.ownsRow B 5 1 v 8 (leCells id)) :
    w.cell? ⟨g, 0, none⟩ = some (.int .u8 (id % 256)) ∧ w.cell? ⟨g, 1, none⟩ = some (.int .u8 (id / 256 % 256)) ∧ w.cell? ⟨g, 2, none⟩ = some (.int .u8 (id / 65536 % 256)) ∧ w.cell? ⟨g, 3, none⟩ = some (.int .u8 (id / 16777216 % 256)) ∧
    w.cell? ⟨g, 4, none⟩ = some (.int .u8 (id / 4294967296 % 256)) ∧ w.cell? ⟨g, 5, none⟩ = some (.int .u8 (id / 1099511627776 % 256)) ∧ w.cell? ⟨g, 6, none⟩ = some (.int .u8 (id / 281474976710656 % 256)) ∧ w.cell? ⟨g, 7, none⟩ = some (.int .u8 (id / 72057594037927936)) ∧
    (∀ j, w.frozen? ⟨g, j, none⟩ = false) ∧ B ≤ g := by
  subst hv
  have c := fun j (hj : j < 8 * 1) => hown.cellAt j hj
  refine ⟨c 0 (by omega), c 1 (by omega), c 2 (by omega), c 3 (by omega), c 4 (by omega), c 5 (by omega), c 6 (by omega), c 7 (by omega), fun j => hown.frozenAt j, (hown.lt g rfl).1⟩
end Go.Proofs.Qxb6605965a
