/-
  The walk of FnPageRefIsLittleEndianBytes (3).
-/
import Derived.Test.Qxb6605965aRefWalks
import Derived.Deep.QuietTactic
import Derived.BigQuiet
import Derived.LaidEqlPtr
namespace Go.Proofs.Qxb6605965a
open Go.RowKit

/-- The block of a row that is owned. -/
theorem own_block {w : World} {B g cap : Nat} {id : Int} (hown : w.ownsRow B 5 1 (.slice (some ⟨g, 0, none⟩) 8 cap) 8 (leCells id)) : ∃ cs, w.heap[g]? = some (.cells cs 5 (0, 0)) := by
  rcases hown.2 with ⟨h, _⟩ | ⟨g', cap', cur, hv, _, hg, _⟩
  · cases h
  · simp at hv
    obtain ⟨rfl, rfl⟩ := hv
    exact ⟨cur, hg⟩

theorem drewN_heap (w : World) (n : Nat) : (w.drewN n).heap = w.heap := by
  induction n with
  | zero => rfl
  | succ n ih => exact ih

set_option maxHeartbeats 8000000 in
theorem bytes_walk (id : Int) (h0 : 0 ≤ id) (h1 : id < 18446744073709551616) (w : World) :
    Calls Try.prog 3 #[.int .u64 id] w fun e w' => e = .returned (.bool true) ∧ Below w.heap.size w w' := by
  go_enter Try.func3, Try.ntmps3
  go_wp2_with fail
  refine (ref8 id h0 h1 _).mono ?_
  rintro e w1 ⟨g, cap, rfl, hown, hlt, hb⟩
  obtain ⟨c0, c1, c2, c3, c4, c5, c6, c7, hf, hg⟩ := le_cells rfl hown
  have f0 := hf 0
  have f7 := hf 7
  obtain ⟨cs1, hblk⟩ := own_block hown
  have HB1 : Hid (w1.heap[g]? = some (.cells cs1 5 (0, 0))) := hblk
  clear hf hown hblk
  go_wp2
  refine wp_loop_rounds 9 ?_
  iterate 9
    rw [rounds_succ]
    go_wp2_with fail
  refine (ref8 id h0 h1 _).mono ?_
  rintro e w2 ⟨g', cap', rfl, hown', hlt', hb'⟩
  obtain ⟨e0, e1, e2, e3, e4, e5, e6, e7, hf', hg'⟩ := le_cells rfl hown'
  have hgg : g < g' := by have := hg'; simp at this; omega
  have hgne : g ≠ g' := by omega
  obtain ⟨bc, bf⟩ : (∀ b o, b < w1.heap.size → w2.cell? ⟨b, o, none⟩ = _) ∧ True := ⟨fun b o h => hb'.cell (p := ⟨b, o, none⟩) (by simpa using h), trivial⟩
  have k0 : w2.cell? ⟨g, 0, none⟩ = some (.int .u8 (bits .xor .u8 (id % 256) 255)) := (bc g 0 hlt).trans (by go_simp)
  have k7 : w2.cell? ⟨g, 7, none⟩ = some (.int .u8 (bits .xor .u8 (id / 72057594037927936) 255)) := (bc g 7 hlt).trans (by go_simp)
  obtain ⟨cs2, hblk2⟩ := own_block hown'
  have hblk1 : ∃ cs, w2.heap[g]? = some (.cells cs 5 (0, 0)) := ⟨_, (hb'.block g (by simpa using hlt)).trans (heap_setCell_same _ g 7 _ 5 _ (heap_setCell_same _ g 0 _ 5 _ HB1.out))⟩
  obtain ⟨cs3, hblk3⟩ := hblk1
  obtain ⟨i5, hi, hz0, hz1, hz2⟩ := info_parts Try.info5
  have hq : ∀ n, (binOp .eql 26 (.pointer (some ⟨g, 0, none⟩)) (.pointer (some ⟨g', 0, none⟩))).run Try.prog (w2.drewN n) = .ok (.bool false) (w2.drewN n) := fun n =>
    run_eql_ptr_other (w2.drewN n) Try.underlying26 hi (by rw [hz1]; decide) (fun e => hgne (congrArg Addr.block e)) (by rw [drewN_heap]; exact hblk3) (by rw [drewN_heap]; exact hblk2)
  clear hblk2 hblk3 hi hz0 hz1 hz2 HB1
  have hbb : Below w.heap.size w w2 := ((hb.setCell hg _).setCell hg _).trans (hb'.mono (by have := hb.size; simp; omega))
  clear bc bf hf' hown' hb' hb c0 c1 c2 c3 c4 c5 c6 c7 f0 f7 hg hg' hlt hlt' hgg
  go_wp2
  refine wp_loop_rounds 9 ?_
  iterate 9
    rw [rounds_succ]
    go_wp2
  go_quiet (fail)
  go_wp2
  go_ret
  exact ⟨rfl, hbb.os, hbb.tape, hbb.output, hbb.size, hbb.block⟩
end Go.Proofs.Qxb6605965a
