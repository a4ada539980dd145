/-
  The walks of zzDecodeLE (9) and of FnPageRefKeepsOrderFromLastByte (4).
-/
import Derived.Test.Qxb6605965aRefWalks
import Derived.Test.Qxb6605965aOrderLaw
import Derived.Deep.QuietTactic
import Derived.BigQuiet
namespace Go.Proofs.Qxb6605965a
open Go.RowKit

set_option maxHeartbeats 8000000 in
theorem dec9 (g cap : Nat) (id : Int) (h0 : 0 ≤ id) (h1 : id < 18446744073709551616) (w : World) (c0 : w.cell? ⟨g, 0, none⟩ = some (.int .u8 (id % 256))) (c1 : w.cell? ⟨g, 1, none⟩ = some (.int .u8 (id / 256 % 256))) (c2 : w.cell? ⟨g, 2, none⟩ = some (.int .u8 (id / 65536 % 256))) (c3 : w.cell? ⟨g, 3, none⟩ = some (.int .u8 (id / 16777216 % 256)))
    (c4 : w.cell? ⟨g, 4, none⟩ = some (.int .u8 (id / 4294967296 % 256))) (c5 : w.cell? ⟨g, 5, none⟩ = some (.int .u8 (id / 1099511627776 % 256))) (c6 : w.cell? ⟨g, 6, none⟩ = some (.int .u8 (id / 281474976710656 % 256))) (c7 : w.cell? ⟨g, 7, none⟩ = some (.int .u8 (id / 72057594037927936))) :
    Calls Try.prog 9 #[.slice (some ⟨g, 0, none⟩) 8 cap] w fun e w' => e = .returned (.int .u64 id) ∧ w' = w := by
  go_enter Try.func9, Try.ntmps9
  go_wp2
  refine wp_loop_rounds 9 ?_
  iterate 9
    rw [rounds_succ]
    go_wp2
  go_ret
  exact ⟨congrArg (fun x => Ending.returned (.int .u64 x)) (le_join id h0 h1), rfl⟩

/-- The eight cells, by their index. -/
def Row8 (w : World) (g : Nat) (id : Int) : Prop := ∀ k, k < 8 → w.cell? ⟨g, k, none⟩ = some (.int .u8 (byt id k))

theorem row8_of {w : World} {B g cap : Nat} {id : Int} (h0 : 0 ≤ id) (h1 : id < 18446744073709551616) (hown : w.ownsRow B 5 1 (.slice (some ⟨g, 0, none⟩) 8 cap) 8 (leCells id)) : Row8 w g id := by
  obtain ⟨c0, c1, c2, c3, c4, c5, c6, c7, _, _⟩ := le_cells rfl hown
  intro k hk
  have e : k = 0 ∨ k = 1 ∨ k = 2 ∨ k = 3 ∨ k = 4 ∨ k = 5 ∨ k = 6 ∨ k = 7 := by omega
  have p0 : byt id 0 = id % 256 := by unfold byt; simp
  have p1 : byt id 1 = id / 256 % 256 := by unfold byt; rfl
  have p2 : byt id 2 = id / 65536 % 256 := by unfold byt; rfl
  have p3 : byt id 3 = id / 16777216 % 256 := by unfold byt; rfl
  have p4 : byt id 4 = id / 4294967296 % 256 := by unfold byt; rfl
  have p5 : byt id 5 = id / 1099511627776 % 256 := by unfold byt; rfl
  have p6 : byt id 6 = id / 281474976710656 % 256 := by unfold byt; rfl
  have p7 : byt id 7 = id / 72057594037927936 := by
    have e7 : (256 : Int) ^ 7 = 72057594037927936 := by decide
    unfold byt; rw [e7]; omega
  rcases e with rfl | rfl | rfl | rfl | rfl | rfl | rfl | rfl
  · rw [p0]; exact c0
  · rw [p1]; exact c1
  · rw [p2]; exact c2
  · rw [p3]; exact c3
  · rw [p4]; exact c4
  · rw [p5]; exact c5
  · rw [p6]; exact c6
  · rw [p7]; exact c7

set_option maxHeartbeats 8000000 in
theorem order_walk (a b : Int) (ha0 : 0 ≤ a) (ha1 : a < 18446744073709551616) (hb0 : 0 ≤ b) (hb1 : b < 18446744073709551616) (w : World) :
    Calls Try.prog 4 #[.int .u64 a, .int .u64 b] w fun e w' => e = .returned (.bool true) ∧ Below w.heap.size w w' := by
  go_enter Try.func4, Try.ntmps4
  go_wp2_with fail
  refine (ref8 a ha0 ha1 _).mono ?_
  rintro e w1 ⟨g, cap, rfl, hown, hlt, hbel⟩
  go_wp2_with fail
  refine (ref8 b hb0 hb1 _).mono ?_
  rintro e w2 ⟨g', cap', rfl, hown', hlt', hbel'⟩
  obtain ⟨c0, c1, c2, c3, c4, c5, c6, c7, _, _⟩ := le_cells rfl hown
  obtain ⟨e0, e1, e2, e3, e4, e5, e6, e7, _, _⟩ := le_cells rfl hown'
  have RA : Row8 w2 g a := fun k hk => cell_later hbel' (row8_of ha0 ha1 hown k hk)
  have RB : Row8 w2 g' b := row8_of hb0 hb1 hown'
  have hb : Below w.heap.size w w2 := hbel.trans (hbel'.mono hbel.size)
  replace c0 := cell_later hbel' c0
  replace c1 := cell_later hbel' c1
  replace c2 := cell_later hbel' c2
  replace c3 := cell_later hbel' c3
  replace c4 := cell_later hbel' c4
  replace c5 := cell_later hbel' c5
  replace c6 := cell_later hbel' c6
  replace c7 := cell_later hbel' c7
  clear hown hown' hbel hbel' hlt hlt'
  go_wp2_with fail
  refine (dec9 g cap a ha0 ha1 _ c0 c1 c2 c3 c4 c5 c6 c7).mono ?_
  rintro e w3 ⟨rfl, rfl⟩
  go_wp2_with fail
  refine (dec9 g' cap' b hb0 hb1 _ e0 e1 e2 e3 e4 e5 e6 e7).mono ?_
  rintro e w4 ⟨rfl, rfl⟩
  clear c0 c1 c2 c3 c4 c5 c6 c7 e0 e1 e2 e3 e4 e5 e6 e7
  go_wp2
  go_loopw [7, 8] (fun c i wr => ∃ k : Nat, k ≤ 8 ∧ c = .int .i64 0 ∧ ((k = 0 ∧ i = .int .i64 (-1)) ∨ ∃ j : Nat, k = j + 1 ∧ i = .int .i64 j) ∧ (∀ j, k ≤ j → j < 8 → byt a j = byt b j) ∧ ∃ n, wr = w4.drewN n) (fun _ i _ => (intOf i + 1).toNat)
  case atStart => exact ⟨8, by omega, rfl, Or.inr ⟨7, rfl, rfl⟩, fun j h1 h2 => by omega, 0, rfl⟩
  case round =>
    obtain ⟨k, hk, rfl, hi, heq, n, rfl⟩ := hrel
    rcases hi with ⟨rfl, rfl⟩ | ⟨j, rfl, rfl⟩
    · have hab : a = b := all_eq a b ha0 ha1 hb0 hb1 (fun j h1 h2 => heq j h1 h2)
      subst hab
      clear heq
      go_wp2
      go_ret
      exact ⟨rfl, hb.os, hb.tape, hb.output, hb.size, hb.block⟩
    · have hA := RA j (by omega)
      have hB := RB j (by omega)
      have hj8 : (j : Int) < 8 := by omega
      have r1 := byt_range a j
      have r2 := byt_range b j
      rcases Int.lt_trichotomy (byt a j) (byt b j) with h | h | h
      · have hab : a < b := first_lt a b ha0 ha1 hb0 hb1 j (by omega) heq h
        have hne : (byt a j != byt b j) = true := by simp; omega
        clear heq RA RB
        go_wp2
        go_quiet (fail)
        go_wp2
        go_quiet (fail)
        go_wp2
        go_ret
        exact ⟨rfl, hb.os, hb.tape, hb.output, hb.size, hb.block⟩
      · have hne : (byt a j != byt b j) = false := by simp [h]
        have HE : Hid (∀ i, j ≤ i → i < 8 → byt a i = byt b i) := fun i h1 h2 => by
          by_cases e : i = j
          · rw [e]; exact h
          · exact heq i (by omega) h2
        clear heq RA RB h
        go_wp2
        go_quiet (fail)
        go_wp2
        go_roundw
        case rel =>
          refine ⟨j, by omega, rfl, ?_, HE.out, _, rfl⟩
          cases j with
          | zero => exact Or.inl ⟨rfl, by go_num⟩
          | succ i => exact Or.inr ⟨i, rfl, by go_num⟩
        case measure => simp [intOf]
      · have hab : b < a := first_lt b a hb0 hb1 ha0 ha1 j (by omega) (fun i h1 h2 => (heq i h1 h2).symm) h
        have hne : (byt a j != byt b j) = true := by simp; omega
        clear heq RA RB
        go_wp2
        go_quiet (fail)
        go_wp2
        go_quiet (fail)
        go_wp2
        go_ret
        exact ⟨rfl, hb.os, hb.tape, hb.output, hb.size, hb.block⟩
end Go.Proofs.Qxb6605965a
