/-
  configOfRB1 (30).
-/
import Derived.Test.Qxb6608623aConfLaws
import Derived.Deep.DeepCutAuto
import Derived.Deep.RegionHeld3
namespace Go.Proofs.Qxb6608623a
open Go.RowKit

set_option maxHeartbeats 16000000 in
set_option maxRecDepth 100000 in
theorem conf30 (sl er p1 p2 j1 j2 fr sz cl : Int) (hj : Bool) (ma ja ra : Option Addr) (ml mc jl jc rl rc : Nat) (ms js : List M4) (w : World) (hM : Mems w ma ml ms) (hJ : Mems w ja jl js) (hnm : ma = none → ml = 0) (hnj : ja = none → jl = 0) (hl1 : ml ≤ 1048576) (hl2 : jl ≤ 1048576) :
    Calls Try.prog 30 #[.agg #[.int .u64 sl, .int .u64 er, .slice ma ml mc, .int .u64 p1, .int .u64 p2, .bool hj, .slice ja jl jc, .int .u64 j1, .int .u64 j2, .int .u64 fr, .int .u64 sz, .slice ra rl rc, .int .u64 cl]] w fun e w' => ConfPost w er p1 p2 ma ja ml jl ms js hj j1 j2 e w' := by
  have hbB : Below w.heap.size w (w.alloc (.cells #[.int .u64 sl, .int .u64 er, .slice ma ml mc, .int .u64 p1, .int .u64 p2, .bool hj, .slice ja jl jc, .int .u64 j1, .int .u64 j2, .int .u64 fr, .int .u64 sz, .slice ra rl rc, .int .u64 cl] 40)) := (Below.refl _ _).alloc (Nat.le_refl _) _
  go_enter Try.func30, Try.ntmps30
  go_wp2
  go_cut [3] (fun v u => ConfMid w #[.int .u64 sl, .int .u64 er, .slice ma ml mc, .int .u64 p1, .int .u64 p2, .bool hj, .slice ja jl jc, .int .u64 j1, .int .u64 j2, .int .u64 fr, .int .u64 sz, .slice ra rl rc, .int .u64 cl] er p1 p2 ma ml ms v u)
  case first =>
    go_region_held3 (fun u => u.heap[w.heap.size]? = some (.cells #[.int .u64 sl, .int .u64 er, .slice ma ml mc, .int .u64 p1, .int .u64 p2, .bool hj, .slice ja jl jc, .int .u64 j1, .int .u64 j2, .int .u64 fr, .int .u64 sz, .slice ra rl rc, .int .u64 cl] 40 (0, 0)) ∧ u.cell? ⟨w.heap.size, 1, none⟩ = some (.int .u64 er) ∧ u.cell? ⟨w.heap.size, 2, none⟩ = some (.slice ma ml mc) ∧ u.cell? ⟨w.heap.size, 3, none⟩ = some (.int .u64 p1) ∧ u.cell? ⟨w.heap.size, 4, none⟩ = some (.int .u64 p2)) ((refine s30 ?_; first | (simp only [heap_drew, heap_alloc2_old]; done) | (simp only [heap_drew, heap3_old]; done) | (simp only [heap3_old]; done) | (simp only [hH1]; done) | (simp only [hal, hH1]; done) | (simp only [set_old, hH1]; done)))
      (first | (go_at_call 42; refine (to42 ma ml mc ms _ (hM.below ?_) hnm hl1).mono ?_; rotate_left; rintro e w1 hC1; obtain ⟨ca, cc, rfl, hC2⟩ := hC1; have HC : Hid _ := hC2; have hb1 := hC2.2.2.2; clear hC2; have hH1 : w1.heap[w.heap.size]? = some (.cells #[.int .u64 sl, .int .u64 er, .slice ma ml mc, .int .u64 p1, .int .u64 p2, .bool hj, .slice ja jl jc, .int .u64 j1, .int .u64 j2, .int .u64 fr, .int .u64 sz, .slice ra rl rc, .int .u64 cl] 40 (0, 0)) := (by with_reducible (first | exact oldA hb1 | exact oldB hb1)); have hszB : w.heap.size < w1.heap.size := lt_of_block hH1; have hal : ∀ o : Obj, (w1.alloc o).heap[w.heap.size]? = w1.heap[w.heap.size]? := (fun o => Below.heap_alloc w1 o _ hszB); (first | (have zB := (by with_reducible exact newB (C := .cells #[.int .u64 0, .slice none 0 0, .int .u64 0, .int .u64 0, .pointer none] 50 (0, 0)) hb1 : w1.heap[w.heap.size + 1 + 1]? = some (.cells #[.int .u64 0, .slice none 0 0, .int .u64 0, .int .u64 0, .pointer none] 50 (0, 0))); have ZB : Hid _ := zB; obtain ⟨z0, z1, z2, z3, z4, zf⟩ := z5 zB; have zf0 := zf 0; have zf1 := zf 1; have zf2 := zf 2; have zf3 := zf 3; have zf4 := zf 4; clear zB zf) | skip); have HB1 : Hid _ := hb1; clear hb1; rotate_left; with_reducible (first | exact below2 w _ _ | exact below3 w _ _ _)))
    all_goals (go_wp2_with fail; go_meet; first | exact midA HC.out | exact midB HC.out)
  case rest =>
    obtain ⟨gc, ca, cc, rfl, hgc, hgt, h40, h50, hnil, hMc, hne, hbc⟩ := hcut
    have c5 := cell_of_row wc w.heap.size 5 _ _ _ h40
    have HG : Hid _ := hgc
    have H5 : Hid _ := h50
    have H4 : Hid _ := h40
    clear hgc h50 h40
    go_upto_if 15 with (fail)
    go_cut [3] (fun v u => ConfMid2 w er p1 p2 ma ja ml jl ms js hj j1 j2 v u)
    case first =>
      cases hj with
      | false =>
        go_wp2_with fail
        go_meet
        exact mid2_no HG.out H5.out hnil hMc hne hbc
      | true =>
        clear c5
        go_upto_region 3 with fail
        go_region_held3 (fun u => u.heap[w.heap.size]? = some (.cells #[.int .u64 sl, .int .u64 er, .slice ma ml mc, .int .u64 p1, .int .u64 p2, .bool true, .slice ja jl jc, .int .u64 j1, .int .u64 j2, .int .u64 fr, .int .u64 sz, .slice ra rl rc, .int .u64 cl] 40 (0, 0)) ∧ u.cell? ⟨w.heap.size, 6, none⟩ = some (.slice ja jl jc) ∧ u.cell? ⟨w.heap.size, 7, none⟩ = some (.int .u64 j1) ∧ u.cell? ⟨w.heap.size, 8, none⟩ = some (.int .u64 j2)) ((refine s33a ?_; first | exact H4.out | exact hH1 | exact hA1 | exact (heap_setCell_other _ _ _ _ hne1).trans hA1))
          (first | (go_at_call 42; refine (to42 ja jl jc js _ (hJ.below ?_) hnj hl2).mono ?_; rotate_left; rintro e w2 hC1; obtain ⟨xa, xc, rfl, hC2⟩ := hC1; have HC : Hid _ := hC2; have hb1 := hC2.2.2.2; clear hC2; have hH1 := (hb1.block w.heap.size (lt_of_block H4.out)).trans H4.out; have hG1 := (hb1.block gc (lt_of_block HG.out)).trans HG.out; have hA1 := (Below.heap_alloc w2 (Obj.cells #[.int .u64 0, .slice xa jl xc, .int .u64 j1, .int .u64 j2, .pointer none] 50) _ (lt_of_block hH1)).trans hH1; have hA2 := (Below.heap_alloc w2 (Obj.cells #[.int .u64 0, .slice xa jl xc, .int .u64 j1, .int .u64 j2, .pointer none] 50) _ (lt_of_block hG1)).trans hG1; have k4 := cell_of_row _ gc 4 _ _ _ hA2; have kf := frozen_of_row _ gc 4 _ _ hA2; have hne1 : w.heap.size ≠ (⟨gc, 4, none⟩ : Addr).block := (by simp; omega); clear hG1 hA2; have HB1 : Hid _ := hb1; clear hb1; rotate_left; exact hbc.drew))
        all_goals (go_wp2_with fail; go_meet; exact mid2_yes HG.out H5.out hgt hnil hMc hne hbc HC.out)
    case rest =>
      obtain ⟨gc, ca, cc, jp, rfl, hgc, h50, hbc, hcf⟩ := hcut
      have g0 := cell_of_row wc gc 0 _ _ _ hgc
      have g1 := cell_of_row wc gc 1 _ _ _ hgc
      have g2 := cell_of_row wc gc 2 _ _ _ hgc
      have g3 := cell_of_row wc gc 3 _ _ _ hgc
      have g4 := cell_of_row wc gc 4 _ _ _ hgc
      have fz := fun j => frozen_of_row wc (w.heap.size + 1) j _ _ h50
      have fz0 := fz 0
      have fz1 := fz 1
      have fz2 := fz 2
      have fz3 := fz 3
      have fz4 := fz 4
      have r0 := cell_of_row wc (w.heap.size + 1) 0 _ _ _ h50
      have r1 := cell_of_row wc (w.heap.size + 1) 1 _ _ _ h50
      have r2 := cell_of_row wc (w.heap.size + 1) 2 _ _ _ h50
      have r3 := cell_of_row wc (w.heap.size + 1) 3 _ _ _ h50
      have r4 := cell_of_row wc (w.heap.size + 1) 4 _ _ _ h50
      have H5 : Hid _ := h50
      clear hgc h50 fz
      go_wp2_with fail
      exact bodyPost_ret (results_cell_row (fn := Try.f30) (p := 2) (ty := 50) rfl _ _ (w.heap.size + 1) 50 _ (0, 0) _ rfl (set5_new H5.out) Try.underlying50 rfl (by kernel_rfl)) rfl (ConfPost.intro ca cc jp rfl (hcf _ _ _ _ _) (below_set5 hbc (by omega)))
end Go.Proofs.Qxb6608623a
