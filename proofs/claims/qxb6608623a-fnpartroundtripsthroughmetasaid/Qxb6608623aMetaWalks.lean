/-
  ZZnewSnapshotMeta (29), snapshotMeta.part (31), ZZpart (20), SnapshotPart.meta (40), ZZmeta (23).
-/
import Derived.Test.Qxb6608623aConfLaws
import Derived.BigRegion
namespace Go.Proofs.Qxb6608623a
open Go.RowKit

/-- A snapshotMeta's ten cells. -/
abbrev cells10 (sl er : Int) (ca : Option Addr) (ml cc : Nat) (p1 p2 : Int) (jp : Option Addr) (fr sz : Int) (rm : Option Nat) (cl : Int) : Array Value :=
  #[.int .u64 sl, .int .u64 er, .slice ca ml cc, .int .u64 p1, .int .u64 p2, .pointer jp, .int .u64 fr, .int .u64 sz, .map rm, .int .u64 cl]

def Gives (w : World) (v : Value) (e : Ending) (w' : World) : Prop := e = .returned v ∧ Below w.heap.size w w'
theorem Gives.intro {w w' : World} {v : Value} {e : Ending} (he : e = .returned v) (hb : Below w.heap.size w w') : Gives w v e w' := ⟨he, hb⟩

theorem z10 {w1 : World} {g : Nat} (h : w1.heap[g]? = some (.cells #[.int .u64 0, .int .u64 0, .slice none 0 0, .int .u64 0, .int .u64 0, .pointer none, .int .u64 0, .int .u64 0, .map none, .int .u64 0] 55 (0, 0))) : w1.cell? ⟨g, 0, none⟩ = some (.int .u64 0) ∧ w1.cell? ⟨g, 1, none⟩ = some (.int .u64 0) ∧ w1.cell? ⟨g, 2, none⟩ = some (.slice none 0 0) ∧ w1.cell? ⟨g, 3, none⟩ = some (.int .u64 0) ∧ w1.cell? ⟨g, 4, none⟩ = some (.int .u64 0) ∧ w1.cell? ⟨g, 5, none⟩ = some (.pointer none) ∧ w1.cell? ⟨g, 6, none⟩ = some (.int .u64 0) ∧ w1.cell? ⟨g, 7, none⟩ = some (.int .u64 0) ∧ w1.cell? ⟨g, 8, none⟩ = some (.map none) ∧ w1.cell? ⟨g, 9, none⟩ = some (.int .u64 0) ∧ w1.frozen? ⟨g, 0, none⟩ = false ∧ w1.frozen? ⟨g, 1, none⟩ = false ∧ w1.frozen? ⟨g, 2, none⟩ = false ∧ w1.frozen? ⟨g, 3, none⟩ = false ∧ w1.frozen? ⟨g, 4, none⟩ = false ∧ w1.frozen? ⟨g, 5, none⟩ = false ∧ w1.frozen? ⟨g, 6, none⟩ = false ∧ w1.frozen? ⟨g, 7, none⟩ = false ∧ w1.frozen? ⟨g, 8, none⟩ = false ∧ w1.frozen? ⟨g, 9, none⟩ = false :=
  ⟨cell_of_row w1 g 0 _ _ _ h, cell_of_row w1 g 1 _ _ _ h, cell_of_row w1 g 2 _ _ _ h, cell_of_row w1 g 3 _ _ _ h, cell_of_row w1 g 4 _ _ _ h, cell_of_row w1 g 5 _ _ _ h, cell_of_row w1 g 6 _ _ _ h, cell_of_row w1 g 7 _ _ _ h, cell_of_row w1 g 8 _ _ _ h, cell_of_row w1 g 9 _ _ _ h, frozen_of_row w1 g 0 _ _ h, frozen_of_row w1 g 1 _ _ h, frozen_of_row w1 g 2 _ _ h, frozen_of_row w1 g 3 _ _ h, frozen_of_row w1 g 4 _ _ h, frozen_of_row w1 g 5 _ _ h, frozen_of_row w1 g 6 _ _ h, frozen_of_row w1 g 7 _ _ h, frozen_of_row w1 g 8 _ _ h, frozen_of_row w1 g 9 _ _ h⟩
theorem set_step {w : World} {g i : Nat} {cs cs' : Array Value} {t : TypeId} {v : Value} (h : w.heap[g]? = some (.cells cs t (0, 0))) (he : cs.setIfInBounds i v = cs') : (w.setCell ⟨g, i, none⟩ v).heap[g]? = some (.cells cs' t (0, 0)) := by
  subst he
  exact heap_setCell_same w g i cs t v h
theorem set10_new {w1 : World} {g : Nat} {a0 a1 a2 a3 a4 a5 a6 a7 a8 a9 v0 v1 v2 v3 v4 v5 v6 v7 v8 v9 : Value} {t : TypeId} (h : w1.heap[g]? = some (.cells #[a0, a1, a2, a3, a4, a5, a6, a7, a8, a9] t (0, 0))) :
    ((((((((((w1.setCell ⟨g, 0, none⟩ v0).setCell ⟨g, 1, none⟩ v1).setCell ⟨g, 2, none⟩ v2).setCell ⟨g, 3, none⟩ v3).setCell ⟨g, 4, none⟩ v4).setCell ⟨g, 5, none⟩ v5).setCell ⟨g, 6, none⟩ v6).setCell ⟨g, 7, none⟩ v7).setCell ⟨g, 8, none⟩ v8).setCell ⟨g, 9, none⟩ v9).heap[g]? = some (.cells #[v0, v1, v2, v3, v4, v5, v6, v7, v8, v9] t (0, 0)) := by
  have h0 := set_step (i := 0) (v := v0) (cs' := #[v0, a1, a2, a3, a4, a5, a6, a7, a8, a9]) h rfl
  have h1 := set_step (i := 1) (v := v1) (cs' := #[v0, v1, a2, a3, a4, a5, a6, a7, a8, a9]) h0 rfl
  have h2 := set_step (i := 2) (v := v2) (cs' := #[v0, v1, v2, a3, a4, a5, a6, a7, a8, a9]) h1 rfl
  have h3 := set_step (i := 3) (v := v3) (cs' := #[v0, v1, v2, v3, a4, a5, a6, a7, a8, a9]) h2 rfl
  have h4 := set_step (i := 4) (v := v4) (cs' := #[v0, v1, v2, v3, v4, a5, a6, a7, a8, a9]) h3 rfl
  have h5 := set_step (i := 5) (v := v5) (cs' := #[v0, v1, v2, v3, v4, v5, a6, a7, a8, a9]) h4 rfl
  have h6 := set_step (i := 6) (v := v6) (cs' := #[v0, v1, v2, v3, v4, v5, v6, a7, a8, a9]) h5 rfl
  have h7 := set_step (i := 7) (v := v7) (cs' := #[v0, v1, v2, v3, v4, v5, v6, v7, a8, a9]) h6 rfl
  have h8 := set_step (i := 8) (v := v8) (cs' := #[v0, v1, v2, v3, v4, v5, v6, v7, v8, a9]) h7 rfl
  have h9 := set_step (i := 9) (v := v9) (cs' := #[v0, v1, v2, v3, v4, v5, v6, v7, v8, v9]) h8 rfl
  exact h9
theorem set10_other {w1 : World} {g k : Nat} {v0 v1 v2 v3 v4 v5 v6 v7 v8 v9 : Value} (h : k ≠ g) : ((((((((((w1.setCell ⟨g, 0, none⟩ v0).setCell ⟨g, 1, none⟩ v1).setCell ⟨g, 2, none⟩ v2).setCell ⟨g, 3, none⟩ v3).setCell ⟨g, 4, none⟩ v4).setCell ⟨g, 5, none⟩ v5).setCell ⟨g, 6, none⟩ v6).setCell ⟨g, 7, none⟩ v7).setCell ⟨g, 8, none⟩ v8).setCell ⟨g, 9, none⟩ v9).heap[k]? = w1.heap[k]? := by
  rw [heap_setCell_other _ _ _ _ h, heap_setCell_other _ _ _ _ h, heap_setCell_other _ _ _ _ h, heap_setCell_other _ _ _ _ h, heap_setCell_other _ _ _ _ h, heap_setCell_other _ _ _ _ h, heap_setCell_other _ _ _ _ h, heap_setCell_other _ _ _ _ h, heap_setCell_other _ _ _ _ h, heap_setCell_other _ _ _ _ h]
theorem below_set10 {w w1 : World} {g : Nat} {v0 v1 v2 v3 v4 v5 v6 v7 v8 v9 : Value} {B : Nat} (h : Below B w w1) (hg : B ≤ g) : Below B w ((((((((((w1.setCell ⟨g, 0, none⟩ v0).setCell ⟨g, 1, none⟩ v1).setCell ⟨g, 2, none⟩ v2).setCell ⟨g, 3, none⟩ v3).setCell ⟨g, 4, none⟩ v4).setCell ⟨g, 5, none⟩ v5).setCell ⟨g, 6, none⟩ v6).setCell ⟨g, 7, none⟩ v7).setCell ⟨g, 8, none⟩ v8).setCell ⟨g, 9, none⟩ v9) :=
  (((((((((h.setCell hg _).setCell hg _).setCell hg _).setCell hg _).setCell hg _).setCell hg _).setCell hg _).setCell hg _).setCell hg _).setCell hg _

set_option maxHeartbeats 1600000 in
theorem new29 (sl er : Int) (ca : Option Addr) (ml cc : Nat) (p1 p2 : Int) (jp : Option Addr) (fr sz : Int) (rm : Option Nat) (cl : Int) (w : World) :
    Calls Try.prog 29 #[.int .u64 sl, .agg #[.int .u64 er, .slice ca ml cc, .int .u64 p1, .int .u64 p2, .pointer jp], .int .u64 fr, .int .u64 sz, .map rm, .int .u64 cl] w
      fun e w' => Gives w (.agg (cells10 sl er ca ml cc p1 p2 jp fr sz rm cl)) e w' := by
  go_enter Try.func29, Try.ntmps29
  go_wp2
  exact bodyPost_ret (results_cell_row (fn := Try.f29) (p := 12) (ty := 55) rfl _ _ (w.heap.size + 1) 55 _ (0, 0) _ rfl (heap2_new w _ _) Try.underlying55 rfl (by kernel_rfl)) rfl (Gives.intro rfl (((Below.refl _ _).alloc (Nat.le_refl _) _).alloc (by simp) _))

def Parted (w : World) (er : Int) (ca : Option Addr) (ml cc : Nat) (p1 p2 : Int) (jp : Option Addr) (fr sz : Int) (rm : Option Nat) (cl off : Int) (da : Option Addr) (dl dc : Nat) (e : Ending) (w' : World) : Prop :=
  ∃ g, e = .returned (.pointer (some ⟨g, 0, none⟩)) ∧ w'.heap[g]? = some (.cells #[.int .u64 er, .slice ca ml cc, .int .u64 p1, .int .u64 p2, .pointer jp, .int .u64 fr, .map rm, .int .u64 cl, .int .u64 sz, .int .u64 off, .slice da dl dc] 60 (0, 0)) ∧ Below w.heap.size w w'

set_option maxHeartbeats 1600000 in
theorem part31 (sl er : Int) (ca : Option Addr) (ml cc : Nat) (p1 p2 : Int) (jp : Option Addr) (fr sz : Int) (rm : Option Nat) (cl off : Int) (da : Option Addr) (dl dc : Nat) (w : World) :
    Calls Try.prog 31 #[.agg (cells10 sl er ca ml cc p1 p2 jp fr sz rm cl), .int .u64 off, .slice da dl dc] w
      fun e w' => Parted w er ca ml cc p1 p2 jp fr sz rm cl off da dl dc e w' := by
  go_enter Try.func31, Try.ntmps31
  go_wp2
  go_ret
  exact ⟨w.heap.size + 1, rfl, heap2_new w _ _, ((Below.refl _ _).alloc (Nat.le_refl _) _).alloc (by simp) _⟩

set_option maxHeartbeats 1600000 in
theorem meta40 (sl er : Int) (ca : Option Addr) (ml cc : Nat) (p1 p2 : Int) (jp : Option Addr) (fr sz : Int) (rm : Option Nat) (cl off : Int) (da : Option Addr) (dl dc : Nat) (g : Nat) (w : World)
    (hg : w.heap[g]? = some (.cells #[.int .u64 er, .slice ca ml cc, .int .u64 p1, .int .u64 p2, .pointer jp, .int .u64 fr, .map rm, .int .u64 cl, .int .u64 sz, .int .u64 off, .slice da dl dc] 60 (0, 0))) :
    Calls Try.prog 40 #[.pointer (some ⟨g, 0, none⟩), .int .u64 sl] w fun e w' => Gives w (.agg (cells10 sl er ca ml cc p1 p2 jp fr sz rm cl)) e w' := by
  have hlt := lt_of_block hg
  have b0 := cell_of_row w g 0 _ _ _ hg
  have b1 := cell_of_row w g 1 _ _ _ hg
  have b2 := cell_of_row w g 2 _ _ _ hg
  have b3 := cell_of_row w g 3 _ _ _ hg
  have b4 := cell_of_row w g 4 _ _ _ hg
  have b5 := cell_of_row w g 5 _ _ _ hg
  have b6 := cell_of_row w g 6 _ _ _ hg
  have b7 := cell_of_row w g 7 _ _ _ hg
  have b8 := cell_of_row w g 8 _ _ _ hg
  go_enter Try.func40, Try.ntmps40
  go_wp2
  go_region
  go_wp2
  exact bodyPost_ret (results_cell_row (fn := Try.f40) (p := 4) (ty := 55) rfl _ _ w.heap.size 55 _ (0, 0) _ rfl (heap_alloc_new w _) Try.underlying55 rfl (by kernel_rfl)) rfl (Gives.intro rfl ((Below.refl _ _).alloc (Nat.le_refl _) _).drew)

set_option maxHeartbeats 1600000 in
theorem part20 (sl er : Int) (ca : Option Addr) (ml cc : Nat) (p1 p2 : Int) (jp : Option Addr) (fr sz : Int) (rm : Option Nat) (cl off : Int) (da : Option Addr) (dl dc : Nat) (w : World) :
    Calls Try.prog 20 #[.agg (cells10 sl er ca ml cc p1 p2 jp fr sz rm cl), .int .u64 off, .slice da dl dc] w
      fun e w' => Parted w er ca ml cc p1 p2 jp fr sz rm cl off da dl dc e w' := by
  go_enter Try.func20, Try.ntmps20
  go_wp2_with (go_at_call 31; refine (part31 sl er ca ml cc p1 p2 jp fr sz rm cl off da dl dc _).mono ?_; rintro e w1 ⟨g, rfl, hg, hb⟩)
  go_ret
  exact ⟨g, rfl, hg, ((Below.refl _ _).alloc (Nat.le_refl _) _).trans (hb.mono (by simp))⟩

set_option maxHeartbeats 1600000 in
theorem meta23 (sl er : Int) (ca : Option Addr) (ml cc : Nat) (p1 p2 : Int) (jp : Option Addr) (fr sz : Int) (rm : Option Nat) (cl off : Int) (da : Option Addr) (dl dc : Nat) (g : Nat) (w : World)
    (hg : w.heap[g]? = some (.cells #[.int .u64 er, .slice ca ml cc, .int .u64 p1, .int .u64 p2, .pointer jp, .int .u64 fr, .map rm, .int .u64 cl, .int .u64 sz, .int .u64 off, .slice da dl dc] 60 (0, 0))) :
    Calls Try.prog 23 #[.pointer (some ⟨g, 0, none⟩), .int .u64 sl] w fun e w' => Gives w (.agg (cells10 sl er ca ml cc p1 p2 jp fr sz rm cl)) e w' := by
  have hlt := lt_of_block hg
  go_enter Try.func23, Try.ntmps23
  go_wp2_with (go_at_call 40; refine (meta40 sl er ca ml cc p1 p2 jp fr sz rm cl off da dl dc g _ ((Below.heap_alloc w _ g hlt).trans hg)).mono ?_; rintro e w1 ⟨rfl, hb⟩; have hz := (hb.block w.heap.size (by simp)).trans (heap_alloc_new w _); obtain ⟨z0, z1, z2, z3, z4, z5, z6, z7, z8, z9, zf0, zf1, zf2, zf3, zf4, zf5, zf6, zf7, zf8, zf9⟩ := z10 hz; have HZ : Hid _ := hz; have HB : Hid _ := hb; clear hz hb)
  exact bodyPost_ret (results_cell_row (fn := Try.f23) (p := 4) (ty := 55) rfl _ _ w.heap.size 55 _ (0, 0) _ rfl (set10_new HZ.out) Try.underlying55 rfl (by kernel_rfl)) rfl (Gives.intro rfl (below_set10 (((Below.refl _ _).alloc (Nat.le_refl _) _).trans (HB.out.mono (by simp))) (Nat.le_refl _)))
end Go.Proofs.Qxb6608623a
