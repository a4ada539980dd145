/-
  What configOfRB1 (30) leaves, and the plain laws of its memory.
-/
import Derived.Test.Qxb6608623aMemWalks
import Derived.Test.Qxb6608623aMapWalks
namespace Go.Proofs.Qxb6608623a
open Go.RowKit

/-- What a configuration that was made of a MetaIn holds, in memory as it stands: its members (nil of nil), and the joint part behind its pointer. -/
structure Conf (w : World) (ma ja : Option Addr) (ml jl : Nat) (ms js : List M4) (hj : Bool) (j1 j2 : Int) (ca : Option Addr) (jp : Option Addr) : Prop where
  nil_iff : ca = none ↔ ma = none
  mems : Mems w ca ml ms
  noj : hj = false → jp = none
  joint : hj = true → ∃ g ja' jc', jp = some ⟨g, 0, none⟩ ∧ w.cell? ⟨g, 0, none⟩ = some (.int .u64 0) ∧ w.cell? ⟨g, 1, none⟩ = some (.slice ja' jl jc') ∧ w.cell? ⟨g, 2, none⟩ = some (.int .u64 j1) ∧ w.cell? ⟨g, 3, none⟩ = some (.int .u64 j2) ∧ w.cell? ⟨g, 4, none⟩ = some (.pointer none) ∧ (ja' = none ↔ ja = none) ∧ Mems w ja' jl js

theorem Conf.below {w w' : World} {ma ja : Option Addr} {ml jl : Nat} {ms js : List M4} {hj : Bool} {j1 j2 : Int} {ca jp : Option Addr} (h : Conf w ma ja ml jl ms js hj j1 j2 ca jp) (hb : Below w.heap.size w w') : Conf w' ma ja ml jl ms js hj j1 j2 ca jp := by
  refine ⟨h.nil_iff, h.mems.below hb, h.noj, fun hh => ?_⟩
  obtain ⟨g, ja', jc', h1, c0, c1, c2, c3, c4, h2, h3⟩ := h.joint hh
  exact ⟨g, ja', jc', h1, cell_later hb c0, cell_later hb c1, cell_later hb c2, cell_later hb c3, cell_later hb c4, h2, h3.below hb⟩

def ConfPost (w : World) (er p1 p2 : Int) (ma ja : Option Addr) (ml jl : Nat) (ms js : List M4) (hj : Bool) (j1 j2 : Int) (e : Ending) (w' : World) : Prop :=
  ∃ ca cc jp, e = .returned (.agg #[.int .u64 er, .slice ca ml cc, .int .u64 p1, .int .u64 p2, .pointer jp]) ∧ Conf w' ma ja ml jl ms js hj j1 j2 ca jp ∧ Below w.heap.size w w'
theorem ConfPost.intro {w w' : World} {er p1 p2 : Int} {ma ja : Option Addr} {ml jl : Nat} {ms js : List M4} {hj : Bool} {j1 j2 : Int} {e : Ending} (ca : Option Addr) (cc : Nat) (jp : Option Addr) (he : e = .returned (.agg #[.int .u64 er, .slice ca ml cc, .int .u64 p1, .int .u64 p2, .pointer jp])) (h1 : Conf w' ma ja ml jl ms js hj j1 j2 ca jp) (h2 : Below w.heap.size w w') : ConfPost w er p1 p2 ma ja ml jl ms js hj j1 j2 e w' := ⟨ca, cc, jp, he, h1, h2⟩

theorem s30 {u : World} {B : Nat} {sl er p1 p2 j1 j2 fr sz cl : Int} {hj : Bool} {ma ja ra : Option Addr} {ml mc jl jc rl rc : Nat} (h : u.heap[B]? = some (.cells #[.int .u64 sl, .int .u64 er, .slice ma ml mc, .int .u64 p1, .int .u64 p2, .bool hj, .slice ja jl jc, .int .u64 j1, .int .u64 j2, .int .u64 fr, .int .u64 sz, .slice ra rl rc, .int .u64 cl] 40 (0, 0))) :
    u.heap[B]? = some (.cells #[.int .u64 sl, .int .u64 er, .slice ma ml mc, .int .u64 p1, .int .u64 p2, .bool hj, .slice ja jl jc, .int .u64 j1, .int .u64 j2, .int .u64 fr, .int .u64 sz, .slice ra rl rc, .int .u64 cl] 40 (0, 0)) ∧ u.cell? ⟨B, 1, none⟩ = some (.int .u64 er) ∧ u.cell? ⟨B, 2, none⟩ = some (.slice ma ml mc) ∧ u.cell? ⟨B, 3, none⟩ = some (.int .u64 p1) ∧ u.cell? ⟨B, 4, none⟩ = some (.int .u64 p2) :=
  ⟨h, cell_of_row u B 1 _ _ _ h, cell_of_row u B 2 _ _ _ h, cell_of_row u B 3 _ _ _ h, cell_of_row u B 4 _ _ _ h⟩
theorem heap3_old (w : World) (A B C : Obj) : (((w.alloc A).alloc B).alloc C).heap[w.heap.size]? = some A := by
  rw [Below.heap_alloc _ _ _ (by simp; omega)]
  exact heap_alloc2_old w A B
theorem lt2a (w : World) (A B : Obj) : w.heap.size < ((w.alloc A).alloc B).drew.heap.size := by simp; omega
theorem lt3a (w : World) (A B C : Obj) : w.heap.size < (((w.alloc A).alloc B).alloc C).drew.heap.size := by simp; omega
theorem lt3 (w : World) (A B C : Obj) : w.heap.size + 1 + 1 < (((w.alloc A).alloc B).alloc C).drew.heap.size := by simp
theorem heap3 (w : World) (A B C : Obj) : (((w.alloc A).alloc B).alloc C).heap[w.heap.size + 1 + 1]? = some C := by
  have := heap_alloc2_new (w.alloc A) B C
  simpa using this
theorem oldA {w w1 : World} {A B : Obj} (h : Below ((w.alloc A).alloc B).drew.heap.size ((w.alloc A).alloc B).drew w1) : w1.heap[w.heap.size]? = some A :=
  (h.block _ (lt2a w A B)).trans (heap_alloc2_old w A B)
theorem oldB {w w1 : World} {A B C : Obj} (h : Below (((w.alloc A).alloc B).alloc C).drew.heap.size (((w.alloc A).alloc B).alloc C).drew w1) : w1.heap[w.heap.size]? = some A :=
  (h.block _ (lt3a w A B C)).trans (heap3_old w A B C)
theorem newB {w w1 : World} {A B C : Obj} (h : Below (((w.alloc A).alloc B).alloc C).drew.heap.size (((w.alloc A).alloc B).alloc C).drew w1) : w1.heap[w.heap.size + 1 + 1]? = some C :=
  (h.block _ (lt3 w A B C)).trans (heap3 w A B C)
theorem set_old (B i : Nat) (W : World) (v : Value) : (W.setCell ⟨B + 1 + 1, i, none⟩ v).heap[B]? = W.heap[B]? := heap_setCell_other _ _ _ _ (by simp; omega)
theorem below2 (w : World) (A B : Obj) : Below w.heap.size w ((w.alloc A).alloc B).drew := (((Below.refl _ _).alloc (Nat.le_refl _) _).alloc (by simp) _).drew
theorem below3 (w : World) (A B C : Obj) : Below w.heap.size w (((w.alloc A).alloc B).alloc C).drew := ((((Below.refl _ _).alloc (Nat.le_refl _) _).alloc (by simp) _).alloc (by simp; omega) _).drew
theorem z5 {w1 : World} {g : Nat} (h : w1.heap[g]? = some (.cells #[.int .u64 0, .slice none 0 0, .int .u64 0, .int .u64 0, .pointer none] 50 (0, 0))) : w1.cell? ⟨g, 0, none⟩ = some (.int .u64 0) ∧ w1.cell? ⟨g, 1, none⟩ = some (.slice none 0 0) ∧ w1.cell? ⟨g, 2, none⟩ = some (.int .u64 0) ∧ w1.cell? ⟨g, 3, none⟩ = some (.int .u64 0) ∧ w1.cell? ⟨g, 4, none⟩ = some (.pointer none) ∧ ∀ j, w1.frozen? ⟨g, j, none⟩ = false :=
  ⟨cell_of_row w1 g 0 _ _ _ h, cell_of_row w1 g 1 _ _ _ h, cell_of_row w1 g 2 _ _ _ h, cell_of_row w1 g 3 _ _ _ h, cell_of_row w1 g 4 _ _ _ h, fun j => frozen_of_row w1 g j _ _ h⟩

/-- What stands behind the first statement of configOfRB1. -/
def ConfMid (w : World) (C40 : Array Value) (er p1 p2 : Int) (ma : Option Addr) (ml : Nat) (ms : List M4) (v : Value) (u : World) : Prop :=
  ∃ gc ca cc, v = .pointer (some ⟨gc, 0, none⟩) ∧ u.heap[gc]? = some (.cells #[.int .u64 er, .slice ca ml cc, .int .u64 p1, .int .u64 p2, .pointer none] 50 (0, 0)) ∧ w.heap.size + 1 < gc ∧
    u.heap[w.heap.size]? = some (.cells C40 40 (0, 0)) ∧ u.heap[w.heap.size + 1]? = some (.cells #[.int .u64 0, .slice none 0 0, .int .u64 0, .int .u64 0, .pointer none] 50 (0, 0)) ∧ (ca = none ↔ ma = none) ∧ Mems u ca ml ms ∧ (0 < ml → ∀ b off, ca = some ⟨b, off, none⟩ → b ≠ gc ∧ b ≠ w.heap.size + 1) ∧ Below w.heap.size w u


theorem set5_new {w1 : World} {g : Nat} {a0 a1 a2 a3 a4 v0 v1 v2 v3 v4 : Value} {t : TypeId} (h : w1.heap[g]? = some (.cells #[a0, a1, a2, a3, a4] t (0, 0))) :
    (((((w1.setCell ⟨g, 0, none⟩ v0).setCell ⟨g, 1, none⟩ v1).setCell ⟨g, 2, none⟩ v2).setCell ⟨g, 3, none⟩ v3).setCell ⟨g, 4, none⟩ v4).heap[g]? = some (.cells #[v0, v1, v2, v3, v4] t (0, 0)) := by
  have h0 := heap_setCell_same w1 g 0 _ t v0 h
  have h1 := heap_setCell_same _ g 1 _ t v1 h0
  have h2 := heap_setCell_same _ g 2 _ t v2 h1
  have h3 := heap_setCell_same _ g 3 _ t v3 h2
  have h4 := heap_setCell_same _ g 4 _ t v4 h3
  exact h4
theorem set5_other {w1 : World} {g k : Nat} {v0 v1 v2 v3 v4 : Value} (h : k ≠ g) :
    (((((w1.setCell ⟨g, 0, none⟩ v0).setCell ⟨g, 1, none⟩ v1).setCell ⟨g, 2, none⟩ v2).setCell ⟨g, 3, none⟩ v3).setCell ⟨g, 4, none⟩ v4).heap[k]? = w1.heap[k]? := by
  rw [heap_setCell_other _ _ _ _ h, heap_setCell_other _ _ _ _ h, heap_setCell_other _ _ _ _ h, heap_setCell_other _ _ _ _ h, heap_setCell_other _ _ _ _ h]
theorem Mems.block {w : World} {ca : Option Addr} {ml : Nat} {ms : List M4} (h : Mems w ca ml ms) (hp : 0 < ml) {b off : Nat} (he : ca = some ⟨b, off, none⟩) : b < w.heap.size := by
  obtain ⟨b', off', h1, h2⟩ := h.cells hp
  obtain ⟨h0, _⟩ := h2 0 (by rw [h.len_eq]; exact hp)
  rw [he] at h1
  cases h1
  exact block_lt_of_cell h0
theorem Mems.set5 {w1 : World} {g : Nat} {v0 v1 v2 v3 v4 : Value} {ca : Option Addr} {ml : Nat} {ms : List M4} (h : Mems w1 ca ml ms) (hne : 0 < ml → ∀ b off, ca = some ⟨b, off, none⟩ → b ≠ g) :
    Mems (((((w1.setCell ⟨g, 0, none⟩ v0).setCell ⟨g, 1, none⟩ v1).setCell ⟨g, 2, none⟩ v2).setCell ⟨g, 3, none⟩ v3).setCell ⟨g, 4, none⟩ v4) ca ml ms :=
  ((((h.setCell _ _ hne).setCell _ _ hne).setCell _ _ hne).setCell _ _ hne).setCell _ _ hne
theorem below_set5 {w w1 : World} {g : Nat} {v0 v1 v2 v3 v4 : Value} {B : Nat} (h : Below B w w1) (hg : B ≤ g) :
    Below B w (((((w1.setCell ⟨g, 0, none⟩ v0).setCell ⟨g, 1, none⟩ v1).setCell ⟨g, 2, none⟩ v2).setCell ⟨g, 3, none⟩ v3).setCell ⟨g, 4, none⟩ v4) :=
  ((((h.setCell hg _).setCell hg _).setCell hg _).setCell hg _).setCell hg _
theorem heap2_new (w : World) (A B : Obj) : ((w.alloc A).alloc B).heap[w.heap.size + 1]? = some B := by simpa using heap_alloc_new (w.alloc A) B
theorem heap3_mid (w : World) (A B C : Obj) : (((w.alloc A).alloc B).alloc C).heap[w.heap.size + 1]? = some B := by
  rw [Below.heap_alloc _ _ _ (by simp)]
  exact heap2_new w A B

theorem midA {w w1 : World} {C40 : Array Value} {er p1 p2 : Int} {ma ca : Option Addr} {ml cc : Nat} {ms : List M4}
    (hC : (ca = none ↔ ma = none) ∧ Mems w1 ca ml ms ∧ (∀ b off, ca = some ⟨b, off, none⟩ → ((w.alloc (.cells C40 40)).alloc (.cells #[.int .u64 0, .slice none 0 0, .int .u64 0, .int .u64 0, .pointer none] 50)).drew.heap.size ≤ b) ∧ Below ((w.alloc (.cells C40 40)).alloc (.cells #[.int .u64 0, .slice none 0 0, .int .u64 0, .int .u64 0, .pointer none] 50)).drew.heap.size ((w.alloc (.cells C40 40)).alloc (.cells #[.int .u64 0, .slice none 0 0, .int .u64 0, .int .u64 0, .pointer none] 50)).drew w1) :
    ConfMid w C40 er p1 p2 ma ml ms (.pointer (some ⟨w1.heap.size, 0, none⟩)) (w1.alloc (.cells #[.int .u64 er, .slice ca ml cc, .int .u64 p1, .int .u64 p2, .pointer none] 50)) := by
  obtain ⟨hi, hm, hf, hb⟩ := hC
  have hle : w.heap.size + 1 + 1 ≤ w1.heap.size := by simpa using hb.size
  have h0 : w1.heap[w.heap.size]? = some (.cells C40 40 (0, 0)) := oldA hb
  have h1 : w1.heap[w.heap.size + 1]? = some (.cells #[.int .u64 0, .slice none 0 0, .int .u64 0, .int .u64 0, .pointer none] 50 (0, 0)) := (hb.block _ (by simp)).trans (heap2_new w _ _)
  refine ⟨_, ca, cc, rfl, heap_alloc_new w1 _, by omega, (Below.heap_alloc w1 _ _ (by omega)).trans h0, (Below.heap_alloc w1 _ _ (by omega)).trans h1, hi, hm.below ((Below.refl _ _).alloc (Nat.le_refl _) _), fun hp b off he => ?_, ?_⟩
  · have q1 := hm.block hp he
    have q2 : w.heap.size + 1 + 1 ≤ b := by simpa using hf b off he
    omega
  · exact ((below2 w _ _).trans (hb.mono (by simp; omega))).alloc (by omega) _
theorem midB {w w1 : World} {C40 : Array Value} {er p1 p2 : Int} {ma ca : Option Addr} {ml cc : Nat} {ms : List M4}
    (hC : (ca = none ↔ ma = none) ∧ Mems w1 ca ml ms ∧ (∀ b off, ca = some ⟨b, off, none⟩ → (((w.alloc (.cells C40 40)).alloc (.cells #[.int .u64 0, .slice none 0 0, .int .u64 0, .int .u64 0, .pointer none] 50)).alloc (.cells #[.int .u64 0, .slice none 0 0, .int .u64 0, .int .u64 0, .pointer none] 50)).drew.heap.size ≤ b) ∧ Below (((w.alloc (.cells C40 40)).alloc (.cells #[.int .u64 0, .slice none 0 0, .int .u64 0, .int .u64 0, .pointer none] 50)).alloc (.cells #[.int .u64 0, .slice none 0 0, .int .u64 0, .int .u64 0, .pointer none] 50)).drew.heap.size (((w.alloc (.cells C40 40)).alloc (.cells #[.int .u64 0, .slice none 0 0, .int .u64 0, .int .u64 0, .pointer none] 50)).alloc (.cells #[.int .u64 0, .slice none 0 0, .int .u64 0, .int .u64 0, .pointer none] 50)).drew w1) :
    ConfMid w C40 er p1 p2 ma ml ms (.pointer (some ⟨w.heap.size + 1 + 1, 0, none⟩)) (((((w1.setCell ⟨w.heap.size + 1 + 1, 0, none⟩ (.int .u64 er)).setCell ⟨w.heap.size + 1 + 1, 1, none⟩ (.slice ca ml cc)).setCell ⟨w.heap.size + 1 + 1, 2, none⟩ (.int .u64 p1)).setCell ⟨w.heap.size + 1 + 1, 3, none⟩ (.int .u64 p2)).setCell ⟨w.heap.size + 1 + 1, 4, none⟩ (.pointer none)) := by
  obtain ⟨hi, hm, hf, hb⟩ := hC
  have h0 : w1.heap[w.heap.size]? = some (.cells C40 40 (0, 0)) := oldB hb
  have h1 : w1.heap[w.heap.size + 1]? = some (.cells #[.int .u64 0, .slice none 0 0, .int .u64 0, .int .u64 0, .pointer none] 50 (0, 0)) := (hb.block _ (by simp)).trans (heap3_mid w _ _ _)
  have h2 : w1.heap[w.heap.size + 1 + 1]? = some (.cells #[.int .u64 0, .slice none 0 0, .int .u64 0, .int .u64 0, .pointer none] 50 (0, 0)) := newB hb
  have q : ∀ b off, ca = some ⟨b, off, none⟩ → w.heap.size + 1 + 1 + 1 ≤ b := fun b off he => by simpa using hf b off he
  exact ⟨_, ca, cc, rfl, set5_new h2, by omega, (set5_other (by omega)).trans h0, (set5_other (by omega)).trans h1, hi, hm.set5 (fun _ b off he => by have := q b off he; omega), fun _ b off he => by have := q b off he; omega, below_set5 ((below3 w _ _ _).trans (hb.mono (by simp; omega))) (by omega)⟩

theorem s33a {u : World} {B : Nat} {sl er p1 p2 j1 j2 fr sz cl : Int} {hj : Bool} {ma ja ra : Option Addr} {ml mc jl jc rl rc : Nat} (h : u.heap[B]? = some (.cells #[.int .u64 sl, .int .u64 er, .slice ma ml mc, .int .u64 p1, .int .u64 p2, .bool hj, .slice ja jl jc, .int .u64 j1, .int .u64 j2, .int .u64 fr, .int .u64 sz, .slice ra rl rc, .int .u64 cl] 40 (0, 0))) :
    u.heap[B]? = some (.cells #[.int .u64 sl, .int .u64 er, .slice ma ml mc, .int .u64 p1, .int .u64 p2, .bool hj, .slice ja jl jc, .int .u64 j1, .int .u64 j2, .int .u64 fr, .int .u64 sz, .slice ra rl rc, .int .u64 cl] 40 (0, 0)) ∧ u.cell? ⟨B, 6, none⟩ = some (.slice ja jl jc) ∧ u.cell? ⟨B, 7, none⟩ = some (.int .u64 j1) ∧ u.cell? ⟨B, 8, none⟩ = some (.int .u64 j2) :=
  ⟨h, cell_of_row u B 6 _ _ _ h, cell_of_row u B 7 _ _ _ h, cell_of_row u B 8 _ _ _ h⟩

/-- What stands behind the second statement of configOfRB1. -/
def ConfMid2 (w : World) (er p1 p2 : Int) (ma ja : Option Addr) (ml jl : Nat) (ms js : List M4) (hj : Bool) (j1 j2 : Int) (v : Value) (u : World) : Prop :=
  ∃ gc ca cc jp, v = .pointer (some ⟨gc, 0, none⟩) ∧ u.heap[gc]? = some (.cells #[.int .u64 er, .slice ca ml cc, .int .u64 p1, .int .u64 p2, .pointer jp] 50 (0, 0)) ∧
    u.heap[w.heap.size + 1]? = some (.cells #[.int .u64 0, .slice none 0 0, .int .u64 0, .int .u64 0, .pointer none] 50 (0, 0)) ∧ Below w.heap.size w u ∧ ∀ v0 v1 v2 v3 v4, Conf (((((u.setCell ⟨w.heap.size + 1, 0, none⟩ v0).setCell ⟨w.heap.size + 1, 1, none⟩ v1).setCell ⟨w.heap.size + 1, 2, none⟩ v2).setCell ⟨w.heap.size + 1, 3, none⟩ v3).setCell ⟨w.heap.size + 1, 4, none⟩ v4) ma ja ml jl ms js hj j1 j2 ca jp

theorem mid2_no {w wc : World} {er p1 p2 j1 j2 : Int} {ma ja ca : Option Addr} {ml jl gc cc : Nat} {ms js : List M4}
    (hgc : wc.heap[gc]? = some (.cells #[.int .u64 er, .slice ca ml cc, .int .u64 p1, .int .u64 p2, .pointer none] 50 (0, 0))) (h50 : wc.heap[w.heap.size + 1]? = some (.cells #[.int .u64 0, .slice none 0 0, .int .u64 0, .int .u64 0, .pointer none] 50 (0, 0)))
    (hnil : ca = none ↔ ma = none) (hMc : Mems wc ca ml ms) (hne : 0 < ml → ∀ b off, ca = some ⟨b, off, none⟩ → b ≠ gc ∧ b ≠ w.heap.size + 1) (hb : Below w.heap.size w wc) :
    ConfMid2 w er p1 p2 ma ja ml jl ms js false j1 j2 (.pointer (some ⟨gc, 0, none⟩)) wc :=
  ⟨gc, ca, cc, none, rfl, hgc, h50, hb, fun _ _ _ _ _ => ⟨hnil, hMc.set5 (fun hp b off he => (hne hp b off he).2), fun _ => rfl, fun h => by cases h⟩⟩

theorem mid2_yes {w wc w2 : World} {er p1 p2 j1 j2 : Int} {ma ja ca xa : Option Addr} {ml jl gc cc xc : Nat} {ms js : List M4}
    (hgc : wc.heap[gc]? = some (.cells #[.int .u64 er, .slice ca ml cc, .int .u64 p1, .int .u64 p2, .pointer none] 50 (0, 0))) (h50 : wc.heap[w.heap.size + 1]? = some (.cells #[.int .u64 0, .slice none 0 0, .int .u64 0, .int .u64 0, .pointer none] 50 (0, 0))) (hgt : w.heap.size + 1 < gc)
    (hnil : ca = none ↔ ma = none) (hMc : Mems wc ca ml ms) (hne : 0 < ml → ∀ b off, ca = some ⟨b, off, none⟩ → b ≠ gc ∧ b ≠ w.heap.size + 1) (hb : Below w.heap.size w wc)
    (hC : (xa = none ↔ ja = none) ∧ Mems w2 xa jl js ∧ (∀ b off, xa = some ⟨b, off, none⟩ → wc.drew.heap.size ≤ b) ∧ Below wc.drew.heap.size wc.drew w2) :
    ConfMid2 w er p1 p2 ma ja ml jl ms js true j1 j2 (.pointer (some ⟨gc, 0, none⟩)) ((w2.alloc (.cells #[.int .u64 0, .slice xa jl xc, .int .u64 j1, .int .u64 j2, .pointer none] 50)).setCell ⟨gc, 4, none⟩ (.pointer (some ⟨w2.heap.size, 0, none⟩))) := by
  obtain ⟨hi, hm, hf, hb2⟩ := hC
  have l1 : gc < wc.heap.size := lt_of_block hgc
  have l2 : wc.heap.size ≤ w2.heap.size := hb2.size
  have hb2' : Below wc.heap.size wc w2 := (Below.refl _ wc).drew.trans hb2
  have e1 : w2.heap[gc]? = some (.cells #[.int .u64 er, .slice ca ml cc, .int .u64 p1, .int .u64 p2, .pointer none] 50 (0, 0)) := (hb2'.block _ l1).trans hgc
  have e2 : w2.heap[w.heap.size + 1]? = some (.cells #[.int .u64 0, .slice none 0 0, .int .u64 0, .int .u64 0, .pointer none] 50 (0, 0)) := (hb2'.block _ (by omega)).trans h50
  have e1' := (Below.heap_alloc w2 (.cells #[.int .u64 0, .slice xa jl xc, .int .u64 j1, .int .u64 j2, .pointer none] 50) gc (by omega)).trans e1
  have e2' := (Below.heap_alloc w2 (.cells #[.int .u64 0, .slice xa jl xc, .int .u64 j1, .int .u64 j2, .pointer none] 50) (w.heap.size + 1) (by omega)).trans e2
  have e3 := heap_alloc_new w2 (.cells #[.int .u64 0, .slice xa jl xc, .int .u64 j1, .int .u64 j2, .pointer none] 50)
  refine ⟨gc, ca, cc, some ⟨w2.heap.size, 0, none⟩, rfl, heap_setCell_same _ gc 4 _ 50 _ e1', (heap_setCell_other _ _ _ _ (by simp; omega)).trans e2', ((hb.trans (hb2'.mono (by omega))).alloc (by omega) _).setCell (by simp; omega) _, fun v0 v1 v2 v3 v4 => ?_⟩
  have al : Below w2.heap.size w2 (w2.alloc (.cells #[.int .u64 0, .slice xa jl xc, .int .u64 j1, .int .u64 j2, .pointer none] 50)) := (Below.refl _ _).alloc (Nat.le_refl _) _
  refine ⟨hnil, ?_, (fun h => by cases h), fun _ => ?_⟩
  · exact (((hMc.below hb2').below al).setCell _ _ (fun hp b off he => (hne hp b off he).1)).set5 (fun hp b off he => (hne hp b off he).2)
  · have q : ∀ b off, xa = some ⟨b, off, none⟩ → wc.heap.size ≤ b := hf
    have e4 := (set5_other (v0 := v0) (v1 := v1) (v2 := v2) (v3 := v3) (v4 := v4) (g := w.heap.size + 1) (show w2.heap.size ≠ w.heap.size + 1 by omega)).trans ((heap_setCell_other _ ⟨gc, 4, none⟩ _ (.pointer (some ⟨w2.heap.size, 0, none⟩)) (by simp; omega)).trans e3)
    exact ⟨w2.heap.size, xa, xc, rfl, cell_of_row _ _ 0 _ _ _ e4, cell_of_row _ _ 1 _ _ _ e4, cell_of_row _ _ 2 _ _ _ e4, cell_of_row _ _ 3 _ _ _ e4, cell_of_row _ _ 4 _ _ _ e4, hi, ((hm.below al).setCell _ _ (fun _ b off he => by have := q b off he; simp; omega)).set5 (fun _ b off he => by have := q b off he; omega)⟩
end Go.Proofs.Qxb6608623a
