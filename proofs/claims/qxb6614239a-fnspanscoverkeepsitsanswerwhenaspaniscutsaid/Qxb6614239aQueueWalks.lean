/-
  The queue of spans: ZZnewCoverQueue (24), ZZaddSpan (25).
-/
import Derived.Test.Qxb6614239aRows
import Derived.WalkKit
import Derived.WalkSpells
import Derived.WalkLawsBesides
import Derived.Deep.AppendLies
import Derived.Deep.QuietTactic
import Derived.BigQuiet
namespace Go.Proofs.Qxb6614239a
open Go.RowKit

theorem Try.info94 : (Try.prog.info? 94).map (fun i => (i.zero, i.size, i.bytes)) = some (some (.agg #[.pointer none, .int .u64 0, .int .i64 0, .int .u64 0, .int .i64 0, .int .i64 0, .int .i64 0, .int .i64 0, .int .u8 0, .int .i64 0]), 10, 80) := by kernel_rfl

/-- A span: first, count, ackFirst, ackCount. -/
abbrev S4 : Type := Int × Int × Int × Int
def spCells (s : S4) : List Value := [.pointer none, .int .u64 s.1, .int .i64 s.2.1, .int .u64 s.2.2.1, .int .i64 s.2.2.2, .int .i64 0, .int .i64 0, .int .i64 0, .int .u8 0, .int .i64 0]

/-- THE QUEUE IN MEMORY: block q holds base, last, acked and the slice value v, which owns the spans' cells. -/
structure QI (w : World) (B q : Nat) (base last acked : Int) (v : Value) (rs : List S4) : Prop where
  low : B ≤ q
  blk : ∃ cs, w.heap[q]? = some (.cells cs 81 (0, 0)) ∧ cs[1]? = some v ∧ cs[5]? = some (.int .u64 base) ∧ cs[6]? = some (.int .u64 last) ∧ cs[7]? = some (.int .i64 acked)
  own : w.ownsRow B 94 10 v rs.length (rs.flatMap spCells)

/-- w' is w but for new blocks, block q and block 'row'. -/
structure Grew (w w' : World) (q : Nat) (row : Option Nat) : Prop where
  os : w'.os = w.os
  tape : w'.tape = w.tape
  output : w'.output = w.output
  size : w.heap.size ≤ w'.heap.size
  block : ∀ k, k < w.heap.size → k ≠ q → some k ≠ row → w'.heap[k]? = w.heap[k]?

theorem row_ne {w : World} {B q n0 : Nat} {v : Value} {cs : Array Value} {xs : List Value} (hq : w.heap[q]? = some (.cells cs 81 (0, 0))) (hown : w.ownsRow B 94 10 v n0 xs) : some q ≠ v.ownBlock := by
  intro h
  rcases hown.2 with ⟨rfl, _⟩ | ⟨g, cap, cur, rfl, _, hg, _⟩
  · cases h
  · simp only [Value.ownBlock, Option.some.injEq] at h
    subst h
    rw [hq] at hg
    simp at hg

/-- The queue is there as it was wherever its two blocks are. -/
theorem QI.carry {w w' : World} {B q : Nat} {base last acked : Int} {v : Value} {rs : List S4} (h : QI w B q base last acked v rs) (hb : ∀ k, k < w.heap.size → (k = q ∨ v.ownBlock = some k) → w'.heap[k]? = w.heap[k]?) : QI w' B q base last acked v rs := by
  obtain ⟨cs, hq, hr⟩ := h.blk
  refine ⟨h.low, ⟨cs, (hb q (lt_of_block hq) (Or.inl rfl)).trans hq, hr⟩, ?_⟩
  obtain ⟨h1, h2⟩ := h.own
  refine ⟨h1, ?_⟩
  rcases h2 with h2 | ⟨g, cap, cur, hv, hg, hh, r⟩
  · exact Or.inl h2
  · exact Or.inr ⟨g, cap, cur, hv, hg, (hb g (lt_of_block hh) (Or.inr (by rw [hv]; rfl))).trans hh, r⟩

theorem QI.below {w w' : World} {B q : Nat} {base last acked : Int} {v : Value} {rs : List S4} (h : QI w B q base last acked v rs) (hb : Below w.heap.size w w') : QI w' B q base last acked v rs :=
  h.carry fun k hk _ => hb.block k hk

set_option maxHeartbeats 2000000 in
theorem new24 (base last acked : Int) (w : World) :
    Calls Try.prog 24 #[.int .u64 base, .int .u64 last, .int .i64 acked] w fun e w' => e = .returned (.pointer (some ⟨w.heap.size, 0, none⟩)) ∧ (∀ B, B ≤ w.heap.size → QI w' B w.heap.size base last acked (.slice none 0 0) []) ∧ Below w.heap.size w w' := by
  go_enter Try.func24, Try.ntmps24
  go_wp2
  go_ret
  exact ⟨rfl, fun B hB => ⟨hB, ⟨_, heap_alloc_new _ _, rfl, rfl, rfl, rfl⟩, World.ownsRow_nil _ _ _ _⟩, (Below.refl _ _).alloc (Nat.le_refl _) _⟩

/-- What ZZaddSpan leaves. -/
def Added (w : World) (B q : Nat) (base last acked : Int) (v : Value) (rs : List S4) (s : S4) (w' : World) : Prop :=
  ∃ g cap, QI w' B q base last acked (.slice (some ⟨g, 0, none⟩) (rs.length + 1) cap) (rs ++ [s]) ∧ (v.ownBlock = some g ∨ w.heap.size ≤ g) ∧ Grew w w' q v.ownBlock

set_option maxHeartbeats 4000000 in
theorem add25 (B q : Nat) (base last acked : Int) (v : Value) (rs : List S4) (f c af ac : Int) (w : World) (hQ : QI w B q base last acked v rs) (hn : rs.length ≤ 1048576) :
    Calls Try.prog 25 #[.pointer (some ⟨q, 0, none⟩), .int .u64 f, .int .i64 c, .int .u64 af, .int .i64 ac] w fun e w' => e = .returned (.tuple #[]) ∧ Added w B q base last acked v rs (f, c, af, ac) w' := by
  obtain ⟨i0, hi, hz0, hz1, hz2⟩ := info_parts Try.info94
  obtain ⟨cs, hq, k1, k5, k6, k7⟩ := hQ.blk
  have hown := hQ.own
  have hB := hQ.low
  have hcq : w.cell? ⟨q, 1, none⟩ = some v := by rw [cell_of_row w q 1 cs 81 _ hq]; exact k1
  have hfq : w.frozen? ⟨q, 1, none⟩ = false := frozen_of_row w q 1 cs 81 hq
  have hlq : q < w.heap.size := lt_of_block hq
  have HN : Hid (some q ≠ v.ownBlock) := row_ne hq hown
  have HQ : Hid _ := hq
  have HK : Hid _ := And.intro k1 (And.intro k5 (And.intro k6 k7))
  generalize hm : rs.length = m at hown hn
  have HM : Hid (rs.length = m) := hm
  clear hq k1 k5 k6 k7 hQ hm
  go_enter Try.func25, Try.ntmps25
  go_wp2_with (at_builtin; refine wpList_append_lies _ rfl (.tmp 14) (.tmp 20) 66 rfl B 94 i0 _ 10 80 Try.underlying66 hi hz0 hz1 hz2 rfl (by decide) v m _ rfl (hown.alloc _) ⟨w.heap.size, 0, none⟩ 1 1 (spCells (f, c, af, ac)) rfl rfl (World.news_of_block (cs := #[.pointer none, .int .u64 f, .int .i64 c, .int .u64 af, .int .i64 ac, .int .i64 0, .int .i64 0, .int .i64 0, .int .u8 0, .int .i64 0]) (heap_alloc_new w _)) (by simp [spCells, Value.oneCell']) (by decide) (by unfold maxLen; omega) (by omega) (by simp; omega) (w.heap.size + 1) (by simp) ?_; intro g cap w1 hown1 hgrow hat hlt; have hc1 : w1.cell? ⟨q, 1, none⟩ = some v := ((hgrow.cell_far ⟨q, 1, none⟩ (by simp; omega) HN.out).trans (by go_simp)); have hf1 : w1.frozen? ⟨q, 1, none⟩ = false := ((hgrow.frozen_far ⟨q, 1, none⟩ (by simp; omega) HN.out).trans (by go_simp)))
  go_end0
  have hq1 : w1.heap[q]? = some (.cells cs 81 (0, 0)) := (hgrow.block q (by simp; omega) HN.out).trans ((Below.heap_alloc w _ q hlq).trans HQ.out)
  have hne1 := row_ne hq1 hown1
  obtain ⟨k1, k5, k6, k7⟩ := HK.out
  refine ⟨rfl, g, cap, ⟨hB, ⟨_, heap_setCell_same w1 q 1 cs 81 _ hq1, ?_, ?_, ?_, ?_⟩, ?_⟩, ?_, ?_⟩
  · rw [Array.getElem?_setIfInBounds, if_pos rfl, if_pos ?_]
    · rw [HM.out]
    · rcases Nat.lt_or_ge 1 cs.size with h | h
      · exact h
      · rw [Array.getElem?_eq_none h] at k1; cases k1
  · rw [Array.getElem?_setIfInBounds_ne (by decide)]; exact k5
  · rw [Array.getElem?_setIfInBounds_ne (by decide)]; exact k6
  · rw [Array.getElem?_setIfInBounds_ne (by decide)]; exact k7
  · rw [List.length_append, List.flatMap_append, HM.out]
    have h := ownsRow_setCell_other hown1 (a := ⟨q, 1, none⟩) (fun e => hne1 e.symm) (.slice (some ⟨g, 0, none⟩) (m + 1) cap)
    simpa using h
  · rcases hat with h | h
    · exact Or.inl h
    · exact Or.inr (by omega)
  · refine ⟨hgrow.os, hgrow.tape, hgrow.output, ?_, fun k hk h1 h2 => ?_⟩
    · have := hgrow.size
      simp at this
      simp [World.setCell]
      omega
    · rw [heap_setCell_other w1 _ k _ h1]
      exact (hgrow.block k (by simp; omega) h2).trans (Below.heap_alloc w _ k hk)
end Go.Proofs.Qxb6614239a
