/-
  ZZnewReplayQueue (12): the queue made out of two lists.
-/
import Derived.Test.Qxb6605735aQueueWalks
namespace Go.Proofs.Qxb6605735a
open Go.RowKit

/-- What the round of ZZnewReplayQueue's loop does to the queue's row: one record more. -/
theorem take_snoc (rs : List (ByteArray × Int)) (k : Nat) (h : k < rs.length) : rs.take (k + 1) = rs.take k ++ [rs[k]] := by
  rw [List.take_succ_eq_append_getElem h]

theorem new_round {w wr w2 w3 : World} {q k g cap : Nat} {v : Value} {o : Obj} {rs : List (ByteArray × Int)} {key : ByteArray} {d n s : Int} (hz : w.heap.size ≤ q) (hb : Below w.heap.size w wr) (hb2 : Below wr.drew.heap.size wr.drew w2)
    (hq : wr.heap[q]? = some (.cells #[v] 43 (0, 0))) (hne : some q ≠ v.ownBlock) (hlow : ∀ k, v.ownBlock = some k → w.heap.size ≤ k) (ht : rs.take (k + 1) = rs.take k ++ [(key, d)]) (hk : k < rs.length) (hn : d % 1000000000 = n) (hs : d / 1000000000 = s)
    (hown3 : w3.ownsRow w.heap.size 51 4 (.slice (some ⟨g, 0, none⟩) (k + 1) cap) (k + 1) ((rs.take k).flatMap recCells ++ [.string key, .int .u64 n, .int .i64 s, .pointer none])) (hgrow3 : (w2.alloc o).grownBy w3 v.ownBlock) :
    QInv w.heap.size q (rs.take (k + 1)) (w3.setCell ⟨q, 0, none⟩ (.slice (some ⟨g, 0, none⟩) (k + 1) cap)) ∧ Below w.heap.size w (w3.setCell ⟨q, 0, none⟩ (.slice (some ⟨g, 0, none⟩) (k + 1) cap)) := by
  have lq := lt_of_block hq
  have z2 := hb2.size
  have z1 := hb.size
  simp at z2
  have q2 : w2.heap[q]? = some (.cells #[v] 43 (0, 0)) := (hb2.block q lq).trans hq
  have q3 : w3.heap[q]? = some (.cells #[v] 43 (0, 0)) := (hgrow3.block q (by simp; omega) hne).trans ((Below.heap_alloc w2 _ q (by omega)).trans q2)
  have hne3 := row_ne q3 hown3
  refine ⟨⟨hz, _, one_setCell q3, ?_⟩, ?_⟩
  · have h := ownsRow_setCell_other hown3 (a := ⟨q, 0, none⟩) (fun e => hne3 e.symm) (.slice (some ⟨g, 0, none⟩) (k + 1) cap)
    have e1 : (rs.take (k + 1)).length = k + 1 := by simp; omega
    rw [e1, ht, List.flatMap_append]
    subst hn; subst hs
    simpa [recCells] using h
  · have hb2' : Below w.heap.size wr w2 := (Below.refl _ _).drew.trans (hb2.mono (by simpa using z1))
    exact Below.setCell (((hb.trans hb2').alloc (by omega) _).grown hgrow3 (by simp; omega) hlow) hz _

set_option maxHeartbeats 8000000 in
theorem new12 (ka na : Option Addr) (ck cn spare : Nat) (rs : List (ByteArray × Int)) (w : World) (hm : rs.length ≤ 65536) (hs : spare ≤ 65536)
    (hr : ∀ r ∈ rs, -9223372036854775808 ≤ r.2 ∧ r.2 ≤ 9223372036854775807)
    (hc : 0 < rs.length → ∃ kb nb, ka = some ⟨kb, 0, none⟩ ∧ na = some ⟨nb, 0, none⟩ ∧ ∀ i (h : i < rs.length), w.cell? ⟨kb, i, none⟩ = some (.string rs[i].1) ∧ w.cell? ⟨nb, i, none⟩ = some (.int .i64 rs[i].2)) :
    Calls Try.prog 12 #[.slice ka rs.length ck, .slice na rs.length cn, .int .i64 spare] w fun e w' => ∃ q, e = .returned (.pointer (some ⟨q, 0, none⟩)) ∧ QInv w.heap.size q rs w' ∧ Below w.heap.size w w' := by
  obtain ⟨i0, hi, hz0, hz1, hz2⟩ := info_parts Try.info51
  obtain ⟨m, hme⟩ : ∃ m, m = rs.length := ⟨_, rfl⟩
  have HM : Hid (m = rs.length) := hme
  rw [← hme] at hm ⊢
  clear hme
  go_enter Try.func12, Try.ntmps12
  go_wp2_with (at_make; refine wpList_make_own _ rfl _ _ 43 rfl w.heap.size 51 i0 _ 4 Try.underlying43 hi hz0 hz1 .i64 .i64 _ (m + spare) rfl rfl (by omega) (by rw [hz2]; omega) (by unfold maxLen; omega) (Nat.le_refl _) ?_; intro w1 hown1 hgrow1)
  have hb1 : Below w.heap.size w w1 := (Below.refl _ _).grown hgrow1 (Nat.le_refl _) (fun k h => by cases h)
  have hz := hb1.size
  go_loopw [16] (fun i wr => ∃ k : Nat, k ≤ m ∧ i = .int .i64 k ∧ QInv w.heap.size w1.heap.size (rs.take k) wr ∧ Below w.heap.size w wr) (fun i _ => m - (intOf i).toNat)
  case atStart => exact ⟨0, Nat.zero_le _, rfl, ⟨hz, _, heap_alloc_new _ _, hown1.alloc _⟩, hb1.alloc hz _⟩
  case round =>
    obtain ⟨k, hk, rfl, hQ, hb⟩ := hrel
    by_cases hlt : k < m
    · obtain ⟨kb, nb, rfl, rfl, hcc⟩ := hc (by have := HM.out; omega)
      have hkr : k < rs.length := by have := HM.out; omega
      obtain ⟨key, d, hkd⟩ : ∃ key d, rs[k] = (key, d) := ⟨_, _, rfl⟩
      have hck := hcc k hkr
      have hrk := hr rs[k] (List.getElem_mem hkr)
      have ht := take_snoc rs k hkr
      rw [hkd] at hck hrk ht
      have HT : Hid (rs.take (k + 1) = rs.take k ++ [(key, d)]) := ht
      obtain ⟨hd0, hd1⟩ := hrk
      simp only at hck hd0 hd1
      have c1 : wr.cell? ⟨kb, k, none⟩ = some (.string key) := cell_later hb hck.1
      have c2 : wr.cell? ⟨nb, k, none⟩ = some (.int .i64 d) := cell_later hb hck.2
      obtain ⟨v, hq, hown⟩ := hQ.held
      have cq : wr.cell? ⟨w1.heap.size, 0, none⟩ = some v := cell_of_one hq
      have fq : wr.frozen? ⟨w1.heap.size, 0, none⟩ = false := free_of_one hq
      have lq : w1.heap.size < wr.heap.size := lt_of_block hq
      have hne := row_ne hq hown
      have hlow := row_low hown
      have HN : Hid (some w1.heap.size ≠ v.ownBlock) := hne
      have HQ : Hid (wr.heap[w1.heap.size]? = some (.cells #[v] 43 (0, 0))) := hq
      have hlen : (rs.take k).length = k := by simp; omega
      rw [hlen] at hown
      clear hne hq hlen hkd ht hck hcc hc hr hQ hown1 hgrow1
      go_wp2
      go_region_law (first
        | (refine step_append_lies _ rfl (.tmp 19) (.tmp 31) 43 rfl w.heap.size 51 i0 _ 4 40 Try.underlying43 hi hz0 hz1 hz2 rfl (by decide) v k _ rfl (own2.alloc _) ⟨w2.heap.size, 0, none⟩ 1 1 [.string key, .int .u64 n, .int .i64 s, .pointer none] rfl rfl (World.news_of_block (cs := #[.string key, .int .u64 n, .int .i64 s, .pointer none]) (heap_alloc_new w2 _)) (by simp [Value.oneCell']) (by decide) (by unfold maxLen; omega) (by omega) (by simp; omega) (w2.heap.size + 1) (by simp) ?_; intro g cap w3 hown3 hgrow3 hat hlt3; have cq3 : w3.cell? ⟨w1.heap.size, 0, none⟩ = some v := ((hgrow3.cell_far ⟨w1.heap.size, 0, none⟩ (by simp; omega) HN.out).trans (by go_simp)); have fq3 : w3.frozen? ⟨w1.heap.size, 0, none⟩ = false := ((hgrow3.frozen_far ⟨w1.heap.size, 0, none⟩ (by simp; omega) HN.out).trans (by go_simp)))
        | (go_simp; go_at_call 18; refine (add18 d hd0 hd1 _).mono ?_; rintro e w2 ⟨n, s, rfl, k0, k1, k2, hb2⟩; have H2 : Hid (d % 1000000000 = n ∧ d / 1000000000 = s) := ⟨by omega, by omega⟩; clear k0 k1 k2; have c12 : w2.cell? ⟨kb, k, none⟩ = some (.string key) := cell_later hb2 c1; have cq2 : w2.cell? ⟨w1.heap.size, 0, none⟩ = some v := cell_later hb2 cq; have fq2 : w2.frozen? ⟨w1.heap.size, 0, none⟩ = false := (hb2.frozen (by exact lq)).trans fq; have lq2 : w1.heap.size < w2.heap.size := (by have := hb2.size; simp at this; omega); have own2 := owns_below (w := wr.drew) hown hb2))
      all_goals go_wp2
      all_goals go_roundw
      all_goals first
        | exact ⟨k + 1, by omega, by go_num, new_round hz hb hb2 HQ.out HN.out hlow HT.out (by omega) H2.out.1 H2.out.2 hown3 hgrow3⟩
        | (simp [intOf]; omega)
    · go_wp2
      go_ret
      have hkm : k = rs.length := by have := HM.out; omega
      subst hkm
      rw [List.take_length] at hQ
      exact ⟨_, rfl, hQ, hb⟩
end Go.Proofs.Qxb6605735a
