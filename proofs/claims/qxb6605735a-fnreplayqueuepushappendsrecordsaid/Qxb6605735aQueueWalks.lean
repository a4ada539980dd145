/-
  The contracts of the replay queue: Push (19), ZZreplayPush (13), ZZreplayLen (14), ZZreplayRecord (15).
-/
import Derived.Test.Qxb6605735aTimeWalks
import Derived.Deep.RegionLaw
import Derived.Deep.AppendLies
import Derived.Laws.ResultCell
namespace Go.Proofs.Qxb6605735a
open Go.RowKit

theorem Try.info51 : (Try.prog.info? 51).map (fun i => (i.zero, i.size, i.bytes)) = some (some (.agg #[.string ⟨#[]⟩, .int .u64 0, .int .i64 0, .pointer none]), 4, 40) := by kernel_rfl

/-- The cells of one record of the queue: key, the time's word, its seconds, its location. -/
def recCells (r : ByteArray × Int) : List Value := [.string r.1, .int .u64 (r.2 % 1000000000), .int .i64 (r.2 / 1000000000), .pointer none]

/-- THE QUEUE IN MEMORY: block q holds the slice value v, which owns the records' cells; both lie at or above block number B. -/
structure QInv (B q : Nat) (rs : List (ByteArray × Int)) (w : World) : Prop where
  low : B ≤ q
  held : ∃ v, w.heap[q]? = some (.cells #[v] 43 (0, 0)) ∧ w.ownsRow B 51 4 v rs.length (rs.flatMap recCells)

theorem as51 (v : Value) (w : World) : (Instr.typeAssert (.iface 51 v) 20 51 false).run Try.prog w = .ok v w := by kernel_rfl

/-- The block that holds the slice value is none of its row's: their element types part them. -/
theorem row_ne {w : World} {B q n0 : Nat} {v x : Value} {xs : List Value} (hq : w.heap[q]? = some (.cells #[x] 43 (0, 0))) (hown : w.ownsRow B 51 4 v n0 xs) : some q ≠ v.ownBlock := by
  intro h
  rcases hown.2 with ⟨rfl, _⟩ | ⟨g, cap, cur, rfl, _, hg, _⟩
  · cases h
  · simp only [Value.ownBlock, Option.some.injEq] at h
    subst h
    rw [hq] at hg
    simp at hg

theorem row_low {w : World} {B n0 : Nat} {v : Value} {xs : List Value} (hown : w.ownsRow B 51 4 v n0 xs) : ∀ k, v.ownBlock = some k → B ≤ k := by
  intro k h
  exact (hown.lt k h).1

set_option maxHeartbeats 2000000 in
theorem push19 (B q : Nat) (v : Value) (n0 : Nat) (xs : List Value) (k : ByteArray) (n s : Int) (w : World) (hB : B ≤ q) (hq : w.heap[q]? = some (.cells #[v] 43 (0, 0))) (hown : w.ownsRow B 51 4 v n0 xs) (hn : n0 ≤ 1048576) :
    Calls Try.prog 19 #[.pointer (some ⟨q, 0, none⟩), .iface 51 (.agg #[.string k, .int .u64 n, .int .i64 s, .pointer none])] w fun e w' => e = .returned (.tuple #[]) ∧
      ∃ v', w'.heap[q]? = some (.cells #[v'] 43 (0, 0)) ∧ w'.ownsRow B 51 4 v' (n0 + 1) (xs ++ [.string k, .int .u64 n, .int .i64 s, .pointer none]) ∧ Below B w w' := by
  obtain ⟨i0, hi, hz0, hz1, hz2⟩ := info_parts Try.info51
  have hcq : w.cell? ⟨q, 0, none⟩ = some v := cell_of_one hq
  have hfq : w.frozen? ⟨q, 0, none⟩ = false := free_of_one hq
  have hlq : q < w.heap.size := lt_of_block hq
  have hne := row_ne hq hown
  have hlow := row_low hown
  have HQ : Hid (w.heap[q]? = some (.cells #[v] 43 (0, 0))) := hq
  have HN : Hid (some q ≠ v.ownBlock) := hne
  have has := as51
  clear hq hne
  go_enter Try.func19, Try.ntmps19
  go_region_law (refine step_append_lies _ rfl (.tmp 7) (.tmp 10) 43 rfl B 51 i0 _ 4 40 Try.underlying43 hi hz0 hz1 hz2 rfl (by decide) v n0 xs rfl (hown.alloc _).drew ⟨w.heap.size, 0, none⟩ 1 1 [.string k, .int .u64 n, .int .i64 s, .pointer none] rfl rfl (World.news_of_block (cs := #[.string k, .int .u64 n, .int .i64 s, .pointer none]) (heap_alloc_new w _)) (by simp [Value.oneCell']) (by decide) (by unfold maxLen; omega) (by omega) (by simp; omega) (w.heap.size + 1) (by simp) ?_; intro g cap w1 hown1 hgrow hat hlt; have hc1 : w1.cell? ⟨q, 0, none⟩ = some v := ((hgrow.cell_far ⟨q, 0, none⟩ (by simp; omega) HN.out).trans (by go_simp)); have hf1 : w1.frozen? ⟨q, 0, none⟩ = false := ((hgrow.frozen_far ⟨q, 0, none⟩ (by simp; omega) HN.out).trans (by go_simp)))
  all_goals go_end0
  all_goals
    have hq1 : w1.heap[q]? = some (.cells #[v] 43 (0, 0)) := (hgrow.block q (by simp; omega) HN.out).trans ((Below.heap_alloc w _ q hlq).trans HQ.out)
    have hne1 := row_ne hq1 hown1
    refine ⟨rfl, _, one_setCell hq1, ownsRow_setCell_other hown1 (fun e => hne1 e.symm) _, ?_⟩
    exact Below.setCell (((Below.refl B w).alloc (by omega) _).drew.grown hgrow (by simp; omega) hlow) hB _

theorem owns_below {w w1 : World} {B n0 : Nat} {v : Value} {xs : List Value} (hown : w.ownsRow B 51 4 v n0 xs) (hb : Below w.heap.size w w1) : w1.ownsRow B 51 4 v n0 xs := by
  obtain ⟨h1, h2⟩ := hown
  refine ⟨h1, ?_⟩
  rcases h2 with h2 | ⟨g, cap, cur, hv, hg, hh, r⟩
  · exact Or.inl h2
  · exact Or.inr ⟨g, cap, cur, hv, hg, (hb.block g (lt_of_block hh)).trans hh, r⟩

theorem QInv.below {w w1 : World} {B q : Nat} {rs : List (ByteArray × Int)} (h : QInv B q rs w) (hb : Below w.heap.size w w1) : QInv B q rs w1 := by
  obtain ⟨v, hq, hown⟩ := h.held
  exact ⟨h.low, v, (hb.block q (lt_of_block hq)).trans hq, owns_below hown hb⟩

theorem QInv.lt {w : World} {B q : Nat} {rs : List (ByteArray × Int)} (h : QInv B q rs w) : B ≤ q ∧ q < w.heap.size := by
  obtain ⟨v, hq, hown⟩ := h.held
  exact ⟨h.low, lt_of_block hq⟩

set_option maxHeartbeats 2000000 in
theorem push13 (B q : Nat) (rs : List (ByteArray × Int)) (k : ByteArray) (d : Int) (hd0 : -9223372036854775808 ≤ d) (hd1 : d ≤ 9223372036854775807) (w : World) (hQ : QInv B q rs w) (hn : rs.length ≤ 1048576) :
    Calls Try.prog 13 #[.pointer (some ⟨q, 0, none⟩), .string k, .int .i64 d] w fun e w' => e = .returned (.tuple #[]) ∧ QInv B q (rs ++ [(k, d)]) w' ∧ Below B w w' := by
  go_enter Try.func13, Try.ntmps13
  go_wp2_with fail
  refine (add18 d hd0 hd1 _).mono ?_
  rintro e w1 ⟨n, s, rfl, k0, k1, k2, hb⟩
  have en : d % 1000000000 = n := by omega
  have es : d / 1000000000 = s := by omega
  have H2 : Hid (d % 1000000000 = n ∧ d / 1000000000 = s) := ⟨en, es⟩
  clear k0 k1 k2 en es
  have hQ1 := hQ.below hb
  have hlt := hQ.lt
  obtain ⟨v, hq, hown⟩ := hQ1.held
  have HQ : Hid (w1.heap[q]? = some (.cells #[v] 43 (0, 0))) := hq
  clear hq
  go_wp2_with fail
  refine (push19 B q v rs.length _ k n s _ hlt.1 HQ.out hown hn).mono ?_
  rintro e w2 ⟨rfl, v', hq', hown', hb'⟩
  go_wp2
  go_end0
  refine ⟨rfl, ⟨hlt.1, v', hq', ?_⟩, (hb.mono (by omega)).trans hb'⟩
  rw [List.length_append, List.flatMap_append]
  simpa [recCells, H2.out.1, H2.out.2] using hown'

set_option maxHeartbeats 2000000 in
theorem len14 (B q : Nat) (rs : List (ByteArray × Int)) (w : World) (hQ : QInv B q rs w) :
    Calls Try.prog 14 #[.pointer (some ⟨q, 0, none⟩)] w fun e w' => e = .returned (.int .i64 rs.length) ∧ w' = w := by
  obtain ⟨v, hq, hown⟩ := hQ.held
  have hcq : w.cell? ⟨q, 0, none⟩ = some v := cell_of_one hq
  clear hq
  rcases hown.2 with ⟨rfl, h0⟩ | ⟨g, cap, cur, rfl, _⟩
  · go_enter Try.func14, Try.ntmps14
    go_wp2
    go_ret
    exact ⟨by rw [h0]; rfl, rfl⟩
  · go_enter Try.func14, Try.ntmps14
    go_wp2
    go_ret
    exact ⟨rfl, rfl⟩

theorem flat4 : ∀ (rs : List (ByteArray × Int)) (i : Nat) (hi : i < rs.length) (j : Nat) (_ : j < 4), (rs.flatMap recCells)[i * 4 + j]? = (recCells rs[i])[j]?
  | r :: rs, 0, _, j, hj => by
    rw [List.flatMap_cons, List.getElem?_append_left (by simp [recCells]; omega)]
    simp
  | r :: rs, i + 1, hi, j, hj => by
    rw [List.flatMap_cons, List.getElem?_append_right (by simp [recCells]; omega)]
    have e : (i + 1) * 4 + j - (recCells r).length = i * 4 + j := by simp [recCells]; omega
    rw [e, flat4 rs i (by simpa using hi) j hj]
    simp

theorem five {W w1 : World} {x0 x1 x2 x3 x4 : Addr} {a0 a1 a2 a3 a4 : Value} (hb : Below W.heap.size W w1)
    (h : W.cell? x0 = some a0 ∧ W.cell? x1 = some a1 ∧ W.cell? x2 = some a2 ∧ W.cell? x3 = some a3 ∧ W.cell? x4 = some a4) :
    w1.cell? x0 = some a0 ∧ w1.cell? x1 = some a1 ∧ w1.cell? x2 = some a2 ∧ w1.cell? x3 = some a3 ∧ w1.cell? x4 = some a4 :=
  ⟨cell_later hb h.1, cell_later hb h.2.1, cell_later hb h.2.2.1, cell_later hb h.2.2.2.1, cell_later hb h.2.2.2.2⟩

/-- What the cells of record i hold. -/
theorem rec_cells {w : World} {B g cap : Nat} {rs : List (ByteArray × Int)} (hown : w.ownsRow B 51 4 (.slice (some ⟨g, 0, none⟩) rs.length cap) rs.length (rs.flatMap recCells)) (i : Nat) (hi : i < rs.length) (j : Nat) (hj : j < 4) :
    w.cell? ⟨g, i * 4 + j, none⟩ = (recCells rs[i])[j]? := by
  have hl : (recCells rs[i]).length = 4 := rfl
  have h := hown.cells (g := g) rfl (i * 4 + j) ((recCells rs[i])[j]'(by omega)) (by rw [flat4 rs i hi j hj, List.getElem?_eq_getElem (by omega)])
  have hadd : (⟨g, 0, none⟩ : Addr).add (i * 4 + j) = ⟨g, i * 4 + j, none⟩ := by unfold Addr.add; split <;> simp_all
  rw [hadd] at h
  rw [h, List.getElem?_eq_getElem (by omega)]

set_option maxHeartbeats 2000000 in
theorem record15 (B q : Nat) (rs : List (ByteArray × Int)) (i : Nat) (k : ByteArray) (d : Int) (hd0 : -9223372036854775808 ≤ d) (hd1 : d ≤ 9223372036854775807) (w : World) (hQ : QInv B q rs w) (_hn : rs.length ≤ 2097152) (hr : rs[i]? = some (k, d)) :
    Calls Try.prog 15 #[.pointer (some ⟨q, 0, none⟩), .int .i64 i] w fun e w' => e = .returned (.tuple #[.string k, .int .i64 d]) ∧ Below w.heap.size w w' := by
  obtain ⟨v, hq, hown⟩ := hQ.held
  have hcq : w.cell? ⟨q, 0, none⟩ = some v := cell_of_one hq
  clear hq
  have hi : i < rs.length := by
    rcases Nat.lt_or_ge i rs.length with h | h
    · exact h
    · rw [List.getElem?_eq_none h] at hr; cases hr
  rcases hown.2 with ⟨rfl, h0⟩ | ⟨g, cap, cur, rfl, _⟩
  · omega
  · have e : rs[i] = (k, d) := by rw [List.getElem?_eq_getElem hi] at hr; exact Option.some.inj hr
    have c0 := rec_cells hown i hi 0 (by omega)
    have c1 := rec_cells hown i hi 1 (by omega)
    have c2 := rec_cells hown i hi 2 (by omega)
    have c3 := rec_cells hown i hi 3 (by omega)
    rw [e] at c0 c1 c2 c3
    simp [recCells] at c0 c1 c2 c3
    obtain ⟨n, hn'⟩ : ∃ n, d % 1000000000 = n := ⟨_, rfl⟩
    obtain ⟨s, hs'⟩ : ∃ s, d / 1000000000 = s := ⟨_, rfl⟩
    have n0 : 0 ≤ n := by omega
    have n1 : n < 1000000000 := by omega
    have hd : d = 1000000000 * s + n := by omega
    rw [hn'] at c1
    rw [hs'] at c2
    have HD : Hid (d = 1000000000 * s + n) := hd
    clear hn' hs' hd e hr
    generalize rs.length = m at *
    go_enter Try.func15, Try.ntmps15
    go_wp2
    go_region_held (fun w' => w'.cell? ⟨q, 0, none⟩ = some (.slice (some ⟨g, 0, none⟩) m cap) ∧ w'.cell? ⟨g, i * 4, none⟩ = some (.string k) ∧ w'.cell? ⟨g, i * 4 + 1, none⟩ = some (.int .u64 n) ∧ w'.cell? ⟨g, i * 4 + 2, none⟩ = some (.int .i64 s) ∧ w'.cell? ⟨g, i * 4 + 3, none⟩ = some (.pointer none)) (first | (refine five (by assumption) ?_; first | assumption | go_keep) | go_keep)
      (first | (go_at_call 20; refine (sub20 n s d n0 n1 hd0 hd1 HD.out _).mono ?_; rintro e w' ⟨rfl, hb⟩))
    all_goals go_wp2
    all_goals go_ret2
    all_goals exact ⟨rfl, (Below.refl _ _).drew.trans hb⟩
end Go.Proofs.Qxb6605735a
