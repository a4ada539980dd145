/-
  The list of spans with one of them cut in two, built round by round; two queues beside each other.
-/
import Derived.Test.Qxb6614239aChainWalks
namespace Go.Proofs.Qxb6614239a
open Go.RowKit

def cutTo (rs : List S4) (j : Nat) (cut acut : Int) : Nat → List S4
  | 0 => []
  | k + 1 => match rs[k]? with
    | none => cutTo rs j cut acut k
    | some s => if k = j then cutTo rs j cut acut k ++ [(s.1, cut, s.2.2.1, acut)] ++ [(s.1 + cut, s.2.1 - cut, s.2.2.1 + acut, s.2.2.2 - acut)] else cutTo rs j cut acut k ++ [s]

theorem cutTo_at {rs : List S4} {j k : Nat} {cut acut : Int} {f c af ac : Int} (h : rs[k]? = some (f, c, af, ac)) (hj : k = j) : cutTo rs j cut acut (k + 1) = cutTo rs j cut acut k ++ [(f, cut, af, acut)] ++ [(f + cut, c - cut, af + acut, ac - acut)] := by
  simp only [cutTo, h, if_pos hj]
theorem cutTo_other {rs : List S4} {j k : Nat} {cut acut : Int} {s : S4} (h : rs[k]? = some s) (hj : k ≠ j) : cutTo rs j cut acut (k + 1) = cutTo rs j cut acut k ++ [s] := by
  simp only [cutTo, h, if_neg hj]

theorem cutTo_len (rs : List S4) (j : Nat) (cut acut : Int) : ∀ k, (cutTo rs j cut acut k).length ≤ 2 * k
  | 0 => by simp [cutTo]
  | k + 1 => by
    have ih := cutTo_len rs j cut acut k
    unfold cutTo
    split
    · omega
    · split
      · simp; omega
      · simp; omega

/-- The cut is no longer than the range. -/
def CutOk (c cut : Int) : Prop := 0 ≤ cut ∧ (cut ≤ c ∨ (c ≤ 0 ∧ cut = 0))

theorem take_map_succ {α β : Type} (g : α → β) {rs : List α} {k : Nat} {s : α} (hs : rs[k]? = some s) : (rs.take (k + 1)).map g = (rs.take k).map g ++ [g s] := by
  have hlt : k < rs.length := by
    rcases Nat.lt_or_ge k rs.length with h | h
    · exact h
    · rw [List.getElem?_eq_none h] at hs; cases hs
  rw [List.getElem?_eq_getElem hlt] at hs
  rw [List.take_succ_eq_append_getElem hlt, List.map_append, Option.some.inj hs]
  rfl

theorem cov_cut {rs : List S4} {j : Nat} {cut acut : Int} (n : Int) (hc : ∀ f c af ac, rs[j]? = some (f, c, af, ac) → CutOk c cut ∧ CutOk ac acut) : ∀ k, k ≤ rs.length → cov n ((cutTo rs j cut acut k).map msg) = cov n ((rs.take k).map msg) ∧ cov n ((cutTo rs j cut acut k).map ack) = cov n ((rs.take k).map ack)
  | 0, _ => ⟨rfl, rfl⟩
  | k + 1, hk => by
    obtain ⟨ih1, ih2⟩ := cov_cut n hc k (by omega)
    obtain ⟨f, c, af, ac, hs⟩ : ∃ f c af ac, rs[k]? = some (f, c, af, ac) := ⟨_, _, _, _, List.getElem?_eq_getElem (by omega)⟩
    rw [take_map_succ msg hs, take_map_succ ack hs, cov_snoc, cov_snoc]
    by_cases hj : k = j
    · obtain ⟨h1, h2⟩ := hc f c af ac (hj ▸ hs)
      rw [cutTo_at hs hj, List.map_append, List.map_append, List.map_append, List.map_append]
      simp only [List.map_cons, List.map_nil]
      rw [cov_snoc, cov_snoc, cov_snoc, cov_snoc, ih1, ih2]
      constructor
      · cases cov n ((rs.take k).map msg) with
        | none => rfl
        | some m => exact step_cut m f c cut h1.1 h1.2
      · cases cov n ((rs.take k).map ack) with
        | none => rfl
        | some m => exact step_cut m af ac acut h2.1 h2.2
    · rw [cutTo_other hs hj, List.map_append, List.map_append]
      simp only [List.map_cons, List.map_nil]
      rw [cov_snoc, cov_snoc, ih1, ih2]
      exact ⟨rfl, rfl⟩

theorem fit_cut {rs : List S4} {j : Nat} {cut acut : Int} (hF : ∀ s ∈ rs, Fit s) (hc : ∀ f c af ac, rs[j]? = some (f, c, af, ac) → CutOk c cut ∧ CutOk ac acut) : ∀ k, ∀ s ∈ cutTo rs j cut acut k, Fit s
  | 0, s, hs => absurd hs (by simp [cutTo])
  | k + 1, s, hs => by
    cases hr : rs[k]? with
    | none => simp only [cutTo, hr] at hs; exact fit_cut hF hc k s hs
    | some x =>
      obtain ⟨f, c, af, ac⟩ := x
      have hx := hF _ (List.mem_of_getElem? hr)
      by_cases hj : k = j
      · obtain ⟨h1, h2⟩ := hc f c af ac (hj ▸ hr)
        rw [cutTo_at hr hj] at hs
        unfold Fit at hx
        unfold CutOk at h1 h2
        obtain ⟨t1, t2, t3, t4, t5, t6, t7, t8, t9, t10⟩ := hx
        simp only at t1 t2 t3 t4 t5 t6 t7 t8 t9 t10
        have t3' : f + cut ≤ 18446744073709551615 := by
          by_cases h : 0 < c
          · have := t3 h; omega
          · omega
        have t6' : af + acut ≤ 18446744073709551615 := by
          by_cases h : 0 < ac
          · have := t6 h; omega
          · omega
        rcases List.mem_append.1 hs with hs | hs
        · rcases List.mem_append.1 hs with hs | hs
          · exact fit_cut hF hc k s hs
          · rw [List.mem_singleton.1 hs]
            unfold Fit
            simp only
            omega
        · rw [List.mem_singleton.1 hs]
          unfold Fit
          simp only
          refine ⟨by omega, by omega, fun h => ?_, by omega, by omega, fun h => ?_, by omega, by omega, by omega, by omega⟩
          · have := t3 (by omega); omega
          · have := t6 (by omega); omega
      · rw [cutTo_other hr hj] at hs
        rcases List.mem_append.1 hs with hs | hs
        · exact fit_cut hF hc k s hs
        · rw [List.mem_singleton.1 hs]; exact hx

/-- Two queues beside each other. -/
def TQ (w : World) (B q1 q2 : Nat) (base last acked : Int) (r1 r2 : List S4) : Prop :=
  ∃ v1 v2, QI w B q1 base last acked v1 r1 ∧ QI w B q2 base last acked v2 r2 ∧ q1 ≠ q2 ∧ ∀ k, v1.ownBlock = some k → v2.ownBlock ≠ some k

theorem TQ.swap {w : World} {B q1 q2 : Nat} {base last acked : Int} {r1 r2 : List S4} (h : TQ w B q1 q2 base last acked r1 r2) : TQ w B q2 q1 base last acked r2 r1 := by
  obtain ⟨v1, v2, h1, h2, h3, h4⟩ := h
  exact ⟨v2, v1, h2, h1, fun e => h3 e.symm, fun k hk hk' => h4 k hk' hk⟩

theorem TQ.below {w w' : World} {B q1 q2 : Nat} {base last acked : Int} {r1 r2 : List S4} (h : TQ w B q1 q2 base last acked r1 r2) (hb : Below w.heap.size w w') : TQ w' B q1 q2 base last acked r1 r2 := by
  obtain ⟨v1, v2, h1, h2, h3, h4⟩ := h
  exact ⟨v1, v2, h1.below hb, h2.below hb, h3, h4⟩

theorem own_ne {w : World} {B n0 k : Nat} {v : Value} {xs : List Value} {t : TypeId} {cs : Array Value} (hown : w.ownsRow B 94 10 v n0 xs) (hk : w.heap[k]? = some (.cells cs t (0, 0))) (ht : t ≠ 94) : some k ≠ v.ownBlock := by
  intro h
  rcases hown.2 with ⟨rfl, _⟩ | ⟨g, cap, cur, rfl, _, hg, _⟩
  · cases h
  · simp only [Value.ownBlock, Option.some.injEq] at h
    subst h
    rw [hk] at hg
    simp at hg
    exact ht hg.2

theorem own_type {w : World} {B n0 k : Nat} {v : Value} {xs : List Value} (hown : w.ownsRow B 94 10 v n0 xs) (hk : v.ownBlock = some k) : ∃ cs, w.heap[k]? = some (.cells cs 94 (0, 0)) := by
  rcases hown.2 with ⟨rfl, _⟩ | ⟨g, cap, cur, rfl, _, hg, _⟩
  · cases hk
  · simp only [Value.ownBlock, Option.some.injEq] at hk
    subst hk
    exact ⟨cur, hg⟩

/-- One span more on the first queue. -/
theorem tq_add {w w' : World} {B q1 q2 : Nat} {base last acked : Int} {r1 r2 : List S4} {s : S4} {v1 v2 : Value} (h1 : QI w B q1 base last acked v1 r1) (h2 : QI w B q2 base last acked v2 r2) (hne : q1 ≠ q2) (hdis : ∀ k, v1.ownBlock = some k → v2.ownBlock ≠ some k)
    (hA : Added w B q1 base last acked v1 r1 s w') : TQ w' B q1 q2 base last acked (r1 ++ [s]) r2 ∧ Below B w w' ∧ ∀ (k : Nat) (C : Array Value), w.heap[k]? = some (Obj.cells C 48 (0, 0)) → w'.heap[k]? = some (Obj.cells C 48 (0, 0)) := by
  obtain ⟨g, cap, hQ, hg, hG⟩ := hA
  obtain ⟨cs1, hq1, _⟩ := h1.blk
  obtain ⟨cs2, hq2, _⟩ := h2.blk
  refine ⟨⟨_, v2, hQ, h2.carry fun k hk hor => ?_, hne, ?_⟩, ?_, ?_⟩
  · refine hG.block k hk ?_ ?_
    · rcases hor with rfl | hor
      · exact fun e => hne e.symm
      · intro e
        obtain ⟨cs, hc⟩ := own_type h2.own hor
        subst e
        rw [hq1] at hc
        simp at hc
    · rcases hor with rfl | hor
      · exact own_ne h1.own hq2 (by decide)
      · exact fun e => hdis k e.symm hor
  · intro k hk hk'
    simp only [Value.ownBlock, Option.some.injEq] at hk
    subst hk
    rcases hg with hg | hg
    · exact hdis g hg hk'
    · have := (h2.own.lt g hk').2
      omega
  · have l1 := h1.low
    have lz : B ≤ w.heap.size := Nat.le_trans l1 (Nat.le_of_lt (lt_of_block hq1))
    refine ⟨hG.os, hG.tape, hG.output, hG.size, fun k hk => hG.block k (by omega) (by omega) ?_⟩
    intro e
    have := (h1.own.lt k e.symm).1
    omega
  · intro k C hk
    refine (hG.block k (lt_of_block hk) ?_ ?_).trans hk
    · intro e
      subst e
      rw [hq1] at hk
      simp at hk
    · exact own_ne h1.own hk (by decide)
end Go.Proofs.Qxb6614239a
