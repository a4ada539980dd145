/-
  The row's step for 'Rows.FnSpansCoverKeepsItsAnswerWhenASpanIsCutSaid'; the walk lies in Qxb6614239aLawWalk.
-/
import Derived.Test.Qxb6614239aRows
import Derived.Test.Qxb6614239aLawWalk
import Derived.WalkKit
import Derived.ProofKit
import Derived.OpenShut
import Derived.ShutString
import Derived.Deep.Slices
namespace Go.Proofs.Qxb6614239a
open Go.ChangeShapes Go.WideShapes Go.ChangeAt Go.RowKit

theorem Try.cells48 : Try.prog.cellsOf 48 = 4 := by kernel_rfl

set_option maxRecDepth 100000 in
/-- FROM THE READING OF A SLICE OF CoverSpan TO WHAT THE WALK ASKS. -/
theorem open_spans {H : Type} {enc : TypeId × Value → H} {W : World} {a : Option Addr} {len cap fuel : Nat} {x : DataW H × List MemPlace}
    (h : DataW.trod enc Try.prog W 0 (fun _ => true) true fuel 45 [.slice a len cap] = some x) : ∃ rs, Spns W a len rs ∧ (∀ s ∈ rs, RangeS s) ∧ len ≤ maxLen := by
  rcases Go.Deep.open_slice Try.underlying45 h with ⟨hcs, _⟩ | ⟨ad, len', cap', m, n, D, Pl, hcs, _, hl, hm, hmm, _, hx⟩
  · simp at hcs
    obtain ⟨rfl, rfl, rfl⟩ := hcs
    exact ⟨[], ⟨rfl, by simp⟩, by simp, by simp⟩
  · simp at hcs
    obtain ⟨rfl, rfl, rfl⟩ := hcs
    simp only [if_true] at hmm
    subst hmm
    rw [Try.cells48] at hx
    have one : ∀ i, i < len → ∃ s : S4, RangeS s ∧ W.cell? (ad.add (i * 4)) = some (.int .u64 s.1) ∧ W.cell? (ad.add (i * 4 + 1)) = some (.int .i64 s.2.1) ∧ W.cell? (ad.add (i * 4 + 2)) = some (.int .u64 s.2.2.1) ∧ W.cell? (ad.add (i * 4 + 3)) = some (.int .i64 s.2.2.2) := by
      intro i hi
      obtain ⟨cs, h1, h2⟩ := hx i (by omega)
      obtain ⟨xs, f, _, _, hlen, hxl, hf⟩ := DataW.trod_struct Try.underlying48 h2
      rw [Try.cells48] at hlen
      obtain ⟨_, _, hcl⟩ := World.cells?_some h1
      match cs, hlen, xs, hxl with
      | [c0, c1, c2, c3], _, [x0, x1, x2, x3], _ =>
        have e32 : Try.prog.cellsOf 32 = 1 := by kernel_rfl
        have e3 : Try.prog.cellsOf 3 = 1 := by kernel_rfl
        have g0 : DataW.trod enc Try.prog W 0 (fun _ => true) true f 32 [c0] = some x0 := by simpa [e32, e3] using hf 0 _ rfl
        have g1 : DataW.trod enc Try.prog W 0 (fun _ => true) true f 3 [c1] = some x1 := by simpa [e32, e3] using hf 1 _ rfl
        have g2 : DataW.trod enc Try.prog W 0 (fun _ => true) true f 32 [c2] = some x2 := by simpa [e32, e3] using hf 2 _ rfl
        have g3 : DataW.trod enc Try.prog W 0 (fun _ => true) true f 3 [c3] = some x3 := by simpa [e32, e3] using hf 3 _ rfl
        obtain ⟨a0, ea, _, wa⟩ := DataW.trod_int Try.underlying32 g0
        obtain ⟨a1, eb, _, wb⟩ := DataW.trod_int Try.underlying3 g1
        obtain ⟨a2, ec, _, wc⟩ := DataW.trod_int Try.underlying32 g2
        obtain ⟨a3, ed, _, wd⟩ := DataW.trod_int Try.underlying3 g3
        simp at ea eb ec ed
        subst ea; subst eb; subst ec; subst ed
        have ba := bounds_u64 wa
        have bb := bounds_i64 wb
        have bc := bounds_u64 wc
        have bd := bounds_i64 wd
        have k0 := hcl 0 (by omega)
        have k1 := hcl 1 (by omega)
        have k2 := hcl 2 (by omega)
        have k3 := hcl 3 (by omega)
        rw [Addr.add_add] at k0 k1 k2 k3
        refine ⟨(a0, a1, a2, a3), ⟨ba.1, ba.2, bc.1, bc.2, bb.1, bb.2, bd.1, bd.2⟩, ?_, ?_, ?_, ?_⟩
        · simpa using k0
        · simpa using k1
        · simpa using k2
        · simpa using k3
    obtain ⟨F, hF⟩ := Go.Deep.choose_lt (α := S4) one
    refine ⟨(List.range len).map F, ⟨by simp, fun hpos => ?_⟩, ?_, by omega⟩
    · obtain ⟨b, off, spot⟩ := ad
      have hspot : spot = none := by simpa [Addr.add] using World.cell?_spot (hF 0 hpos).2.1
      subst hspot
      refine ⟨b, off, rfl, fun i h => ?_⟩
      have hi : i < len := by simpa using h
      have := (hF i hi).2
      rw [add_plain, add_plain, add_plain, add_plain, ← Nat.add_assoc, ← Nat.add_assoc, ← Nat.add_assoc] at this
      simpa using this
    · intro r hr
      simp at hr
      obtain ⟨i, hi, rfl⟩ := hr
      exact (hF i hi).1

namespace fnSpansCoverKeepsItsAnswerWhenASpanIsCut
theorem own : ownKnob Try.prog.godebug = none := by kernel_rfl
theorem laidOut : laidOutB Try.prog = true := by kernel_rfl

set_option maxRecDepth 100000 in
theorem lifted (os : Os) (started : os.Started) (H : Type) (enc : TypeId × Value → H) :
    ReturnsInHanded {} Try.checked os 7 .any (Rows.fnSpansCoverKeepsItsAnswerWhenASpanIsCutSpec.pre6 enc Try.prog Try.f7 Rows.fnSpansCoverKeepsItsAnswerWhenASpanIsCutRow.domain false) (Rows.fnSpansCoverKeepsItsAnswerWhenASpanIsCutSpec.post enc Try.prog Try.f7 false true false false) := by
  refine returnsInHanded_of_change (C := Try.checked) own started (by kernel_rfl) Try.func7
    (ChangeSpec.witness6 (enc := enc) (C := Try.checked) false ⟨#[], #[.int .u64 0, .int .u64 0, .int .i64 0, .slice none 0 0, .int .i64 0, .int .i64 0, .int .i64 0], []⟩ 8 (by kernel_rfl) (by kernel_rfl) (by kernel_rfl) (by kernel_rfl)) ?_
  intro W base args ds gs before hval0 hW hcnd _
  have hval : ∀ (j : Nat) t v, Try.f7.params[j]? = some t → args[j]? = some v → Value.okWide Try.prog W .any base t v := hval0
  have hW' := hW
  obtain ⟨p, q, hA0, hV, rfl, hfz, hnd⟩ := hW
  have hA : DataW.TrodAll enc Try.prog W 0 (fun _ => true) true Try.f7.params.toList args.toList ds p := hA0
  rw [Try.params7] at hA hval
  obtain ⟨v0, vs0, d0, ds0, p0, q0, hargs, rfl, rfl, h0, r0⟩ := trodAll_cons hA
  obtain ⟨v1, vs1, d1, ds1, p1, q1, rfl, rfl, rfl, h1, r1⟩ := trodAll_cons r0
  obtain ⟨v2, vs2, d2, ds2, p2, q2, rfl, rfl, rfl, h2, r2⟩ := trodAll_cons r1
  obtain ⟨v3, vs3, d3, ds3, p3, q3, rfl, rfl, rfl, h3, r3⟩ := trodAll_cons r2
  obtain ⟨v4, vs4, d4, ds4, p4, q4, rfl, rfl, rfl, h4, r4⟩ := trodAll_cons r3
  obtain ⟨v5, vs5, d5, ds5, p5, q5, rfl, rfl, rfl, h5, r5⟩ := trodAll_cons r4
  obtain ⟨v6, vs6, d6, ds6, p6, q6, rfl, rfl, rfl, h6, r6⟩ := trodAll_cons r5
  obtain ⟨rfl, rfl, rfl⟩ := trodAll_nil r6
  obtain rfl : args = #[v0, v1, v2, v3, v4, v5, v6] := by cases args; simp_all
  obtain ⟨rfl, rfl⟩ := trodVars_none hV
  obtain ⟨a0, rfl, rfl, rfl, w0⟩ := open_int Try.underlying32 (hval 0 32 v0 rfl rfl) h0
  obtain ⟨a1, rfl, rfl, rfl, w1⟩ := open_int Try.underlying32 (hval 1 32 v1 rfl rfl) h1
  obtain ⟨a2, rfl, rfl, rfl, w2⟩ := open_int Try.underlying3 (hval 2 3 v2 rfl rfl) h2
  obtain ⟨a3, len3, cap3, rfl⟩ := okWide_slice Try.underlying45 (hval 3 45 v3 rfl rfl)
  have k3 := h3
  have lt3 : ∀ x ∈ p3, x.block < W.heap.size := by obtain ⟨m, hm⟩ := k3; exact DataW.trod_lt m _ _ _ hm
  obtain ⟨rs, hS, hO, hlen⟩ : ∃ rs, Spns W a3 len3 rs ∧ (∀ s ∈ rs, RangeS s) ∧ len3 ≤ maxLen := by
    obtain ⟨fuel, hf⟩ := h3
    exact open_spans (by simpa [Value.cells] using hf)
  obtain ⟨a4, rfl, rfl, rfl, w4⟩ := open_int Try.underlying3 (hval 4 3 v4 rfl rfl) h4
  obtain ⟨a5, rfl, rfl, rfl, w5⟩ := open_int Try.underlying3 (hval 5 3 v5 rfl rfl) h5
  obtain ⟨a6, rfl, rfl, rfl, w6⟩ := open_int Try.underlying3 (hval 6 3 v6 rfl rfl) h6
  clear hA0 hval0
  have b0 := bounds_u64 w0
  have b1 := bounds_u64 w1
  have b2 := bounds_i64 w2
  have b4 := bounds_i64 w4
  have b5 := bounds_i64 w5
  have b6 := bounds_i64 w6
  refine (law_walk a0 a1 a2 a4 a5 a6 a3 len3 cap3 rs W hS hO hlen b0.1 b0.2 b1.1 b1.2 b2.1 b2.2 b4.1 b4.2 b5.1 b5.2 b6.1 b6.2).mono fun e W' ⟨he, bel⟩ => ?_
  subst he
  exact ⟨_, rfl, _, _, _, [], _, [], hW', trodAll_mk1 (shut_bool Try.underlying4 _), (trodAll_cons_mk (shut_int Try.underlying32 w0) (trodAll_cons_mk (shut_int Try.underlying32 w1) (trodAll_cons_mk (shut_int Try.underlying3 w2) (trodAll_cons_mk (Below.trod laidOut (by kernel_rfl) (of_decide_eq_true (by kernel_rfl)) k3 bel lt3) (trodAll_cons_mk (shut_int Try.underlying3 w4) (trodAll_cons_mk (shut_int Try.underlying3 w5) (trodAll_cons_mk (shut_int Try.underlying3 w6) trodAll_mk0))))))), rfl, bel.frame _, fun h => by cases h⟩

theorem over : Rows.fnSpansCoverKeepsItsAnswerWhenASpanIsCutRow.holds Try.pinned (OpenSpec.ofChange Rows.fnSpansCoverKeepsItsAnswerWhenASpanIsCutSpec) :=
  OpenClaim.holds_of_wide 7 Try.f7 rfl rfl rfl rfl rfl rfl rfl ⟨rfl, rfl, rfl, rfl, rfl⟩ rfl rfl rfl rfl rfl (by kernel_rfl) Try.func7 (by kernel_rfl)
    (of_decide_eq_true (by kernel_rfl)) (by unfold Func.isWrapper; first | (rw [if_pos (by decide +kernel)]; kernel_rfl) | (rw [if_neg (by decide +kernel)]; exact ⟨rfl, rfl⟩))
    (fun os started H enc _ => lifted os started H enc)

/-- THE STATEMENT -/
theorem proved : Rows.FnSpansCoverKeepsItsAnswerWhenASpanIsCutSaid := over
end fnSpansCoverKeepsItsAnswerWhenASpanIsCut
end Go.Proofs.Qxb6614239a
