/-
  The row's step for 'Rows.FnReplayQueuePushScriptReadsBackSaid'; the walk lies in Qxb6605735aScriptWalk.
-/
import Derived.Test.Qxb6605735aRows
import Derived.Test.Qxb6605735aScriptWalk
import Derived.WalkKit
import Derived.ProofKit
import Derived.OpenShut
import Derived.ShutString
import Derived.Deep.Slices
namespace Go.Proofs.Qxb6605735a
open Go.ChangeShapes Go.WideShapes Go.ChangeAt Go.RowKit
open Go.ChangeMaps (open_string shut_string)

theorem Try.cells29 : Try.prog.cellsOf 29 = 2 := by kernel_rfl

/-- FROM THE READING OF A SLICE OF RECORDS TO WHAT THE WALK ASKS. -/
theorem open_recs {H : Type} {enc : TypeId × Value → H} {W : World} {a : Option Addr} {len cap fuel : Nat} {x : DataW H × List MemPlace}
    (h : DataW.trod enc Try.prog W 0 (fun _ => true) true fuel 26 [.slice a len cap] = some x) : ∃ rs, Recs W a len rs := by
  rcases Go.Deep.open_slice Try.underlying26 h with ⟨hcs, _⟩ | ⟨ad, len', cap', m, n, D, Pl, hcs, _, hl, hm, hmm, _, hx⟩
  · simp at hcs
    obtain ⟨rfl, rfl, rfl⟩ := hcs
    exact ⟨[], rfl, by simp, by simp, by simp⟩
  · simp at hcs
    obtain ⟨rfl, rfl, rfl⟩ := hcs
    simp only [if_true] at hmm
    subst hmm
    rw [Try.cells29] at hx
    have one : ∀ i, i < len → ∃ r : ByteArray × Int, (r.1.size ≤ maxLen ∧ -9223372036854775808 ≤ r.2 ∧ r.2 ≤ 9223372036854775807) ∧ W.cell? (ad.add (i * 2)) = some (.string r.1) ∧ W.cell? (ad.add (i * 2 + 1)) = some (.int .i64 r.2) := by
      intro i hi
      obtain ⟨cs, h1, h2⟩ := hx i (by omega)
      obtain ⟨y0, y1, f, _, hlen, g0, g1⟩ := trod_struct2 Try.underlying29 h2
      rw [Try.cells29] at hlen
      obtain ⟨_, _, hcl⟩ := World.cells?_some h1
      match cs, hlen with
      | [c0, c1], _ =>
        have e9 : Try.prog.cellsOf 9 = 1 := by kernel_rfl
        have e2 : Try.prog.cellsOf 2 = 1 := by kernel_rfl
        simp only [e9, e2] at g0 g1
        obtain ⟨k, ek, _, hk⟩ := DataW.trod_string Try.underlying9 g0
        obtain ⟨d, ed, _, hd⟩ := DataW.trod_int Try.underlying2 g1
        simp at ek ed
        subst ek; subst ed
        have b := bounds_i64 hd
        have c0 := hcl 0 (by omega)
        have c1 := hcl 1 (by omega)
        refine ⟨(k, d), ⟨hk, b.1, b.2⟩, ?_, ?_⟩
        · simpa [Addr.add] using c0
        · rw [Addr.add_add] at c1
          simpa using c1
    obtain ⟨F, hF⟩ := Go.Deep.choose_lt (α := ByteArray × Int) one
    refine ⟨(List.range len).map F, by simp, by omega, ?_, ?_⟩
    · intro r hr
      simp at hr
      obtain ⟨i, hi, rfl⟩ := hr
      exact (hF i hi).1
    · intro hpos
      obtain ⟨b, off, spot⟩ := ad
      have hspot : spot = none := by simpa [Addr.add] using World.cell?_spot (hF 0 hpos).2.1
      subst hspot
      refine ⟨b, off, rfl, fun i h => ?_⟩
      have hi : i < len := by simpa using h
      have := (hF i hi).2
      rw [add_plain, add_plain, ← Nat.add_assoc] at this
      simpa using this

namespace fnReplayQueuePushScriptReadsBack
theorem own : ownKnob Try.prog.godebug = none := by kernel_rfl
theorem laidOut : laidOutB Try.prog = true := by kernel_rfl

set_option maxRecDepth 100000 in
theorem lifted (os : Os) (started : os.Started) (H : Type) (enc : TypeId × Value → H) :
    ReturnsInHanded {} Try.checked os 6 .any (Rows.fnReplayQueuePushScriptReadsBackSpec.pre6 enc Try.prog Try.f6 Rows.fnReplayQueuePushScriptReadsBackRow.domain false) (Rows.fnReplayQueuePushScriptReadsBackSpec.post enc Try.prog Try.f6 false true false false) := by
  refine returnsInHanded_of_change (C := Try.checked) own started (by kernel_rfl) Try.func6
    (ChangeSpec.witness6 (enc := enc) (C := Try.checked) false ⟨#[], #[.slice none 0 0], []⟩ 8 (by kernel_rfl) (by kernel_rfl) (by kernel_rfl) (by kernel_rfl)) ?_
  intro W base args ds gs before hval0 hW hcnd _
  have hval : ∀ (j : Nat) t v, Try.f6.params[j]? = some t → args[j]? = some v → Value.okWide Try.prog W .any base t v := hval0
  have hW' := hW
  obtain ⟨p, q, hA0, hV, rfl, hfz, hnd⟩ := hW
  have hA : DataW.TrodAll enc Try.prog W 0 (fun _ => true) true Try.f6.params.toList args.toList ds p := hA0
  rw [Try.params6] at hA hval
  obtain ⟨v0, vs0, d0, ds0, p0, q0, hargs, rfl, rfl, h0, r0⟩ := trodAll_cons hA
  obtain ⟨rfl, rfl, rfl⟩ := trodAll_nil r0
  obtain rfl : args = #[v0] := by cases args; simp_all
  obtain ⟨rfl, rfl⟩ := trodVars_none hV
  obtain ⟨a0, len0, cap0, rfl⟩ := okWide_slice Try.underlying26 (hval 0 26 v0 rfl rfl)
  have k0 := h0
  have lt0 : ∀ x ∈ p0, x.block < W.heap.size := by obtain ⟨m, hm⟩ := k0; exact DataW.trod_lt m _ _ _ hm
  obtain ⟨rs, hR⟩ : ∃ rs, Recs W a0 len0 rs := by
    obtain ⟨fuel, hf⟩ := h0
    exact open_recs (by simpa [Value.cells] using hf)
  clear hA0 hval0
  refine (script_walk a0 len0 cap0 rs W hR).mono fun e W' ⟨he, bel⟩ => ?_
  subst he
  exact ⟨_, rfl, _, _, _, [], _, [], hW', trodAll_mk1 (shut_bool Try.underlying4 _), (trodAll_cons_mk (Below.trod laidOut (by kernel_rfl) (of_decide_eq_true (by kernel_rfl)) k0 bel lt0) trodAll_mk0), rfl, bel.frame _, fun h => by cases h⟩

theorem over : Rows.fnReplayQueuePushScriptReadsBackRow.holds Try.pinned (OpenSpec.ofChange Rows.fnReplayQueuePushScriptReadsBackSpec) :=
  OpenClaim.holds_of_wide 6 Try.f6 rfl rfl rfl rfl rfl rfl rfl ⟨rfl, rfl, rfl, rfl, rfl⟩ rfl rfl rfl rfl rfl (by kernel_rfl) Try.func6 (by kernel_rfl)
    (of_decide_eq_true (by kernel_rfl)) (by unfold Func.isWrapper; first | (rw [if_pos (by decide +kernel)]; kernel_rfl) | (rw [if_neg (by decide +kernel)]; exact ⟨rfl, rfl⟩))
    (fun os started H enc _ => lifted os started H enc)

/-- THE STATEMENT -/
theorem proved : Rows.FnReplayQueuePushScriptReadsBackSaid := over
end fnReplayQueuePushScriptReadsBack
end Go.Proofs.Qxb6605735a
