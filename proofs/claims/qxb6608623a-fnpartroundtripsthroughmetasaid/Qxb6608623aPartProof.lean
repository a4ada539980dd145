/-
  The row's step for 'Rows.FnPartRoundTripsThroughMetaSaid'; the walk lies in Qxb6608623aLawWalk.
-/
import Derived.Test.Qxb6608623aRows
import Derived.Test.Qxb6608623aLawWalk
import Derived.WalkKit
import Derived.ProofKit
import Derived.OpenShut
import Derived.ShutString
import Derived.Deep.Slices
namespace Go.Proofs.Qxb6608623a
open Go.ChangeShapes Go.WideShapes Go.ChangeAt Go.RowKit

theorem Try.cells69 : Try.prog.cellsOf 69 = 4 := by kernel_rfl
theorem Try.cells71 : Try.prog.cellsOf 71 = 2 := by kernel_rfl
theorem Try.cells5 : Try.prog.cellsOf 5 = 1 := by kernel_rfl
theorem Try.cells40 : Try.prog.cellsOf 40 = 13 := by kernel_rfl

theorem slice_of {H : Type} {enc : TypeId × Value → H} {W : World} {t e : TypeId} {v : Value} {fuel : Nat} {x : DataW H × List MemPlace} (ht : Try.prog.underlying t = some (.slice e))
    (h : DataW.trod enc Try.prog W 0 (fun _ => true) true fuel t [v] = some x) : ∃ a len cap, v = .slice a len cap := by
  rcases Go.Deep.open_slice ht h with ⟨hcs, _⟩ | ⟨ad, len, cap, m, n, D, Pl, hcs, _⟩
  · exact ⟨_, _, _, by simpa using hcs⟩
  · exact ⟨_, _, _, by simpa using hcs⟩

set_option maxRecDepth 100000 in
/-- FROM THE READING OF A SLICE OF MemberIn TO WHAT THE WALK ASKS. -/
theorem open_mems {H : Type} {enc : TypeId × Value → H} {W : World} {a : Option Addr} {len cap fuel : Nat} {x : DataW H × List MemPlace}
    (h : DataW.trod enc Try.prog W 0 (fun _ => true) true fuel 37 [.slice a len cap] = some x) : ∃ ms, Mems W a len ms ∧ OkM ms ∧ (a = none → len = 0) ∧ len ≤ maxLen := by
  rcases Go.Deep.open_slice Try.underlying37 h with ⟨hcs, _⟩ | ⟨ad, len', cap', m, n, D, Pl, hcs, _, hl, hm, hmm, _, hx⟩
  · simp at hcs
    obtain ⟨rfl, rfl, rfl⟩ := hcs
    exact ⟨[], ⟨rfl, by simp⟩, fun m hm => by simp at hm, fun _ => rfl, by simp⟩
  · simp at hcs
    obtain ⟨rfl, rfl, rfl⟩ := hcs
    simp only [if_true] at hmm
    subst hmm
    rw [Try.cells69] at hx
    have one : ∀ i, i < len → ∃ s : M4, (s.1.size ≤ maxLen ∧ s.2.2.1.size ≤ maxLen ∧ s.2.2.2.size ≤ maxLen) ∧ W.cell? (ad.add (i * 4)) = some (.string s.1) ∧ W.cell? (ad.add (i * 4 + 1)) = some (.int .u64 s.2.1) ∧ W.cell? (ad.add (i * 4 + 2)) = some (.string s.2.2.1) ∧ W.cell? (ad.add (i * 4 + 3)) = some (.string s.2.2.2) := by
      intro i hi
      obtain ⟨cs, h1, h2⟩ := hx i (by omega)
      obtain ⟨xs, f, _, _, hlen, hxl, hf⟩ := DataW.trod_struct Try.underlying69 h2
      rw [Try.cells69] at hlen
      obtain ⟨_, _, hcl⟩ := World.cells?_some h1
      match cs, hlen, xs, hxl with
      | [c0, c1, c2, c3], _, [x0, x1, x2, x3], _ =>
        have e9 : Try.prog.cellsOf 9 = 1 := by kernel_rfl
        have e23 : Try.prog.cellsOf 23 = 1 := by kernel_rfl
        have g0 : DataW.trod enc Try.prog W 0 (fun _ => true) true f 9 [c0] = some x0 := by simpa [e9, e23] using hf 0 _ rfl
        have g1 : DataW.trod enc Try.prog W 0 (fun _ => true) true f 23 [c1] = some x1 := by simpa [e9, e23] using hf 1 _ rfl
        have g2 : DataW.trod enc Try.prog W 0 (fun _ => true) true f 9 [c2] = some x2 := by simpa [e9, e23] using hf 2 _ rfl
        have g3 : DataW.trod enc Try.prog W 0 (fun _ => true) true f 9 [c3] = some x3 := by simpa [e9, e23] using hf 3 _ rfl
        obtain ⟨a0, ea, _, wa⟩ := DataW.trod_string Try.underlying9 g0
        obtain ⟨a1, eb, _, wb⟩ := DataW.trod_int Try.underlying23 g1
        obtain ⟨a2, ec, _, wc⟩ := DataW.trod_string Try.underlying9 g2
        obtain ⟨a3, ed, _, wd⟩ := DataW.trod_string Try.underlying9 g3
        simp at ea eb ec ed
        subst ea; subst eb; subst ec; subst ed
        have k0 := hcl 0 (by omega)
        have k1 := hcl 1 (by omega)
        have k2 := hcl 2 (by omega)
        have k3 := hcl 3 (by omega)
        rw [Addr.add_add] at k0 k1 k2 k3
        refine ⟨(a0, a1, a2, a3), ⟨wa, wc, wd⟩, ?_, ?_, ?_, ?_⟩
        · simpa using k0
        · simpa using k1
        · simpa using k2
        · simpa using k3
    obtain ⟨F, hF⟩ := Go.Deep.choose_lt (α := M4) one
    refine ⟨(List.range len).map F, ⟨by simp, fun hpos => ?_⟩, ?_, fun h => by simp at h, by omega⟩
    · obtain ⟨b, off, spot⟩ := ad
      have hspot : spot = none := by simpa [Addr.add] using World.cell?_spot (hF 0 hpos).2.1
      subst hspot
      refine ⟨b, off, rfl, fun i h => ?_⟩
      have hi : i < len := by simpa using h
      have := (hF i hi).2
      rw [add_plain, add_plain, add_plain, add_plain, ← Nat.add_assoc, ← Nat.add_assoc, ← Nat.add_assoc] at this
      simpa using this
    · intro r hr
      simp at hr
      obtain ⟨i, hi, rfl⟩ := hr
      exact (hF i hi).1

set_option maxRecDepth 100000 in
/-- .. OF A SLICE OF RejoinIn. -/
theorem open_rejs {H : Type} {enc : TypeId × Value → H} {W : World} {a : Option Addr} {len cap fuel : Nat} {x : DataW H × List MemPlace}
    (h : DataW.trod enc Try.prog W 0 (fun _ => true) true fuel 38 [.slice a len cap] = some x) : ∃ rs, Rejs W a len rs ∧ OkR rs ∧ len ≤ maxLen := by
  rcases Go.Deep.open_slice Try.underlying38 h with ⟨hcs, _⟩ | ⟨ad, len', cap', m, n, D, Pl, hcs, _, hl, hm, hmm, _, hx⟩
  · simp at hcs
    obtain ⟨rfl, rfl, rfl⟩ := hcs
    exact ⟨[], ⟨rfl, by simp⟩, fun m hm => by simp at hm, by simp⟩
  · simp at hcs
    obtain ⟨rfl, rfl, rfl⟩ := hcs
    simp only [if_true] at hmm
    subst hmm
    rw [Try.cells71] at hx
    have one : ∀ i, i < len → ∃ r : ByteArray × Int, (r.1.size ≤ maxLen ∧ (Lit.int .u64 r.2).wf = true) ∧ W.cell? (ad.add (i * 2)) = some (.string r.1) ∧ W.cell? (ad.add (i * 2 + 1)) = some (.int .u64 r.2) := by
      intro i hi
      obtain ⟨cs, h1, h2⟩ := hx i (by omega)
      obtain ⟨xs, f, _, _, hlen, hxl, hf⟩ := DataW.trod_struct Try.underlying71 h2
      rw [Try.cells71] at hlen
      obtain ⟨_, _, hcl⟩ := World.cells?_some h1
      match cs, hlen, xs, hxl with
      | [c0, c1], _, [x0, x1], _ =>
        have e9 : Try.prog.cellsOf 9 = 1 := by kernel_rfl
        have e23 : Try.prog.cellsOf 23 = 1 := by kernel_rfl
        have g0 : DataW.trod enc Try.prog W 0 (fun _ => true) true f 9 [c0] = some x0 := by simpa [e9, e23] using hf 0 _ rfl
        have g1 : DataW.trod enc Try.prog W 0 (fun _ => true) true f 23 [c1] = some x1 := by simpa [e9, e23] using hf 1 _ rfl
        obtain ⟨a0, ea, _, wa⟩ := DataW.trod_string Try.underlying9 g0
        obtain ⟨a1, eb, _, wb⟩ := DataW.trod_int Try.underlying23 g1
        simp at ea eb
        subst ea; subst eb
        have k0 := hcl 0 (by omega)
        have k1 := hcl 1 (by omega)
        rw [Addr.add_add] at k0 k1
        refine ⟨(a0, a1), ⟨wa, wb⟩, ?_, ?_⟩
        · simpa using k0
        · simpa using k1
    obtain ⟨F, hF⟩ := Go.Deep.choose_lt (α := ByteArray × Int) one
    refine ⟨(List.range len).map F, ⟨by simp, fun hpos => ?_⟩, ?_, by omega⟩
    · obtain ⟨b, off, spot⟩ := ad
      have hspot : spot = none := by simpa [Addr.add] using World.cell?_spot (hF 0 hpos).2.1
      subst hspot
      refine ⟨b, off, rfl, fun i h => ?_⟩
      have hi : i < len := by simpa using h
      have := (hF i hi).2
      rw [add_plain, add_plain, ← Nat.add_assoc] at this
      simpa using this
    · intro r hr
      simp at hr
      obtain ⟨i, hi, rfl⟩ := hr
      exact (hF i hi).1

set_option maxRecDepth 100000 in
/-- .. OF A SLICE OF BYTES. -/
theorem open_byts {H : Type} {enc : TypeId × Value → H} {W : World} {a : Option Addr} {len cap fuel : Nat} {x : DataW H × List MemPlace}
    (h : DataW.trod enc Try.prog W 0 (fun _ => true) true fuel 41 [.slice a len cap] = some x) : ∃ zs, Byts W a len zs ∧ (a = none → len = 0) ∧ len ≤ maxLen := by
  rcases Go.Deep.open_slice Try.underlying41 h with ⟨hcs, _⟩ | ⟨ad, len', cap', m, n, D, Pl, hcs, _, hl, hm, hmm, _, hx⟩
  · simp at hcs
    obtain ⟨rfl, rfl, rfl⟩ := hcs
    exact ⟨[], ⟨rfl, by simp⟩, fun _ => rfl, by simp⟩
  · simp at hcs
    obtain ⟨rfl, rfl, rfl⟩ := hcs
    simp only [if_true] at hmm
    subst hmm
    rw [Try.cells5] at hx
    have one : ∀ i, i < len → ∃ z : Int, W.cell? (ad.add (i * 1)) = some (.int .u8 z) := by
      intro i hi
      obtain ⟨cs, h1, h2⟩ := hx i (by omega)
      obtain ⟨_, hlen, hcl⟩ := World.cells?_some h1
      obtain ⟨a0, rfl, _, wa⟩ := DataW.trod_int Try.underlying5 h2
      have k0 := hcl 0 (by omega)
      rw [Addr.add_add] at k0
      refine ⟨a0, ?_⟩
      simpa using k0
    obtain ⟨F, hF⟩ := Go.Deep.choose_lt (α := Int) one
    refine ⟨(List.range len).map F, ⟨by simp, fun hpos => ?_⟩, fun h => by simp at h, by omega⟩
    obtain ⟨b, off, spot⟩ := ad
    have hspot : spot = none := by simpa [Addr.add] using World.cell?_spot (hF 0 hpos)
    subst hspot
    refine ⟨b, off, rfl, fun i h => ?_⟩
    have hi : i < len := by simpa using h
    have := hF i hi
    rw [add_plain] at this
    simpa using this

/-- WHAT THE WALK ASKS OF A MetaIn. -/
def MetaOk (W : World) (v : Value) : Prop :=
  ∃ (sl er p1 p2 j1 j2 fr sz cl : Int) (hj : Bool) (ma ja ra : Option Addr) (ml mc jl jc rl rc : Nat) (ms js : List M4) (rs : List (ByteArray × Int)), v = .agg #[.int .u64 sl, .int .u64 er, .slice ma ml mc, .int .u64 p1, .int .u64 p2, .bool hj, .slice ja jl jc, .int .u64 j1, .int .u64 j2, .int .u64 fr, .int .u64 sz, .slice ra rl rc, .int .u64 cl] ∧ Mems W ma ml ms ∧ Mems W ja jl js ∧ Rejs W ra rl rs ∧ OkM ms ∧ OkM js ∧ OkR rs ∧ (ma = none → ml = 0) ∧ (ja = none → jl = 0) ∧ ml ≤ maxLen ∧ jl ≤ maxLen ∧ rl ≤ maxLen

set_option maxRecDepth 100000 in
theorem open_meta {H : Type} {enc : TypeId × Value → H} {W : World} {cs : Array Value} {fuel : Nat} {x : DataW H × List MemPlace}
    (h : DataW.trod enc Try.prog W 0 (fun _ => true) true fuel 40 cs.toList = some x) : MetaOk W (.agg cs) := by
  obtain ⟨xs, f, _, _, hlen, hxl, hf⟩ := DataW.trod_struct Try.underlying40 h
  rw [Try.cells40] at hlen
  obtain ⟨l⟩ := cs
  simp only at hlen hf
  match l, hlen, xs, hxl with
  | [c0, c1, c2, c3, c4, c5, c6, c7, c8, c9, c10, c11, c12], _, [x0, x1, x2, x3, x4, x5, x6, x7, x8, x9, x10, x11, x12], _ =>
    have e23 : Try.prog.cellsOf 23 = 1 := by kernel_rfl
    have e37 : Try.prog.cellsOf 37 = 1 := by kernel_rfl
    have e38 : Try.prog.cellsOf 38 = 1 := by kernel_rfl
    have e4 : Try.prog.cellsOf 4 = 1 := by kernel_rfl
    have g0 : DataW.trod enc Try.prog W 0 (fun _ => true) true f 23 [c0] = some x0 := by simpa [e23, e37, e38, e4] using hf 0 _ rfl
    have g1 : DataW.trod enc Try.prog W 0 (fun _ => true) true f 23 [c1] = some x1 := by simpa [e23, e37, e38, e4] using hf 1 _ rfl
    have g2 : DataW.trod enc Try.prog W 0 (fun _ => true) true f 37 [c2] = some x2 := by simpa [e23, e37, e38, e4] using hf 2 _ rfl
    have g3 : DataW.trod enc Try.prog W 0 (fun _ => true) true f 23 [c3] = some x3 := by simpa [e23, e37, e38, e4] using hf 3 _ rfl
    have g4 : DataW.trod enc Try.prog W 0 (fun _ => true) true f 23 [c4] = some x4 := by simpa [e23, e37, e38, e4] using hf 4 _ rfl
    have g5 : DataW.trod enc Try.prog W 0 (fun _ => true) true f 4 [c5] = some x5 := by simpa [e23, e37, e38, e4] using hf 5 _ rfl
    have g6 : DataW.trod enc Try.prog W 0 (fun _ => true) true f 37 [c6] = some x6 := by simpa [e23, e37, e38, e4] using hf 6 _ rfl
    have g7 : DataW.trod enc Try.prog W 0 (fun _ => true) true f 23 [c7] = some x7 := by simpa [e23, e37, e38, e4] using hf 7 _ rfl
    have g8 : DataW.trod enc Try.prog W 0 (fun _ => true) true f 23 [c8] = some x8 := by simpa [e23, e37, e38, e4] using hf 8 _ rfl
    have g9 : DataW.trod enc Try.prog W 0 (fun _ => true) true f 23 [c9] = some x9 := by simpa [e23, e37, e38, e4] using hf 9 _ rfl
    have g10 : DataW.trod enc Try.prog W 0 (fun _ => true) true f 23 [c10] = some x10 := by simpa [e23, e37, e38, e4] using hf 10 _ rfl
    have g11 : DataW.trod enc Try.prog W 0 (fun _ => true) true f 38 [c11] = some x11 := by simpa [e23, e37, e38, e4] using hf 11 _ rfl
    have g12 : DataW.trod enc Try.prog W 0 (fun _ => true) true f 23 [c12] = some x12 := by simpa [e23, e37, e38, e4] using hf 12 _ rfl
    obtain ⟨sl, q0, _, _⟩ := DataW.trod_int Try.underlying23 g0
    simp at q0
    subst q0
    obtain ⟨er, q1, _, _⟩ := DataW.trod_int Try.underlying23 g1
    simp at q1
    subst q1
    obtain ⟨ma, ml, mc, rfl⟩ := slice_of Try.underlying37 g2
    obtain ⟨ms, hm1, hm2, hm3, hm4⟩ := open_mems g2
    obtain ⟨p1, q3, _, _⟩ := DataW.trod_int Try.underlying23 g3
    simp at q3
    subst q3
    obtain ⟨p2, q4, _, _⟩ := DataW.trod_int Try.underlying23 g4
    simp at q4
    subst q4
    obtain ⟨hj, q5, _⟩ := DataW.trod_bool Try.underlying4 g5
    simp at q5
    subst q5
    obtain ⟨ja, jl, jc, rfl⟩ := slice_of Try.underlying37 g6
    obtain ⟨js, hj1, hj2, hj3, hj4⟩ := open_mems g6
    obtain ⟨j1, q7, _, _⟩ := DataW.trod_int Try.underlying23 g7
    simp at q7
    subst q7
    obtain ⟨j2, q8, _, _⟩ := DataW.trod_int Try.underlying23 g8
    simp at q8
    subst q8
    obtain ⟨fr, q9, _, _⟩ := DataW.trod_int Try.underlying23 g9
    simp at q9
    subst q9
    obtain ⟨sz, q10, _, _⟩ := DataW.trod_int Try.underlying23 g10
    simp at q10
    subst q10
    obtain ⟨ra, rl, rc, rfl⟩ := slice_of Try.underlying38 g11
    obtain ⟨rs, hr1, hr2, hr4⟩ := open_rejs g11
    obtain ⟨cl, q12, _, _⟩ := DataW.trod_int Try.underlying23 g12
    simp at q12
    subst q12
    exact ⟨sl, er, p1, p2, j1, j2, fr, sz, cl, hj, ma, ja, ra, ml, mc, jl, jc, rl, rc, ms, js, rs, rfl, hm1, hj1, hr1, hm2, hj2, hr2, hm3, hj3, hm4, hj4, hr4⟩

namespace fnPartRoundTripsThroughMeta
theorem own : ownKnob Try.prog.godebug = none := by kernel_rfl
theorem laidOut : laidOutB Try.prog = true := by kernel_rfl

set_option maxRecDepth 100000 in
theorem lifted (os : Os) (started : os.Started) (H : Type) (enc : TypeId × Value → H) :
    ReturnsInHanded {} Try.checked os 6 .any (Rows.fnPartRoundTripsThroughMetaSpec.pre6 enc Try.prog Try.f6 Rows.fnPartRoundTripsThroughMetaRow.domain false) (Rows.fnPartRoundTripsThroughMetaSpec.post enc Try.prog Try.f6 false true false false) := by
  refine returnsInHanded_of_change (C := Try.checked) own started (by kernel_rfl) Try.func6
    (ChangeSpec.witness6 (enc := enc) (C := Try.checked) false ⟨#[], #[.agg #[.int .u64 0, .int .u64 0, .slice none 0 0, .int .u64 0, .int .u64 0, .bool false, .slice none 0 0, .int .u64 0, .int .u64 0, .int .u64 0, .int .u64 0, .slice none 0 0, .int .u64 0], .int .u64 0, .slice none 0 0], []⟩ 8 (by kernel_rfl) (by kernel_rfl) (by kernel_rfl) (by kernel_rfl)) ?_
  intro W base args ds gs before hval0 hW hcnd _
  have hval : ∀ (j : Nat) t v, Try.f6.params[j]? = some t → args[j]? = some v → Value.okWide Try.prog W .any base t v := hval0
  have hW' := hW
  obtain ⟨p, q, hA0, hV, rfl, hfz, hnd⟩ := hW
  have hA : DataW.TrodAll enc Try.prog W 0 (fun _ => true) true Try.f6.params.toList args.toList ds p := hA0
  rw [Try.params6] at hA hval
  obtain ⟨v0, vs0, d0, ds0, pl0, q0, hargs, rfl, rfl, h0, r0⟩ := trodAll_cons hA
  obtain ⟨v1, vs1, d1, ds1, pl1, q1, rfl, rfl, rfl, h1, r1⟩ := trodAll_cons r0
  obtain ⟨v2, vs2, d2, ds2, pl2, q2, rfl, rfl, rfl, h2, r2⟩ := trodAll_cons r1
  obtain ⟨rfl, rfl, rfl⟩ := trodAll_nil r2
  obtain rfl : args = #[v0, v1, v2] := by cases args; simp_all
  obtain ⟨rfl, rfl⟩ := trodVars_none hV
  obtain ⟨cs0, rfl, _⟩ := okWide_struct Try.underlying40 (hval 0 40 v0 rfl rfl)
  have k0 := h0
  have lt0 : ∀ x ∈ pl0, x.block < W.heap.size := by obtain ⟨m, hm⟩ := k0; exact DataW.trod_lt m _ _ _ hm
  obtain ⟨sl, er, p1, p2, j1, j2, fr, sz, cl, hj, ma, ja, ra, ml, mc, jl, jc, rl, rc, ms, js, rs, hv0, hM, hJ, hR, hOM, hOJ, hOR, hnm, hnj, hl1, hl2, hl3⟩ : MetaOk W (.agg cs0) := by
    obtain ⟨fuel, hf⟩ := h0
    exact open_meta (by simpa [Value.cells] using hf)
  obtain ⟨a1, rfl, rfl, rfl, w1⟩ := open_int Try.underlying23 (hval 1 23 v1 rfl rfl) h1
  obtain ⟨a2, len2, cap2, rfl⟩ := okWide_slice Try.underlying41 (hval 2 41 v2 rfl rfl)
  have k2 := h2
  have lt2 : ∀ x ∈ pl2, x.block < W.heap.size := by obtain ⟨m, hm⟩ := k2; exact DataW.trod_lt m _ _ _ hm
  obtain ⟨zs, hB, hnd2, hl4⟩ : ∃ zs, Byts W a2 len2 zs ∧ (a2 = none → len2 = 0) ∧ len2 ≤ maxLen := by
    obtain ⟨fuel, hf⟩ := h2
    exact open_byts (by simpa [Value.cells] using hf)
  clear hA0 hval0 h0 h2
  rw [hv0] at hW' k0 hval ⊢
  refine (law6 sl er p1 p2 j1 j2 fr sz cl hj ma ja ra ml mc jl jc rl rc ms js rs a1 a2 len2 cap2 zs W hM hJ hR hB hOM hOJ hOR hnm hnj hnd2 hl1 hl2 hl3 hl4).mono fun e W' ⟨he, bel⟩ => ?_
  subst he
  exact ⟨_, rfl, _, _, _, [], _, [], hW', trodAll_mk1 (shut_bool Try.underlying4 _), (trodAll_cons_mk (Below.trod laidOut (by kernel_rfl) (of_decide_eq_true (by kernel_rfl)) k0 bel lt0) (trodAll_cons_mk (shut_int Try.underlying23 w1) (trodAll_cons_mk (Below.trod laidOut (by kernel_rfl) (of_decide_eq_true (by kernel_rfl)) k2 bel lt2) trodAll_mk0))), rfl, bel.frame _, fun h => by cases h⟩

theorem over : Rows.fnPartRoundTripsThroughMetaRow.holds Try.pinned (OpenSpec.ofChange Rows.fnPartRoundTripsThroughMetaSpec) :=
  OpenClaim.holds_of_wide 6 Try.f6 rfl rfl rfl rfl rfl rfl rfl ⟨rfl, rfl, rfl, rfl, rfl⟩ rfl rfl rfl rfl rfl (by kernel_rfl) Try.func6 (by kernel_rfl)
    (of_decide_eq_true (by kernel_rfl)) (by unfold Func.isWrapper; first | (rw [if_pos (by decide +kernel)]; kernel_rfl) | (rw [if_neg (by decide +kernel)]; exact ⟨rfl, rfl⟩))
    (fun os started H enc _ => lifted os started H enc)

/-- THE STATEMENT -/
theorem proved : Rows.FnPartRoundTripsThroughMetaSaid := over
end fnPartRoundTripsThroughMeta
end Go.Proofs.Qxb6608623a
