/-
  toMembersRB1 (42) and sameMembersRB1 (43).
-/
import Derived.Test.Qxb6608623aByteWalks
import Derived.BigRegion
import Derived.RegionTactic
import Derived.Deep.RegionHeld
namespace Go.Proofs.Qxb6608623a
open Go.RowKit

theorem Try.info92 : (Try.prog.info? 92).map (fun i => (i.zero, i.size, i.bytes)) = some (some (.agg #[.string ⟨#[]⟩, .int .u64 0, .string ⟨#[]⟩, .string ⟨#[]⟩]), 4, 56) := by kernel_rfl

theorem eqnil37 (w : World) (a : Option Addr) (n c : Nat) : (binOp .eql 37 (.slice a n c) (.slice none 0 0)).run Try.prog w = .ok (.bool a.isNone) w :=
  Lib.run_eql_slice_nil w 37 69 a n c 0 0 Try.underlying37
theorem eqnil47 (w : World) (a : Option Addr) (n c : Nat) : (binOp .eql 47 (.slice a n c) (.slice none 0 0)).run Try.prog w = .ok (.bool a.isNone) w :=
  Lib.run_eql_slice_nil w 47 92 a n c 0 0 Try.underlying47

/-- The four cells of a member; the flat row of all. -/
def cells4 (m : M4) : List Value := [.string m.1, .int .u64 m.2.1, .string m.2.2.1, .string m.2.2.2]
def flatAt (ms : List M4) (i : Nat) : Value := (ms.flatMap cells4)[i]?.getD .nilIface

theorem flat4 : ∀ (ms : List M4) (i : Nat) (m : M4) (_ : ms[i]? = some m) (j : Nat) (_ : j < 4), (ms.flatMap cells4)[i * 4 + j]? = (cells4 m)[j]?
  | x :: ms, 0, m, h, j, hj => by
    obtain rfl : x = m := by simpa using h
    rw [List.flatMap_cons, List.getElem?_append_left (by simp [cells4]; omega)]
    simp
  | x :: ms, i + 1, m, h, j, hj => by
    rw [List.flatMap_cons, List.getElem?_append_right (by simp [cells4]; omega)]
    have e : (i + 1) * 4 + j - (cells4 x).length = i * 4 + j := by simp [cells4]; omega
    rw [e, flat4 ms i m (by simpa using h) j hj]
  | [], _, _, h, _, _ => by simp at h

theorem flatAt_eq {ms : List M4} {k : Nat} {s1 s2 s3 : ByteArray} {n : Int} (h : ms[k]? = some (s1, n, s2, s3)) : flatAt ms (k * 4) = .string s1 ∧ flatAt ms (k * 4 + 1) = .int .u64 n ∧ flatAt ms (k * 4 + 2) = .string s2 ∧ flatAt ms (k * 4 + 3) = .string s3 := by
  have f := flat4 ms k _ h
  refine ⟨?_, ?_, ?_, ?_⟩
  · have := f 0 (by omega); simp only [Nat.add_zero] at this; simp [flatAt, this, cells4]
  · have := f 1 (by omega); simp [flatAt, this, cells4]
  · have := f 2 (by omega); simp [flatAt, this, cells4]
  · have := f 3 (by omega); simp [flatAt, this, cells4]

/-- A store into another block turns no member. -/
theorem Mems.setCell {w : World} {a : Option Addr} {len : Nat} {ms : List M4} (h : Mems w a len ms) (x : Addr) (u : Value) (hne : 0 < len → ∀ b off, a = some ⟨b, off, none⟩ → b ≠ x.block) : Mems (w.setCell x u) a len ms := by
  refine ⟨h.len_eq, fun hp => ?_⟩
  obtain ⟨b, off, ha, hc⟩ := h.cells hp
  have hb := hne hp b off ha
  have e : ∀ o, (w.setCell x u).cell? ⟨b, o, none⟩ = w.cell? ⟨b, o, none⟩ := fun o => World.cell?_of_block (heap_setCell_other w x b u hb)
  refine ⟨b, off, ha, fun i hi => ?_⟩
  rw [e, e, e, e]
  exact hc i hi

/-- What toMembersRB1 leaves: nil of nil; else new memory that reads alike. -/
def CopiedM (w : World) (a : Option Addr) (len : Nat) (ms : List M4) (e : Ending) (w' : World) : Prop :=
  ∃ ra rc, e = .returned (.slice ra len rc) ∧ (ra = none ↔ a = none) ∧ Mems w' ra len ms ∧ (∀ b off, ra = some ⟨b, off, none⟩ → w.heap.size ≤ b) ∧ Below w.heap.size w w'

theorem CopiedM.intro {w w' : World} {a : Option Addr} {len : Nat} {ms : List M4} {e : Ending} (ra : Option Addr) (rc : Nat) (he : e = .returned (.slice ra len rc)) (h1 : ra = none ↔ a = none) (h2 : Mems w' ra len ms) (h4 : ∀ b off, ra = some ⟨b, off, none⟩ → w.heap.size ≤ b) (h3 : Below w.heap.size w w') : CopiedM w a len ms e w' := ⟨ra, rc, he, h1, h2, h4, h3⟩

theorem mems_of_fil {w : World} {g len : Nat} {ms : List M4} (hl : ms.length = len) (h : Fil w g 92 (len * 4) (len * 4) (flatAt ms)) : Mems w (some ⟨g, 0, none⟩) len ms := by
  refine ⟨hl, fun _ => ⟨g, 0, rfl, fun i hi => ?_⟩⟩
  obtain ⟨e0, e1, e2, e3⟩ := flatAt_eq (ms := ms) (k := i) (s1 := ms[i].1) (n := ms[i].2.1) (s2 := ms[i].2.2.1) (s3 := ms[i].2.2.2) (by rw [List.getElem?_eq_getElem hi])
  simp only [Nat.zero_add]
  exact ⟨e0 ▸ h.cell (i * 4) (by omega), e1 ▸ h.cell (i * 4 + 1) (by omega), e2 ▸ h.cell (i * 4 + 2) (by omega), e3 ▸ h.cell (i * 4 + 3) (by omega)⟩

theorem fil4 {wr : World} {g len k : Nat} {ms : List M4} {s1 s2 s3 : ByteArray} {n : Int} (h : Fil wr g 92 (len * 4) (k * 4) (flatAt ms)) (hk : ms[k]? = some (s1, n, s2, s3)) (hlt : k < len) :
    Fil ((((wr.setCell ⟨g, k * 4, none⟩ (.string s1)).setCell ⟨g, k * 4 + 1, none⟩ (.int .u64 n)).setCell ⟨g, k * 4 + 2, none⟩ (.string s2)).setCell ⟨g, k * 4 + 3, none⟩ (.string s3)).drew g 92 (len * 4) ((k + 1) * 4) (flatAt ms) := by
  obtain ⟨e0, e1, e2, e3⟩ := flatAt_eq hk
  have h0 := h.store (by omega)
  rw [e0] at h0
  have h1 := h0.store (by omega)
  rw [e1] at h1
  have h2 := h1.store (by omega)
  rw [e2] at h2
  have h3 := h2.store (by omega)
  rw [e3] at h3
  have e : (k + 1) * 4 = k * 4 + 1 + 1 + 1 + 1 := by omega
  rw [e]
  exact h3

set_option maxHeartbeats 8000000 in
theorem to42 (a : Option Addr) (len cap : Nat) (ms : List M4) (w : World) (hM : Mems w a len ms) (hn : a = none → len = 0) (hl : len ≤ 1048576) :
    Calls Try.prog 42 #[.slice a len cap] w fun e w' => CopiedM w a len ms e w' := by
  cases a with
  | none =>
    obtain rfl := hn rfl
    have hq := eqnil37
    go_enter Try.func42, Try.ntmps42
    go_wp2
    go_ret
    exact CopiedM.intro none 0 rfl Iff.rfl hM (fun b off h => by cases h) (Below.refl _ _)
  | some x =>
    obtain ⟨i5, hi, hz0, hz1, hz2⟩ := info_parts Try.info92
    have hq := eqnil37
    go_enter Try.func42, Try.ntmps42
    go_wp2_with (at_make; refine wpList_make_full _ rfl (.tmp 8) (.tmp 8) 47 rfl w.heap.size 92 i5 _ 4 Try.underlying47 hi hz0 hz1 .i64 .i64 _ _ len rfl rfl rfl rfl (by rw [hz2]; omega) (by unfold maxLen; omega) (Nat.le_refl _) ?_; intro w1 own1 grow1)
    have FK := Fil.of_owns own1 (flatAt ms)
    have hb1 : Below w.heap.size w w1 := (Below.refl _ _).grown grow1 (Nat.le_refl _) (fun k h => by cases h)
    clear own1 grow1
    go_loopw [4] (fun i wr => ∃ k : Nat, k ≤ len ∧ i = .int .i64 k ∧ Fil wr w.heap.size 92 (len * 4) (k * 4) (flatAt ms) ∧ Below w.heap.size w wr) (fun i _ => len - (intOf i).toNat)
    case atStart => exact ⟨0, Nat.zero_le _, rfl, by simpa using FK, hb1⟩
    case round =>
      obtain ⟨k, hk, rfl, FKr, hbr⟩ := hrel
      clear FK hb1
      by_cases hlt : k < len
      · obtain ⟨b, off, s1, n, s2, s3, he, hmk, c0, c1, c2, c3⟩ := hM.at hlt
        obtain rfl := Option.some.inj he
        have hbw : b < w.heap.size := World.block_lt_of_cell? _ _ c0
        have hb1 : b ≠ w.heap.size := by omega
        replace c0 := cell_later hbr c0
        replace c1 := cell_later hbr c1
        replace c2 := cell_later hbr c2
        replace c3 := cell_later hbr c3
        obtain ⟨u0, g0⟩ := FKr.there (k * 4) (by omega)
        obtain ⟨u1, g1⟩ := FKr.there (k * 4 + 1) (by omega)
        obtain ⟨u2, g2⟩ := FKr.there (k * 4 + 2) (by omega)
        obtain ⟨u3, g3⟩ := FKr.there (k * 4 + 3) (by omega)
        have f0 := FKr.free (k * 4)
        have f1 := FKr.free (k * 4 + 1)
        have f2 := FKr.free (k * 4 + 2)
        have f3 := FKr.free (k * 4 + 3)
        have HF : Hid _ := FKr
        have HK : Hid _ := hmk
        clear FKr hmk hM hn he
        go_wp2
        go_region
        all_goals go_wp2
        all_goals go_roundw
        case rel => exact ⟨k + 1, by omega, by go_num, fil4 HF.out HK.out (by omega), ((((hbr.setCell (Nat.le_refl _) _).setCell (Nat.le_refl _) _).setCell (Nat.le_refl _) _).setCell (Nat.le_refl _) _).drew⟩
        case measure => simp [intOf]; omega
      · have hke : k = len := by omega
        subst hke
        have HF : Hid _ := FKr
        clear FKr
        go_wp2
        go_ret
        exact CopiedM.intro _ _ rfl (by simp) (mems_of_fil hM.len_eq HF.out) (fun b off h => by cases h; exact Nat.le_refl _) hbr

set_option maxHeartbeats 8000000 in
/-- What sameMembersRB1 says of two slices that read alike. -/
theorem same43 (a b : Option Addr) (len ca cb : Nat) (ms : List M4) (w : World) (hA : Mems w a len ms) (hB : Mems w b len ms) (hab : a = none ↔ b = none) (hl : len ≤ 1048576) :
    Calls Try.prog 43 #[.slice a len ca, .slice b len cb] w fun e w' => e = .returned (.bool true) ∧ ∃ n, w' = w.drewN n := by
  have hq := eqnil37
  have hq' := eqnil47
  have hnn : a.isNone = b.isNone := by cases a <;> cases b <;> simp_all
  go_enter Try.func43, Try.ntmps43
  go_wp2
  go_loopw [5] (fun i wr => ∃ k : Nat, k ≤ len ∧ i = .int .i64 k ∧ ∃ n, wr = w.drewN n) (fun i _ => len - (intOf i).toNat)
  case atStart => exact ⟨0, Nat.zero_le _, rfl, 0, rfl⟩
  case round =>
    obtain ⟨k, hk, rfl, n, rfl⟩ := hrel
    by_cases hlt : k < len
    · obtain ⟨b1, o1, s1, n1, s2, s3, rfl, hz1, c0, c1, c2, c3⟩ := hA.at hlt
      obtain ⟨b2, o2, t1, n2, t2, t3, rfl, hz2, d0, d1, d2, d3⟩ := hB.at hlt
      rw [hz1] at hz2
      obtain ⟨rfl, rfl, rfl, rfl⟩ : s1 = t1 ∧ n1 = n2 ∧ s2 = t2 ∧ s3 = t3 := by simpa using hz2
      clear hA hB hz1 hz2 hab hnn
      go_wp2
      go_quiet (fail)
      go_wp2
      go_roundw
      case rel => exact ⟨k + 1, by omega, by go_num, _, rfl⟩
      case measure => simp [intOf]; omega
    · clear hA hB hab hnn
      go_wp2
      go_ret
      exact ⟨rfl, n, rfl⟩
end Go.Proofs.Qxb6608623a
