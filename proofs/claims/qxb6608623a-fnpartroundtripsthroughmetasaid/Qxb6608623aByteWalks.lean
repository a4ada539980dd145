/-
  copyBytesRB1 (17) and sameBytesRB1 (21).
-/
import Derived.Test.Qxb6608623aViews
import Derived.Deep.QuietTactic
import Derived.BigQuiet
import Derived.Deep.AppendLies
import Derived.Lib.LazyBuf
namespace Go.Proofs.Qxb6608623a
open Go.RowKit

theorem Try.info5 : (Try.prog.info? 5).map (fun i => (i.zero, i.size, i.bytes)) = some (some (.int .u8 0), 1, 1) := by kernel_rfl

/-- A row of m cells of the call's own whose first k cells hold f 0, f 1, .. -/
def Fil (w : World) (g : Nat) (t : TypeId) (m k : Nat) (f : Nat → Value) : Prop :=
  ∃ cs : Array Value, w.heap[g]? = some (.cells cs t (0, 0)) ∧ cs.size = m ∧ ∀ i, i < k → cs[i]? = some (f i)

theorem Fil.of_owns {w : World} {B g m sz : Nat} {t : TypeId} {xs : List Value} (h : w.ownsRow B t sz (.slice (some ⟨g, 0, none⟩) m m) m xs) (f : Nat → Value) : Fil w g t (m * sz) 0 f := by
  rcases h.2 with ⟨h, _⟩ | ⟨g', cap, cur, hv, _, hg, _, _, hs, _⟩
  · cases h
  · simp at hv
    obtain ⟨rfl, rfl⟩ := hv
    exact ⟨cur, hg, by omega, fun i hi => absurd hi (Nat.not_lt_zero _)⟩

theorem Fil.store {w : World} {g m k : Nat} {t : TypeId} {f : Nat → Value} (h : Fil w g t m k f) (hk : k < m) : Fil (w.setCell ⟨g, k, none⟩ (f k)) g t m (k + 1) f := by
  obtain ⟨cs, h1, h2, h3⟩ := h
  refine ⟨_, heap_setCell_same w g k cs t (f k) h1, by simpa using h2, fun i hi => ?_⟩
  by_cases e : i = k
  · subst e
    rw [Array.getElem?_setIfInBounds, if_pos rfl, if_pos (by omega)]
  · rw [Array.getElem?_setIfInBounds_ne (fun e' => e e'.symm)]
    exact h3 i (by omega)

theorem Fil.cell {w : World} {g m k : Nat} {t : TypeId} {f : Nat → Value} (h : Fil w g t m k f) (i : Nat) (hi : i < k) : w.cell? ⟨g, i, none⟩ = some (f i) := by
  obtain ⟨cs, h1, h2, h3⟩ := h
  rw [cell_of_row w g i cs t (0, 0) h1]
  exact h3 i hi

theorem Fil.there {w : World} {g m k : Nat} {t : TypeId} {f : Nat → Value} (h : Fil w g t m k f) (i : Nat) (hi : i < m) : ∃ u, w.cell? ⟨g, i, none⟩ = some u := by
  obtain ⟨cs, h1, h2, h3⟩ := h
  rw [cell_of_row w g i cs t (0, 0) h1]
  exact ⟨cs[i], Array.getElem?_eq_getElem (by omega)⟩

theorem Fil.free {w : World} {g m k : Nat} {t : TypeId} {f : Nat → Value} (h : Fil w g t m k f) (i : Nat) : w.frozen? ⟨g, i, none⟩ = false := by
  obtain ⟨cs, h1, h2, h3⟩ := h
  exact frozen_of_row w g i cs t h1

theorem eqnil41 (w : World) (a : Option Addr) (n c : Nat) : (binOp .eql 41 (.slice a n c) (.slice none 0 0)).run Try.prog w = .ok (.bool a.isNone) w :=
  Lib.run_eql_slice_nil w 41 5 a n c 0 0 Try.underlying41

/-- What copyBytesRB1 leaves: nil of nil; else new memory that reads alike. -/
def CopiedB (w : World) (a : Option Addr) (len : Nat) (zs : List Int) (e : Ending) (w' : World) : Prop :=
  ∃ ra rc, e = .returned (.slice ra len rc) ∧ (ra = none ↔ a = none) ∧ Byts w' ra len zs ∧ Below w.heap.size w w'

theorem CopiedB.intro {w w' : World} {a : Option Addr} {len : Nat} {zs : List Int} {e : Ending} (ra : Option Addr) (rc : Nat) (he : e = .returned (.slice ra len rc)) (h1 : ra = none ↔ a = none) (h2 : Byts w' ra len zs) (h3 : Below w.heap.size w w') : CopiedB w a len zs e w' := ⟨ra, rc, he, h1, h2, h3⟩

theorem byts_of_fil {w : World} {g len : Nat} {zs : List Int} (hl : zs.length = len) (h : Fil w g 5 (len * 1) len (fun i => .int .u8 (zs[i]?.getD 0))) : Byts w (some ⟨g, 0, none⟩) len zs :=
  ⟨hl, fun _ => ⟨g, 0, rfl, fun i hi => by
    have := h.cell i (by omega)
    rw [List.getElem?_eq_getElem hi] at this
    simpa using this⟩⟩

set_option maxHeartbeats 4000000 in
theorem copy17 (a : Option Addr) (len cap : Nat) (zs : List Int) (w : World) (hB : Byts w a len zs) (hn : a = none → len = 0) (hl : len ≤ 1048576) :
    Calls Try.prog 17 #[.slice a len cap] w fun e w' => CopiedB w a len zs e w' := by
  cases a with
  | none =>
    obtain rfl := hn rfl
    have hq := eqnil41
    go_enter Try.func17, Try.ntmps17
    go_wp2
    go_ret
    exact CopiedB.intro none 0 rfl Iff.rfl hB (Below.refl _ _)
  | some x =>
    obtain ⟨i5, hi, hz0, hz1, hz2⟩ := info_parts Try.info5
    have hq := eqnil41
    go_enter Try.func17, Try.ntmps17
    go_wp2_with (at_make; refine wpList_make_full _ rfl (.tmp 8) (.tmp 8) 41 rfl w.heap.size 5 i5 _ 1 Try.underlying41 hi hz0 hz1 .i64 .i64 _ _ len rfl rfl rfl rfl (by rw [hz2]; omega) (by unfold maxLen; omega) (Nat.le_refl _) ?_; intro w1 own1 grow1)
    have FK := Fil.of_owns own1 (fun i => .int .u8 (zs[i]?.getD 0))
    have hb1 : Below w.heap.size w w1 := (Below.refl _ _).grown grow1 (Nat.le_refl _) (fun k h => by cases h)
    clear own1 grow1
    go_loopw [4] (fun i wr => ∃ k : Nat, k ≤ len ∧ i = .int .i64 k ∧ Fil wr w.heap.size 5 (len * 1) k (fun i => .int .u8 (zs[i]?.getD 0)) ∧ Below w.heap.size w wr) (fun i _ => len - (intOf i).toNat)
    case atStart => exact ⟨0, Nat.zero_le _, rfl, FK, hb1⟩
    case round =>
      obtain ⟨k, hk, rfl, FKr, hbr⟩ := hrel
      clear FK hb1
      by_cases hlt : k < len
      · obtain ⟨b, off, n, he, hzk, c0⟩ := hB.at hlt
        obtain rfl := Option.some.inj he
        have hbw : b < w.heap.size := World.block_lt_of_cell? _ _ c0
        have hb1 : b ≠ w.heap.size := by omega
        have c0' : wr.cell? ⟨b, off + k, none⟩ = some (.int .u8 n) := cell_later hbr c0
        obtain ⟨u1, g1⟩ := FKr.there k (by omega)
        have g1f := FKr.free k
        have R := FKr.store (k := k) (by omega)
        simp only [hzk, Option.getD_some] at R
        have HR : Hid _ := R
        clear R FKr hzk c0 hB hn he
        go_wp2
        go_roundw
        case rel => exact ⟨k + 1, by omega, by go_num, HR.out, hbr.setCell (Nat.le_refl _) _⟩
        case measure => simp [intOf]; omega
      · have hke : k = len := by omega
        subst hke
        have HF : Hid _ := FKr
        clear FKr
        go_wp2
        go_ret
        exact CopiedB.intro _ _ rfl (by simp) (byts_of_fil hB.len_eq HF.out) hbr

set_option maxHeartbeats 4000000 in
/-- What sameBytesRB1 says of two slices that read alike. -/
theorem same21 (a b : Option Addr) (len ca cb : Nat) (zs : List Int) (w : World) (hA : Byts w a len zs) (hB : Byts w b len zs) (hab : a = none ↔ b = none) (hl : len ≤ 1048576) :
    Calls Try.prog 21 #[.slice a len ca, .slice b len cb] w fun e w' => e = .returned (.bool true) ∧ ∃ n, w' = w.drewN n := by
  have hq := eqnil41
  have hnn : a.isNone = b.isNone := by cases a <;> cases b <;> simp_all
  go_enter Try.func21, Try.ntmps21
  go_wp2
  go_loopw [5] (fun i wr => ∃ k : Nat, k ≤ len ∧ i = .int .i64 k ∧ ∃ n, wr = w.drewN n) (fun i _ => len - (intOf i).toNat)
  case atStart => exact ⟨0, Nat.zero_le _, rfl, 0, rfl⟩
  case round =>
    obtain ⟨k, hk, rfl, n, rfl⟩ := hrel
    by_cases hlt : k < len
    · obtain ⟨b1, o1, n1, rfl, hz1, c1⟩ := hA.at hlt
      obtain ⟨b2, o2, n2, rfl, hz2, c2⟩ := hB.at hlt
      rw [hz1] at hz2
      obtain rfl := Option.some.inj hz2
      clear hA hB hz1 hz2 hab hnn
      go_wp2
      go_quiet (fail)
      go_wp2
      go_roundw
      case rel => exact ⟨k + 1, by omega, by go_num, _, rfl⟩
      case measure => simp [intOf]; omega
    · clear hA hB hab hnn
      go_wp2
      go_ret
      exact ⟨rfl, n, rfl⟩
end Go.Proofs.Qxb6608623a
