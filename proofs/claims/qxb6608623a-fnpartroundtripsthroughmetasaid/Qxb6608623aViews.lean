/-
  What the walks are told of the slices that come in (and of the copies that the laws make of them), and how those facts are carried into later worlds.
-/
import Derived.Test.Qxb6608623aRows
import Derived.WalkKit
import Derived.WalkSpells
import Derived.WalkLawsBesides
namespace Go.Proofs.Qxb6608623a
open Go.RowKit

/-- A member: its id, weight, peer and client. -/
abbrev M4 : Type := ByteArray × Int × ByteArray × ByteArray

/-- A slice of members (four cells each) that reads as ms. -/
structure Mems (w : World) (a : Option Addr) (len : Nat) (ms : List M4) : Prop where
  len_eq : ms.length = len
  cells : 0 < len → ∃ b off, a = some ⟨b, off, none⟩ ∧ ∀ i (h : i < ms.length), w.cell? ⟨b, off + i * 4, none⟩ = some (.string ms[i].1) ∧ w.cell? ⟨b, off + i * 4 + 1, none⟩ = some (.int .u64 ms[i].2.1) ∧ w.cell? ⟨b, off + i * 4 + 2, none⟩ = some (.string ms[i].2.2.1) ∧ w.cell? ⟨b, off + i * 4 + 3, none⟩ = some (.string ms[i].2.2.2)

theorem Mems.at {w : World} {a : Option Addr} {len : Nat} {ms : List M4} (h : Mems w a len ms) {k : Nat} (hk : k < len) :
    ∃ b off s1 n s2 s3, a = some ⟨b, off, none⟩ ∧ ms[k]? = some (s1, n, s2, s3) ∧ w.cell? ⟨b, off + k * 4, none⟩ = some (.string s1) ∧ w.cell? ⟨b, off + k * 4 + 1, none⟩ = some (.int .u64 n) ∧ w.cell? ⟨b, off + k * 4 + 2, none⟩ = some (.string s2) ∧ w.cell? ⟨b, off + k * 4 + 3, none⟩ = some (.string s3) := by
  have hl := h.len_eq
  obtain ⟨b, off, ha, hc⟩ := h.cells (by omega)
  have hk' : k < ms.length := by omega
  obtain ⟨c0, c1, c2, c3⟩ := hc k hk'
  exact ⟨b, off, _, _, _, _, ha, by rw [List.getElem?_eq_getElem hk'], c0, c1, c2, c3⟩

theorem Mems.below {w w' : World} {a : Option Addr} {len : Nat} {ms : List M4} (h : Mems w a len ms) (hb : Below w.heap.size w w') : Mems w' a len ms := by
  refine ⟨h.len_eq, fun hp => ?_⟩
  obtain ⟨b, off, ha, hc⟩ := h.cells hp
  refine ⟨b, off, ha, fun i hi => ?_⟩
  obtain ⟨c0, c1, c2, c3⟩ := hc i hi
  exact ⟨cell_later hb c0, cell_later hb c1, cell_later hb c2, cell_later hb c3⟩

/-- A slice of rejoins (two cells each) that reads as rs. -/
structure Rejs (w : World) (a : Option Addr) (len : Nat) (rs : List (ByteArray × Int)) : Prop where
  len_eq : rs.length = len
  cells : 0 < len → ∃ b off, a = some ⟨b, off, none⟩ ∧ ∀ i (h : i < rs.length), w.cell? ⟨b, off + i * 2, none⟩ = some (.string rs[i].1) ∧ w.cell? ⟨b, off + i * 2 + 1, none⟩ = some (.int .u64 rs[i].2)

theorem Rejs.at {w : World} {a : Option Addr} {len : Nat} {rs : List (ByteArray × Int)} (h : Rejs w a len rs) {k : Nat} (hk : k < len) :
    ∃ b off s n, a = some ⟨b, off, none⟩ ∧ rs[k]? = some (s, n) ∧ w.cell? ⟨b, off + k * 2, none⟩ = some (.string s) ∧ w.cell? ⟨b, off + k * 2 + 1, none⟩ = some (.int .u64 n) := by
  have hl := h.len_eq
  obtain ⟨b, off, ha, hc⟩ := h.cells (by omega)
  have hk' : k < rs.length := by omega
  obtain ⟨c0, c1⟩ := hc k hk'
  exact ⟨b, off, _, _, ha, by rw [List.getElem?_eq_getElem hk'], c0, c1⟩

theorem Rejs.below {w w' : World} {a : Option Addr} {len : Nat} {rs : List (ByteArray × Int)} (h : Rejs w a len rs) (hb : Below w.heap.size w w') : Rejs w' a len rs := by
  refine ⟨h.len_eq, fun hp => ?_⟩
  obtain ⟨b, off, ha, hc⟩ := h.cells hp
  refine ⟨b, off, ha, fun i hi => ?_⟩
  obtain ⟨c0, c1⟩ := hc i hi
  exact ⟨cell_later hb c0, cell_later hb c1⟩

/-- A slice of bytes that reads as zs. -/
structure Byts (w : World) (a : Option Addr) (len : Nat) (zs : List Int) : Prop where
  len_eq : zs.length = len
  cells : 0 < len → ∃ b off, a = some ⟨b, off, none⟩ ∧ ∀ i (h : i < zs.length), w.cell? ⟨b, off + i, none⟩ = some (.int .u8 zs[i])

theorem Byts.at {w : World} {a : Option Addr} {len : Nat} {zs : List Int} (h : Byts w a len zs) {k : Nat} (hk : k < len) :
    ∃ b off n, a = some ⟨b, off, none⟩ ∧ zs[k]? = some n ∧ w.cell? ⟨b, off + k, none⟩ = some (.int .u8 n) := by
  have hl := h.len_eq
  obtain ⟨b, off, ha, hc⟩ := h.cells (by omega)
  have hk' : k < zs.length := by omega
  exact ⟨b, off, _, ha, by rw [List.getElem?_eq_getElem hk'], hc k hk'⟩

theorem Byts.below {w w' : World} {a : Option Addr} {len : Nat} {zs : List Int} (h : Byts w a len zs) (hb : Below w.heap.size w w') : Byts w' a len zs := by
  refine ⟨h.len_eq, fun hp => ?_⟩
  obtain ⟨b, off, ha, hc⟩ := h.cells hp
  exact ⟨b, off, ha, fun i hi => cell_later hb (hc i hi)⟩

/-- Every text of a member, of a rejoin, is at most 2^20 bytes long. -/
def SmallM (ms : List M4) : Prop := ∀ m ∈ ms, m.1.size ≤ 1048576 ∧ m.2.2.1.size ≤ 1048576 ∧ m.2.2.2.size ≤ 1048576
def SmallR (rs : List (ByteArray × Int)) : Prop := ∀ r ∈ rs, r.1.size ≤ 1048576
def OkM (ms : List M4) : Prop := ∀ m ∈ ms, m.1.size ≤ maxLen ∧ m.2.2.1.size ≤ maxLen ∧ m.2.2.2.size ≤ maxLen
def OkR (rs : List (ByteArray × Int)) : Prop := ∀ r ∈ rs, r.1.size ≤ maxLen ∧ (Lit.int .u64 r.2).wf = true

theorem SmallM.at {ms : List M4} (h : SmallM ms) {k : Nat} {m : M4} (hk : ms[k]? = some m) : m.1.size ≤ 1048576 ∧ m.2.2.1.size ≤ 1048576 ∧ m.2.2.2.size ≤ 1048576 := h m (List.mem_of_getElem? hk)
theorem SmallR.at {rs : List (ByteArray × Int)} (h : SmallR rs) {k : Nat} {r : ByteArray × Int} (hk : rs[k]? = some r) : r.1.size ≤ 1048576 := h r (List.mem_of_getElem? hk)
theorem OkM.at {ms : List M4} (h : OkM ms) {k : Nat} {m : M4} (hk : ms[k]? = some m) : m.1.size ≤ maxLen ∧ m.2.2.1.size ≤ maxLen ∧ m.2.2.2.size ≤ maxLen := h m (List.mem_of_getElem? hk)
theorem OkR.at {rs : List (ByteArray × Int)} (h : OkR rs) {k : Nat} {r : ByteArray × Int} (hk : rs[k]? = some r) : r.1.size ≤ maxLen ∧ (Lit.int .u64 r.2).wf = true := h r (List.mem_of_getElem? hk)

theorem SmallM.snoc {ms : List M4} {k : Nat} {m : M4} (h : SmallM (ms.take k)) (hk : ms[k]? = some m) (h1 : m.1.size ≤ 1048576) (h2 : m.2.2.1.size ≤ 1048576) (h3 : m.2.2.2.size ≤ 1048576) : SmallM (ms.take (k + 1)) := by
  have hlt : k < ms.length := by
    rcases Nat.lt_or_ge k ms.length with h | h
    · exact h
    · rw [List.getElem?_eq_none h] at hk; cases hk
  rw [List.take_succ_eq_append_getElem hlt]
  rw [List.getElem?_eq_getElem hlt] at hk
  obtain rfl := Option.some.inj hk
  intro x hx
  rcases List.mem_append.1 hx with hx | hx
  · exact h x hx
  · rw [List.mem_singleton.1 hx]; exact ⟨h1, h2, h3⟩

theorem SmallR.snoc {rs : List (ByteArray × Int)} {k : Nat} {r : ByteArray × Int} (h : SmallR (rs.take k)) (hk : rs[k]? = some r) (h1 : r.1.size ≤ 1048576) : SmallR (rs.take (k + 1)) := by
  have hlt : k < rs.length := by
    rcases Nat.lt_or_ge k rs.length with h | h
    · exact h
    · rw [List.getElem?_eq_none h] at hk; cases hk
  rw [List.take_succ_eq_append_getElem hlt]
  rw [List.getElem?_eq_getElem hlt] at hk
  obtain rfl := Option.some.inj hk
  intro x hx
  rcases List.mem_append.1 hx with hx | hx
  · exact h x hx
  · rw [List.mem_singleton.1 hx]; exact h1

end Go.Proofs.Qxb6608623a
