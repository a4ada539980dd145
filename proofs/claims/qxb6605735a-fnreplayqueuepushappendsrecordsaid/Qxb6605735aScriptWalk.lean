/-
  The walks of zzBytes_FnReplayQueuePushScriptReadsBack (16) and of FnReplayQueuePushScriptReadsBack (6).
-/
import Derived.Test.Qxb6605735aNewWalks
namespace Go.Proofs.Qxb6605735a
open Go.RowKit

/-- WHAT THE WALK IS TOLD OF THE SLICE OF RECORDS THAT CAME IN. -/
structure Recs (w : World) (a : Option Addr) (len : Nat) (rs : List (ByteArray × Int)) : Prop where
  len_eq : rs.length = len
  max : len ≤ maxLen
  ok : ∀ r ∈ rs, r.1.size ≤ maxLen ∧ -9223372036854775808 ≤ r.2 ∧ r.2 ≤ 9223372036854775807
  cells : 0 < len → ∃ b off, a = some ⟨b, off, none⟩ ∧ ∀ i (h : i < rs.length), w.cell? ⟨b, off + i * 2, none⟩ = some (.string rs[i].1) ∧ w.cell? ⟨b, off + i * 2 + 1, none⟩ = some (.int .i64 rs[i].2)

/-- Record k, in the world as it stands. -/
theorem Recs.at {w : World} {a : Option Addr} {len : Nat} {rs : List (ByteArray × Int)} (h : Recs w a len rs) {k : Nat} (hk : k < len) :
    ∃ b off key d, a = some ⟨b, off, none⟩ ∧ rs[k]? = some (key, d) ∧ key.size ≤ maxLen ∧ -9223372036854775808 ≤ d ∧ d ≤ 9223372036854775807 ∧ w.cell? ⟨b, off + k * 2, none⟩ = some (.string key) ∧ w.cell? ⟨b, off + k * 2 + 1, none⟩ = some (.int .i64 d) := by
  have hl := h.len_eq
  obtain ⟨b, off, ha, hc⟩ := h.cells (by omega)
  have hk' : k < rs.length := by omega
  have ho := h.ok rs[k] (List.getElem_mem hk')
  exact ⟨b, off, rs[k].1, rs[k].2, ha, by rw [List.getElem?_eq_getElem hk'], ho.1, ho.2.1, ho.2.2, (hc k hk').1, (hc k hk').2⟩

set_option maxHeartbeats 2000000 in
theorem zz16 (a : Option Addr) (len cap : Nat) (rs : List (ByteArray × Int)) (w : World) (hR : Recs w a len rs) :
    Calls Try.prog 16 #[.slice a len cap] w fun e w' => (e = .returned (.bool true) ∨ e = .returned (.bool false)) ∧ w' = w := by
  have hmax := hR.max
  unfold maxLen at hmax
  by_cases hl : (1048576 : Int) < (len : Int)
  · go_enter Try.func16, Try.ntmps16
    go_wp2
    go_ret
    exact ⟨by first | exact Or.inl rfl | exact Or.inr rfl, rfl⟩
  · go_enter Try.func16, Try.ntmps16
    go_wp2
    go_loop [3, 4] (fun z i => ∃ (k : Nat) (t : Int), k ≤ len ∧ i = .int .i64 k ∧ z = .int .i64 t ∧ 0 ≤ t ∧ t ≤ 1048576) (fun _ i => len - (intOf i).toNat)
    case atStart => exact ⟨0, len, Nat.zero_le _, rfl, rfl, by omega, by omega⟩
    case round =>
      obtain ⟨k, t, hk, rfl, rfl, ht0, ht1⟩ := hrel
      by_cases hlt : k < len
      · obtain ⟨b, off, key, d, rfl, _, hks, _, _, c1, _⟩ := hR.at hlt
        unfold maxLen at hks
        clear hR
        go_wp2
        · go_ret
          exact ⟨by first | exact Or.inl rfl | exact Or.inr rfl, rfl⟩
        · go_ret
          exact ⟨by first | exact Or.inl rfl | exact Or.inr rfl, rfl⟩
        · go_round
          case rel => exact ⟨k + 1, _, by omega, by go_num, rfl, by omega, by omega⟩
          case measure => simp [intOf]; omega
      · go_wp2
        go_ret
        exact ⟨by first | exact Or.inl rfl | exact Or.inr rfl, rfl⟩

theorem QInv.drew {w : World} {B q : Nat} {rs : List (ByteArray × Int)} (h : QInv B q rs w) : QInv B q rs w.drew := ⟨h.low, h.held⟩

theorem len14' (B q : Nat) (rs : List (ByteArray × Int)) (n : Nat) (hn : rs.length = n) (w : World) (hQ : QInv B q rs w) :
    Calls Try.prog 14 #[.pointer (some ⟨q, 0, none⟩)] w fun e w' => e = .returned (.int .i64 n) ∧ w' = w := by
  subst hn
  exact len14 B q rs w hQ

set_option maxHeartbeats 8000000 in
theorem script_walk (a : Option Addr) (len cap : Nat) (rs : List (ByteArray × Int)) (w : World) (hR : Recs w a len rs) :
    Calls Try.prog 6 #[.slice a len cap] w fun e w' => e = .returned (.bool true) ∧ Below w.heap.size w w' := by
  have hmax := hR.max
  unfold maxLen at hmax
  go_enter Try.func6, Try.ntmps6
  go_wp2_with fail
  refine (zz16 a len cap rs w hR).mono ?_
  rintro e w' ⟨he, rfl⟩
  rcases he with rfl | rfl
  rotate_left
  · go_wp2
    go_ret
    exact ⟨rfl, Below.refl _ _⟩
  by_cases hl : (65536 : Int) < (len : Int)
  · go_wp2
    go_ret
    exact ⟨rfl, Below.refl _ _⟩
  go_wp2
  go_loop [3, 4] (fun z i => ∃ (k : Nat) (t : Int), k ≤ len ∧ i = .int .i64 k ∧ z = .int .i64 t ∧ 0 ≤ t ∧ t ≤ 1048576) (fun _ i => len - (intOf i).toNat)
  case atStart => exact ⟨0, 0, Nat.zero_le _, rfl, rfl, by omega, by omega⟩
  case round =>
    obtain ⟨k, t, hk, rfl, rfl, ht0, ht1⟩ := hrel
    by_cases hlt : k < len
    · obtain ⟨b, off, key, d, rfl, _, hks, _, _, c1, _⟩ := hR.at hlt
      unfold maxLen at hks
      clear hR
      go_wp2
      · go_ret
        exact ⟨rfl, Below.refl _ _⟩
      · go_ret
        exact ⟨rfl, Below.refl _ _⟩
      · go_round
        case rel => exact ⟨k + 1, _, by omega, by go_num, rfl, by omega, by omega⟩
        case measure => simp [intOf]; omega
    · clear hk
      go_wp2_with fail
      refine (new12 none none 0 0 0 [] _ (by simp) (by omega) (by simp) (by simp)).mono ?_
      rintro e w1 ⟨q, rfl, hQ0, hb0⟩
      clear hlt
      go_wp2
      go_loopw [6] (fun i wr => ∃ k : Nat, k ≤ len ∧ i = .int .i64 k ∧ QInv w'.heap.size q (rs.take k) wr ∧ Below w'.heap.size w' wr) (fun i _ => len - (intOf i).toNat)
      case atStart => exact ⟨0, Nat.zero_le _, rfl, hQ0, hb0⟩
      case round =>
        obtain ⟨j, hj, rfl, hQ, hb⟩ := hrel
        by_cases hjl : j < len
        · obtain ⟨b, off, key, d, rfl, hrj, hks, hd0, hd1, c1, c2⟩ := hR.at hjl
          have hjr : j < rs.length := by rw [hR.len_eq]; exact hjl
          have ht := take_snoc rs j hjr
          rw [List.getElem?_eq_getElem hjr] at hrj
          rw [Option.some.inj hrj] at ht
          have HT : Hid (rs.take (j + 1) = rs.take j ++ [(key, d)]) := ht
          have hlen : (rs.take j).length ≤ 1048576 := by simp; omega
          have hlen1 : (rs.take j ++ [(key, d)]).length = j + 1 := by simp; omega
          have HL : Hid ((rs.take j ++ [(key, d)]).length = j + 1) := hlen1
          have e1 : wr.cell? ⟨b, off + j * 2, none⟩ = some (.string key) := cell_later hb c1
          have e2 : wr.cell? ⟨b, off + j * 2 + 1, none⟩ = some (.int .i64 d) := cell_later hb c2
          have hbw : b < w'.heap.size := World.block_lt_of_cell? _ _ c1
          clear hR hrj ht hlen1 c1 c2 hQ0 hb0
          go_wp2
          go_region_held (fun u => u.cell? ⟨b, off + j * 2, none⟩ = some (.string key) ∧ u.cell? ⟨b, off + j * 2 + 1, none⟩ = some (.int .i64 d)) (first | assumption | go_keep)
            (first | (go_at_call 13; refine (push13 w'.heap.size q (rs.take j) key d hd0 hd1 _ hQ.drew hlen).mono ?_; rintro e w2 ⟨rfl, hQ2, hb2⟩; have hS : w2.cell? ⟨b, off + j * 2, none⟩ = some (.string key) ∧ w2.cell? ⟨b, off + j * 2 + 1, none⟩ = some (.int .i64 d) := ⟨(hb2.cell (by exact hbw)).trans e1, (hb2.cell (by exact hbw)).trans e2⟩))
          all_goals
            go_wp2_with (go_at_call 14; refine (len14' w'.heap.size q _ (j + 1) HL.out _ hQ2).mono ?_; rintro e w3 ⟨rfl, rfl⟩)
            go_roundw
            case rel => exact ⟨j + 1, by omega, by go_num, by rw [HT.out]; exact hQ2, hb.trans ((Below.refl _ _).drew.trans hb2)⟩
            case measure => simp [intOf]; omega
        · have hjl' : j = rs.length := by rw [hR.len_eq]; omega
          subst hjl'
          rw [List.take_length] at hQ
          have hlr := hR.len_eq
          clear hQ0 hb0 hj
          have HLR : Hid (rs.length = len) := hlr
          clear hlr
          go_wp2
          go_loopw [7] (fun i wz => ∃ k : Nat, k ≤ len ∧ i = .int .i64 k ∧ QInv w'.heap.size q rs wz ∧ Below w'.heap.size w' wz) (fun i _ => len - (intOf i).toNat)
          case atStart => exact ⟨0, Nat.zero_le _, rfl, hQ, hb⟩
          case round =>
            obtain ⟨i, hi, rfl, hQz, hbz⟩ := hrel
            by_cases hil : i < len
            · obtain ⟨b, off, key, d, rfl, hri, hks, hd0, hd1, c1, c2⟩ := hR.at hil
              have hlim : rs.length ≤ 2097152 := by have := HLR.out; omega
              have HRI : Hid (rs[i]? = some (key, d)) := hri
              have e1 : wr.cell? ⟨b, off + i * 2, none⟩ = some (.string key) := cell_later hbz c1
              have e2 : wr.cell? ⟨b, off + i * 2 + 1, none⟩ = some (.int .i64 d) := cell_later hbz c2
              clear hR hri hQ hb
              go_wp2_with fail
              refine (record15 w'.heap.size q rs i key d hd0 hd1 _ hQz hlim HRI.out).mono ?_
              rintro e w4 ⟨rfl, hb4⟩
              have f1 := cell_later hb4 e1
              have f2 := cell_later hb4 e2
              have hQ4 := hQz.below hb4
              have hb5 : Below w'.heap.size w' w4 := hbz.trans (hb4.mono hbz.size)
              clear hQz hbz hb4
              go_wp2
              go_roundw
              case rel => exact ⟨i + 1, by omega, by go_num, hQ4, hb5⟩
              case measure => simp [intOf]; omega
            · clear hQ hb hQz
              go_wp2
              go_ret
              exact ⟨rfl, hbz⟩
end Go.Proofs.Qxb6605735a
