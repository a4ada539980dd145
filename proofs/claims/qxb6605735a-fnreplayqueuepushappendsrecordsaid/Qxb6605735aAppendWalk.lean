/-
  The walks of zzBytes_FnReplayQueuePushAppendsRecord (11) and of FnReplayQueuePushAppendsRecord (5).
-/
import Derived.Test.Qxb6605735aScriptWalk
namespace Go.Proofs.Qxb6605735a
open Go.RowKit

theorem Try.info9 : (Try.prog.info? 9).map (fun i => (i.zero, i.size, i.bytes)) = some (some (.string ⟨#[]⟩), 1, 16) := by kernel_rfl
theorem Try.info2 : (Try.prog.info? 2).map (fun i => (i.zero, i.size, i.bytes)) = some (some (.int .i64 0), 1, 8) := by kernel_rfl

/-- A row of m cells of the call's own whose first k cells hold f 0, f 1, .. -/
def Fil (w : World) (g : Nat) (t : TypeId) (m k : Nat) (f : Nat → Value) : Prop :=
  ∃ cs : Array Value, w.heap[g]? = some (.cells cs t (0, 0)) ∧ cs.size = m ∧ ∀ i, i < k → cs[i]? = some (f i)

theorem Fil.of_owns {w : World} {B g m : Nat} {t : TypeId} {xs : List Value} (h : w.ownsRow B t 1 (.slice (some ⟨g, 0, none⟩) m m) m xs) (f : Nat → Value) : Fil w g t m 0 f := by
  rcases h.2 with ⟨h, _⟩ | ⟨g', cap, cur, hv, _, hg, _, _, hs, _⟩
  · cases h
  · simp at hv
    obtain ⟨rfl, rfl⟩ := hv
    exact ⟨cur, hg, by omega, fun i hi => absurd hi (Nat.not_lt_zero _)⟩

theorem Fil.grown {w w' : World} {g m k : Nat} {t : TypeId} {f : Nat → Value} (h : Fil w g t m k f) (hg : w.grownBy w' none) : Fil w' g t m k f := by
  obtain ⟨cs, h1, h2⟩ := h
  exact ⟨cs, (hg.block g (lt_of_block h1) (by simp)).trans h1, h2⟩

theorem Fil.other {w : World} {g m k : Nat} {t : TypeId} {f : Nat → Value} (h : Fil w g t m k f) (a : Addr) (v : Value) (hne : g ≠ a.block) : Fil (w.setCell a v) g t m k f := by
  obtain ⟨cs, h1, h2⟩ := h
  exact ⟨cs, (heap_setCell_other w a g v hne).trans h1, h2⟩

theorem Fil.store {w : World} {g m k : Nat} {t : TypeId} {f : Nat → Value} (h : Fil w g t m k f) (hk : k < m) : Fil (w.setCell ⟨g, k, none⟩ (f k)) g t m (k + 1) f := by
  obtain ⟨cs, h1, h2, h3⟩ := h
  refine ⟨_, heap_setCell_same w g k cs t (f k) h1, by simpa using h2, fun i hi => ?_⟩
  by_cases e : i = k
  · subst e
    rw [Array.getElem?_setIfInBounds, if_pos rfl, if_pos (by omega)]
  · rw [Array.getElem?_setIfInBounds_ne (fun e' => e e'.symm)]
    exact h3 i (by omega)

theorem Fil.cell {w : World} {g m k : Nat} {t : TypeId} {f : Nat → Value} (h : Fil w g t m k f) (i : Nat) (hi : i < k) : w.cell? ⟨g, i, none⟩ = some (f i) := by
  obtain ⟨cs, h1, h2, h3⟩ := h
  rw [cell_of_row w g i cs t (0, 0) h1]
  exact h3 i hi

theorem Fil.there {w : World} {g m k : Nat} {t : TypeId} {f : Nat → Value} (h : Fil w g t m k f) (i : Nat) (hi : i < m) : ∃ u, w.cell? ⟨g, i, none⟩ = some u := by
  obtain ⟨cs, h1, h2, h3⟩ := h
  rw [cell_of_row w g i cs t (0, 0) h1]
  exact ⟨cs[i], Array.getElem?_eq_getElem (by omega)⟩

theorem Fil.free {w : World} {g m k : Nat} {t : TypeId} {f : Nat → Value} (h : Fil w g t m k f) (i : Nat) : w.frozen? ⟨g, i, none⟩ = false := by
  obtain ⟨cs, h1, h2, h3⟩ := h
  exact frozen_of_row w g i cs t h1

theorem Fil.ne {w : World} {g g' m m' k k' : Nat} {t t' : TypeId} {f f' : Nat → Value} (h : Fil w g t m k f) (h' : Fil w g' t' m' k' f') (ht : t ≠ t') : g ≠ g' := by
  intro e
  subst e
  obtain ⟨cs, h1, _⟩ := h
  obtain ⟨cs', h1', _⟩ := h'
  rw [h1] at h1'
  simp at h1'
  exact ht h1'.2

theorem fil_round {wr : World} {B nb m j : Nat} {rs : List (ByteArray × Int)} {key : ByteArray} {d : Int}
    (h1 : Fil wr B 9 m j (fun i => .string (rs[i]?.getD (ByteArray.empty, 0)).1)) (h2 : Fil wr nb 2 m j (fun i => .int .i64 (rs[i]?.getD (ByteArray.empty, 0)).2)) (hr : rs[j]? = some (key, d)) (hne : B ≠ nb) (hj : j < m) :
    Fil ((wr.setCell ⟨B, j, none⟩ (.string key)).setCell ⟨nb, j, none⟩ (.int .i64 d)) B 9 m (j + 1) (fun i => .string (rs[i]?.getD (ByteArray.empty, 0)).1) ∧
    Fil ((wr.setCell ⟨B, j, none⟩ (.string key)).setCell ⟨nb, j, none⟩ (.int .i64 d)) nb 2 m (j + 1) (fun i => .int .i64 (rs[i]?.getD (ByteArray.empty, 0)).2) := by
  have a := h1.store hj
  have b := (h2.other ⟨B, j, none⟩ (.string key) (fun e => hne e.symm)).store hj
  simp only [hr, Option.getD_some] at a b
  exact ⟨a.other _ _ hne, b⟩

set_option maxHeartbeats 2000000 in
theorem zz11 (a : Option Addr) (len cap : Nat) (rs : List (ByteArray × Int)) (sp ns : Int) (key : ByteArray) (w : World) (hR : Recs w a len rs) (hkey : key.size ≤ maxLen) :
    Calls Try.prog 11 #[.slice a len cap, .int .i64 sp, .string key, .int .i64 ns] w fun e w' => (e = .returned (.bool true) ∨ e = .returned (.bool false)) ∧ w' = w := by
  have hmax := hR.max
  unfold maxLen at hmax hkey
  by_cases hl : (1048576 : Int) < (len : Int)
  · go_enter Try.func11, Try.ntmps11
    go_wp2
    go_ret
    exact ⟨by first | exact Or.inl rfl | exact Or.inr rfl, rfl⟩
  · go_enter Try.func11, Try.ntmps11
    go_wp2
    go_loop [9, 10] (fun z i => ∃ (k : Nat) (t : Int), k ≤ len ∧ i = .int .i64 k ∧ z = .int .i64 t ∧ 0 ≤ t ∧ t ≤ 1048576) (fun _ i => len - (intOf i).toNat)
    case atStart => exact ⟨0, len, Nat.zero_le _, rfl, rfl, by omega, by omega⟩
    case round =>
      obtain ⟨k, t, hk, rfl, rfl, ht0, ht1⟩ := hrel
      by_cases hlt : k < len
      · obtain ⟨b, off, key', d, rfl, _, hks, _, _, c1, _⟩ := hR.at hlt
        unfold maxLen at hks
        clear hR
        go_wp2
        · go_ret
          exact ⟨by first | exact Or.inl rfl | exact Or.inr rfl, rfl⟩
        · go_ret
          exact ⟨by first | exact Or.inl rfl | exact Or.inr rfl, rfl⟩
        · go_round
          case rel => exact ⟨k + 1, _, by omega, by go_num, rfl, by omega, by omega⟩
          case measure => simp [intOf]; omega
      · go_wp2
        all_goals go_ret
        all_goals exact ⟨by first | exact Or.inl rfl | exact Or.inr rfl, rfl⟩

set_option maxHeartbeats 8000000 in
set_option maxRecDepth 100000 in
theorem append_walk (a : Option Addr) (len cap : Nat) (rs : List (ByteArray × Int)) (sp ns : Int) (key : ByteArray) (w : World) (hR : Recs w a len rs) (hkey : key.size ≤ maxLen) (hsp0 : -9223372036854775808 ≤ sp) (hsp1 : sp ≤ 9223372036854775807) (hn0 : -9223372036854775808 ≤ ns) (hn1 : ns ≤ 9223372036854775807) :
    Calls Try.prog 5 #[.slice a len cap, .int .i64 sp, .string key, .int .i64 ns] w fun e w' => e = .returned (.bool true) ∧ Below w.heap.size w w' := by
  obtain rfl := hR.len_eq
  have hmax := hR.max
  have hkm := hkey
  unfold maxLen at hmax hkm
  by_cases hout : (65536 : Int) < (rs.length : Int) ∨ (1048576 : Int) < (key.size : Int) ∨ sp < 0 ∨ (65536 : Int) < sp ∨ 1048576 < (key.size : Int) + sp * 40
  · go_enter Try.func5, Try.ntmps5
    go_wp2_with fail
    refine (zz11 a rs.length cap rs sp ns key w hR hkey).mono ?_
    rintro e w' ⟨he, rfl⟩
    rcases he with rfl | rfl
    rotate_left
    · go_wp2
      go_ret
      exact ⟨rfl, Below.refl _ _⟩
    clear hR hkey
    rcases (show (65536 : Int) < (rs.length : Int) ∨ ((rs.length : Int) ≤ 65536 ∧ (1048576 : Int) < (key.size : Int)) ∨ ((rs.length : Int) ≤ 65536 ∧ (key.size : Int) ≤ 1048576 ∧ sp < 0) ∨ ((rs.length : Int) ≤ 65536 ∧ (key.size : Int) ≤ 1048576 ∧ 0 ≤ sp ∧ 65536 < sp) ∨ ((rs.length : Int) ≤ 65536 ∧ (key.size : Int) ≤ 1048576 ∧ 0 ≤ sp ∧ sp ≤ 65536 ∧ 1048576 < (key.size : Int) + sp * 40) from by omega) with h | ⟨h1, h2⟩ | ⟨h1, h2, h3⟩ | ⟨h1, h2, h3, h4⟩ | ⟨h1, h2, h3, h4, h5⟩
    all_goals clear hout
    all_goals go_wp2
    all_goals go_ret
    all_goals exact ⟨rfl, Below.refl _ _⟩
  obtain ⟨h1, h2, h3, h4, h5⟩ : (rs.length : Int) ≤ 65536 ∧ (key.size : Int) ≤ 1048576 ∧ 0 ≤ sp ∧ sp ≤ 65536 ∧ (key.size : Int) + sp * 40 ≤ 1048576 := by omega
  clear hout
  obtain ⟨spare, rfl⟩ : ∃ n : Nat, sp = (n : Int) := ⟨sp.toNat, by omega⟩
  obtain ⟨i9, hi9, hz90, hz91, hz92⟩ := info_parts Try.info9
  obtain ⟨i2, hi2, hz20, hz21, hz22⟩ := info_parts Try.info2
  go_enter Try.func5, Try.ntmps5
  go_wp2_with fail
  refine (zz11 a rs.length cap rs spare ns key w hR hkey).mono ?_
  rintro e w' ⟨he, rfl⟩
  rcases he with rfl | rfl
  rotate_left
  · go_wp2
    go_ret
    exact ⟨rfl, Below.refl _ _⟩
  go_wp2
  go_loop [9, 10] (fun z i => ∃ (k : Nat) (t : Int), k ≤ rs.length ∧ i = .int .i64 k ∧ z = .int .i64 t ∧ 0 ≤ t ∧ t ≤ 1048576) (fun _ i => rs.length - (intOf i).toNat)
  case atStart => exact ⟨0, _, Nat.zero_le _, rfl, rfl, by omega, by omega⟩
  case round =>
    obtain ⟨k, t, hk, rfl, rfl, ht0, ht1⟩ := hrel
    by_cases hlt : k < rs.length
    · obtain ⟨b, off, key', d, rfl, _, hks, _, _, c1, _⟩ := hR.at hlt
      unfold maxLen at hks
      clear hR
      go_wp2
      · go_ret
        exact ⟨rfl, Below.refl _ _⟩
      · go_ret
        exact ⟨rfl, Below.refl _ _⟩
      · go_round
        case rel => exact ⟨k + 1, _, by omega, by go_num, rfl, by omega, by omega⟩
        case measure => simp [intOf]; omega
    · clear hk
      go_wp2_with (first
        | (at_make; refine wpList_make_full _ rfl (.tmp 74) (.tmp 74) 30 rfl w'.heap.size 9 i9 _ 1 Try.underlying30 hi9 hz90 hz91 .i64 .i64 _ _ rs.length rfl rfl rfl rfl (by rw [hz92]; omega) (by unfold maxLen; omega) (Nat.le_refl _) ?_; intro w1 own1 grow1)
        | (at_make; refine wpList_make_full _ rfl (.tmp 77) (.tmp 77) 31 rfl w'.heap.size 2 i2 _ 1 Try.underlying31 hi2 hz20 hz21 .i64 .i64 _ _ rs.length rfl rfl rfl rfl (by rw [hz22]; omega) (by unfold maxLen; omega) grow1.size ?_; intro w2 own2 grow2))
      have FK := (Fil.of_owns own1 (fun i => .string (rs[i]?.getD (ByteArray.empty, 0)).1)).grown grow2
      have FN := Fil.of_owns own2 (fun i => .int .i64 (rs[i]?.getD (ByteArray.empty, 0)).2)
      have hb2 : Below w'.heap.size w' w2 := (((Below.refl _ _).grown grow1 (Nat.le_refl _) (fun k h => by cases h))).grown grow2 grow1.size (fun k h => by cases h)
      have hkb : w'.heap.size ≤ w'.heap.size := Nat.le_refl _
      have hnb : w'.heap.size ≤ w1.heap.size := grow1.size
      clear own1 own2 grow1 grow2 hlt hkb
      obtain ⟨nb, hnbe⟩ : ∃ nb, nb = w1.heap.size := ⟨_, rfl⟩
      rw [← hnbe] at hnb FN ⊢
      clear hnbe
      go_loopw [13] (fun i wr => ∃ k : Nat, k ≤ rs.length ∧ i = .int .i64 k ∧ Fil wr w'.heap.size 9 rs.length k (fun i => .string (rs[i]?.getD (ByteArray.empty, 0)).1) ∧ Fil wr nb 2 rs.length k (fun i => .int .i64 (rs[i]?.getD (ByteArray.empty, 0)).2) ∧ Below w'.heap.size w' wr) (fun i _ => rs.length - (intOf i).toNat)
      case atStart => exact ⟨0, Nat.zero_le _, rfl, FK, FN, hb2⟩
      case round =>
        obtain ⟨j, hj, rfl, FKr, FNr, hbr⟩ := hrel
        clear FK FN hb2
        have hne := FKr.ne FNr (by decide)
        by_cases hjl : j < rs.length
        · obtain ⟨b, off, key', d, rfl, hrj, hks, hd0, hd1, c1, c2⟩ := hR.at hjl
          have e1 : wr.cell? ⟨b, off + j * 2, none⟩ = some (.string key') := cell_later hbr c1
          have e2 : wr.cell? ⟨b, off + j * 2 + 1, none⟩ = some (.int .i64 d) := cell_later hbr c2
          have hbw : b < w'.heap.size := World.block_lt_of_cell? _ _ c1
          obtain ⟨u1, g1⟩ := FKr.there j hjl
          have g1f := FKr.free j
          obtain ⟨u2, g2⟩ := FNr.there j hjl
          have g2f := FNr.free j
          have hb1 : b ≠ w'.heap.size := by omega
          have hb2 : b ≠ nb := by omega
          have R := fil_round FKr FNr hrj hne hjl
          have HR : Hid _ := R
          clear hR hrj c1 c2 R FKr FNr
          go_wp2
          go_roundw
          case rel => exact ⟨j + 1, by omega, by go_num, HR.out.1, HR.out.2, (hbr.setCell (Nat.le_refl _) _).setCell hnb _⟩
          case measure => simp [intOf]; omega
        · have hje : j = rs.length := by omega
          subst hje
          have hcells : 0 < rs.length → ∃ kb nb', (some ⟨w'.heap.size, 0, none⟩ : Option Addr) = some ⟨kb, 0, none⟩ ∧ (some ⟨nb, 0, none⟩ : Option Addr) = some ⟨nb', 0, none⟩ ∧ ∀ i (h : i < rs.length), wr.cell? ⟨kb, i, none⟩ = some (.string rs[i].1) ∧ wr.cell? ⟨nb', i, none⟩ = some (.int .i64 rs[i].2) := by
            intro _
            refine ⟨_, _, rfl, rfl, fun i h => ⟨?_, ?_⟩⟩
            · have := FKr.cell i h
              simpa [List.getElem?_eq_getElem h] using this
            · have := FNr.cell i h
              simpa [List.getElem?_eq_getElem h] using this
          have HC : Hid _ := hcells
          have hlen1 : (rs ++ [(key, ns)]).length = rs.length + 1 := by simp
          have HL : Hid ((rs ++ [(key, ns)]).length = rs.length + 1) := hlen1
          have hlast : (rs ++ [(key, ns)])[rs.length]? = some (key, ns) := by simp
          have HLA : Hid ((rs ++ [(key, ns)])[rs.length]? = some (key, ns)) := hlast
          have hwz := hbr.size
          clear hcells hlen1 hlast FKr FNr hj hne
          go_wp2_with fail
          refine (new12 (some ⟨w'.heap.size, 0, none⟩) (some ⟨nb, 0, none⟩) rs.length rs.length spare rs _ (by omega) (by omega) (fun r hr => (hR.ok r hr).2) HC.out).mono ?_
          rintro e w3 ⟨q, rfl, hQ3, hb3⟩
          go_wp2_with fail
          refine (push13 _ q rs key ns hn0 hn1 _ hQ3 (by omega)).mono ?_
          rintro e w4 ⟨rfl, hQ4, hb4⟩
          have hb5 : Below w'.heap.size w' w4 := (hbr.trans (hb3.mono hwz)).trans (hb4.mono hwz)
          obtain ⟨B4, hB4⟩ : ∃ B4, B4 = wr.heap.size := ⟨_, rfl⟩
          rw [← hB4] at hQ4
          clear hQ3 hb3 hb4 hB4 hbr HC
          go_wp2_with (go_at_call 14; refine (len14' B4 q _ (rs.length + 1) HL.out _ hQ4).mono ?_; rintro e w5 ⟨rfl, rfl⟩)
          go_loopw [15] (fun i wz => ∃ k : Nat, k ≤ rs.length ∧ i = .int .i64 k ∧ QInv B4 q (rs ++ [(key, ns)]) wz ∧ Below w'.heap.size w' wz) (fun i _ => rs.length - (intOf i).toNat)
          case atStart => exact ⟨0, Nat.zero_le _, rfl, hQ4, hb5⟩
          case round =>
            obtain ⟨i, hi, rfl, hQz, hbz⟩ := hrel
            have hlim : (rs ++ [(key, ns)]).length ≤ 2097152 := by have := HL.out; omega
            by_cases hil : i < rs.length
            · obtain ⟨b, off, key', d, rfl, hri, hks, hd0, hd1, c1, c2⟩ := hR.at hil
              have hri' : (rs ++ [(key, ns)])[i]? = some (key', d) := by rw [List.getElem?_append_left hil]; exact hri
              have HRI : Hid ((rs ++ [(key, ns)])[i]? = some (key', d)) := hri'
              have e1 : wr.cell? ⟨b, off + i * 2, none⟩ = some (.string key') := cell_later hbz c1
              have e2 : wr.cell? ⟨b, off + i * 2 + 1, none⟩ = some (.int .i64 d) := cell_later hbz c2
              clear hR hri hri' hQ4 hb5
              go_wp2_with fail
              refine (record15 B4 q _ i key' d hd0 hd1 _ hQz hlim HRI.out).mono ?_
              rintro e w6 ⟨rfl, hb6⟩
              have f1 := cell_later hb6 e1
              have f2 := cell_later hb6 e2
              have hQ6 := hQz.below hb6
              have hb7 : Below w'.heap.size w' w6 := hbz.trans (hb6.mono hbz.size)
              clear hQz hbz hb6
              go_wp2
              go_roundw
              case rel => exact ⟨i + 1, by omega, by go_num, hQ6, hb7⟩
              case measure => simp [intOf]; omega
            · clear hQ4 hb5
              go_wp2_with fail
              refine (record15 B4 q _ rs.length key ns hn0 hn1 _ hQz hlim HLA.out).mono ?_
              rintro e w6 ⟨rfl, hb6⟩
              have hb7 : Below w'.heap.size w' w6 := hbz.trans (hb6.mono hbz.size)
              clear hQz hbz hb6
              go_wp2
              go_ret
              exact ⟨rfl, hb7⟩
end Go.Proofs.Qxb6605735a
