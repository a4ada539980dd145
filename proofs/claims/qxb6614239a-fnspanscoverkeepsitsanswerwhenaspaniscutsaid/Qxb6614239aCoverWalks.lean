/-
  (*span).end (36), ackEnd (37), (*queue).head (38), spansCover (32), ZZspansCover (26).
-/
import Derived.Test.Qxb6614239aQueueWalks
import Derived.Test.Qxb6614239aSpanLaw
namespace Go.Proofs.Qxb6614239a
open Go.RowKit

/-- A span whose two ranges end within uint64. -/
def Fit (s : S4) : Prop := 0 ≤ s.1 ∧ s.1 ≤ 18446744073709551615 ∧ (0 < s.2.1 → s.1 + s.2.1 ≤ 18446744073709551615) ∧ 0 ≤ s.2.2.1 ∧ s.2.2.1 ≤ 18446744073709551615 ∧ (0 < s.2.2.2 → s.2.2.1 + s.2.2.2 ≤ 18446744073709551615) ∧
  -9223372036854775808 ≤ s.2.1 ∧ s.2.1 ≤ 9223372036854775807 ∧ -9223372036854775808 ≤ s.2.2.2 ∧ s.2.2.2 ≤ 9223372036854775807

set_option maxHeartbeats 1000000 in
theorem end36 (g : Nat) (f c : Int) (w : World) (h0 : 0 ≤ f) (h1 : f ≤ 18446744073709551615) (hc : 0 < c) (hm : c ≤ 9223372036854775807) (hs : f + c ≤ 18446744073709551615) (k1 : w.cell? ⟨g, 1, none⟩ = some (.int .u64 f)) (k2 : w.cell? ⟨g, 2, none⟩ = some (.int .i64 c)) :
    Calls Try.prog 36 #[.pointer (some ⟨g, 0, none⟩)] w fun e w' => e = .returned (.int .u64 (f + c)) ∧ ∃ n, w' = w.drewN n := by
  go_enter Try.func36, Try.ntmps36
  go_wp2
  go_quiet (fail)
  go_wp2
  go_ret
  exact ⟨rfl, _, rfl⟩

set_option maxHeartbeats 1000000 in
theorem ackEnd37 (g : Nat) (f c : Int) (w : World) (h0 : 0 ≤ f) (h1 : f ≤ 18446744073709551615) (hc : 0 < c) (hm : c ≤ 9223372036854775807) (hs : f + c ≤ 18446744073709551615) (k1 : w.cell? ⟨g, 3, none⟩ = some (.int .u64 f)) (k2 : w.cell? ⟨g, 4, none⟩ = some (.int .i64 c)) :
    Calls Try.prog 37 #[.pointer (some ⟨g, 0, none⟩)] w fun e w' => e = .returned (.int .u64 (f + c)) ∧ ∃ n, w' = w.drewN n := by
  go_enter Try.func37, Try.ntmps37
  go_wp2
  go_quiet (fail)
  go_wp2
  go_ret
  exact ⟨rfl, _, rfl⟩

set_option maxHeartbeats 1000000 in
theorem head38 (q : Nat) (base acked : Int) (w : World) (h0 : 0 ≤ base) (ha : 0 ≤ acked) (hm : acked ≤ 9223372036854775807) (hs : base + acked + 1 ≤ 18446744073709551615) (k1 : w.cell? ⟨q, 5, none⟩ = some (.int .u64 base)) (k2 : w.cell? ⟨q, 7, none⟩ = some (.int .i64 acked)) :
    Calls Try.prog 38 #[.pointer (some ⟨q, 0, none⟩)] w fun e w' => e = .returned (.int .u64 (base + acked + 1)) ∧ ∃ n, w' = w.drewN n := by
  go_enter Try.func38, Try.ntmps38
  go_wp2
  go_quiet (fail)
  go_wp2
  go_ret
  exact ⟨rfl, _, rfl⟩

def msg (s : S4) : Int × Int := (s.1, s.2.1)
def ack (s : S4) : Int × Int := (s.2.2.1, s.2.2.2)
/-- When the spans cover. -/
def Covers (base last acked : Int) (rs : List S4) : Prop := cov (base + 1) (rs.map msg) = some (last + 1) ∧ cov (base + 1) (rs.map ack) = some (base + acked + 1)

def CovPost (w : World) (base last acked : Int) (rs : List S4) (e : Ending) (w' : World) : Prop := ∃ b : Bool, e = .returned (.bool b) ∧ (b = true ↔ Covers base last acked rs) ∧ Below w.heap.size w w'
theorem CovPost.intro {w w' : World} {base last acked : Int} {rs : List S4} {e : Ending} (b : Bool) (he : e = .returned (.bool b)) (h1 : b = true ↔ Covers base last acked rs) (h2 : Below w.heap.size w w') : CovPost w base last acked rs e w' := ⟨b, he, h1, h2⟩

theorem flat10 : ∀ (rs : List S4) (i : Nat) (m : S4) (_ : rs[i]? = some m) (j : Nat) (_ : j < 10), (rs.flatMap spCells)[i * 10 + j]? = (spCells m)[j]?
  | x :: rs, 0, m, h, j, hj => by
    obtain rfl : x = m := by simpa using h
    rw [List.flatMap_cons, List.getElem?_append_left (by simp [spCells]; omega)]
    simp
  | x :: rs, i + 1, m, h, j, hj => by
    rw [List.flatMap_cons, List.getElem?_append_right (by simp [spCells]; omega)]
    have e : (i + 1) * 10 + j - (spCells x).length = i * 10 + j := by simp [spCells]; omega
    rw [e, flat10 rs i m (by simpa using h) j hj]
  | [], _, _, h, _, _ => by simp at h

/-- The ten cells of span k. -/
theorem span_cells {w : World} {B g n cap : Nat} {rs : List S4} (hown : w.ownsRow B 94 10 (.slice (some ⟨g, 0, none⟩) n cap) n (rs.flatMap spCells)) {k : Nat} {f c af ac : Int} (hk : rs[k]? = some (f, c, af, ac)) (hn : k < n) :
    w.cell? ⟨g, k * 10, none⟩ = some (.pointer none) ∧ w.cell? ⟨g, k * 10 + 1, none⟩ = some (.int .u64 f) ∧ w.cell? ⟨g, k * 10 + 2, none⟩ = some (.int .i64 c) ∧ w.cell? ⟨g, k * 10 + 3, none⟩ = some (.int .u64 af) ∧ w.cell? ⟨g, k * 10 + 4, none⟩ = some (.int .i64 ac) ∧
    w.cell? ⟨g, k * 10 + 5, none⟩ = some (.int .i64 0) ∧ w.cell? ⟨g, k * 10 + 6, none⟩ = some (.int .i64 0) ∧ w.cell? ⟨g, k * 10 + 7, none⟩ = some (.int .i64 0) ∧ w.cell? ⟨g, k * 10 + 8, none⟩ = some (.int .u8 0) ∧ w.cell? ⟨g, k * 10 + 9, none⟩ = some (.int .i64 0) := by
  have h : ∀ j, j < 10 → w.cell? ⟨g, k * 10 + j, none⟩ = (spCells (f, c, af, ac))[j]? := fun j hj => by
    rw [hown.cellAt (k * 10 + j) (by omega)]
    exact flat10 rs k _ hk j hj
  exact ⟨h 0 (by omega), h 1 (by omega), h 2 (by omega), h 3 (by omega), h 4 (by omega), h 5 (by omega), h 6 (by omega), h 7 (by omega), h 8 (by omega), h 9 (by omega)⟩

theorem step_skip {n f c : Int} (h : ¬ (0 < c ∧ n < f + c)) : step n (f, c) = some n := by unfold step; rw [if_neg h]
theorem step_take {n f c : Int} (h1 : 0 < c) (h2 : n < f + c) (h3 : f ≤ n) : step n (f, c) = some (f + c) := by unfold step; rw [if_pos ⟨h1, h2⟩, if_neg (by simp only; omega)]
theorem step_fail {n f c : Int} (h1 : 0 < c) (h2 : n < f + c) (h3 : n < f) : step n (f, c) = none := by unfold step; rw [if_pos ⟨h1, h2⟩, if_pos h3]

theorem not_cov_msg {base last acked : Int} {rs : List S4} (h : cov (base + 1) (rs.map msg) = none) : false = true ↔ Covers base last acked rs := by
  constructor
  · intro h; cases h
  · rintro ⟨h1, _⟩; rw [h] at h1; cases h1
theorem not_cov_ack {base last acked : Int} {rs : List S4} (h : cov (base + 1) (rs.map ack) = none) : false = true ↔ Covers base last acked rs := by
  constructor
  · intro h; cases h
  · rintro ⟨_, h1⟩; rw [h] at h1; cases h1

theorem bel_drewN {B : Nat} {a w : World} (h : Below B a w) (n : Nat) : Below B a (w.drewN n) := ⟨h.os, h.tape, h.output, h.size, h.block⟩

set_option maxHeartbeats 16000000 in
set_option maxRecDepth 100000 in
theorem cover32 (q : Nat) (base last acked : Int) (va : Option Addr) (n cap g : Nat) (rs : List S4) (w : World) (hn : rs.length = n) (hn1 : n ≤ 1048576) (hb0 : 0 ≤ base) (hbl : base ≤ last) (hl : last ≤ 18446744073709551614) (ha0 : 0 ≤ acked) (ha1 : acked ≤ 9223372036854775807) (ha2 : base + acked ≤ last) (hF : ∀ s ∈ rs, Fit s)
    (q1 : w.cell? ⟨q, 1, none⟩ = some (.slice va n cap)) (q5 : w.cell? ⟨q, 5, none⟩ = some (.int .u64 base)) (q6 : w.cell? ⟨q, 6, none⟩ = some (.int .u64 last)) (q7 : w.cell? ⟨q, 7, none⟩ = some (.int .i64 acked)) (hva : 0 < n → va = some ⟨g, 0, none⟩)
    (hcells : ∀ k f c af ac, rs[k]? = some (f, c, af, ac) → w.cell? ⟨g, k * 10, none⟩ = some (.pointer none) ∧ w.cell? ⟨g, k * 10 + 1, none⟩ = some (.int .u64 f) ∧ w.cell? ⟨g, k * 10 + 2, none⟩ = some (.int .i64 c) ∧ w.cell? ⟨g, k * 10 + 3, none⟩ = some (.int .u64 af) ∧ w.cell? ⟨g, k * 10 + 4, none⟩ = some (.int .i64 ac) ∧ w.cell? ⟨g, k * 10 + 5, none⟩ = some (.int .i64 0) ∧ w.cell? ⟨g, k * 10 + 6, none⟩ = some (.int .i64 0) ∧ w.cell? ⟨g, k * 10 + 7, none⟩ = some (.int .i64 0) ∧ w.cell? ⟨g, k * 10 + 8, none⟩ = some (.int .u8 0) ∧ w.cell? ⟨g, k * 10 + 9, none⟩ = some (.int .i64 0)) :
    Calls Try.prog 32 #[.pointer (some ⟨q, 0, none⟩)] w fun e w' => CovPost w base last acked rs e w' := by
  have HN : Hid (rs.length = n) := hn
  clear hn
  go_enter Try.func32, Try.ntmps32
  go_wp2
  go_quiet (fail)
  go_wp2
  go_loopw [3, 4, 22] (fun x y i wr => ∃ (k : Nat) (nx ak : Int), k ≤ n ∧ i = .int .i64 k ∧ x = .int .u64 nx ∧ y = .int .u64 ak ∧ 0 ≤ nx ∧ nx ≤ 18446744073709551615 ∧ 0 ≤ ak ∧ ak ≤ 18446744073709551615 ∧ cov (base + 1) ((rs.map msg).take k) = some nx ∧ cov (base + 1) ((rs.map ack).take k) = some ak ∧ Below w.heap.size w wr) (fun _ _ i _ => n - (intOf i).toNat)
  case atStart => exact ⟨0, base + 1, base + 1, Nat.zero_le _, rfl, rfl, rfl, by omega, by omega, by omega, by omega, rfl, rfl, bel_drewN (Below.refl _ _) _⟩
  case round =>
    obtain ⟨k, nx, ak, hk, rfl, rfl, rfl, b1, b2, b3, b4, hcm, hca, hbr⟩ := hrel
    by_cases hlt : k < n
    · have hkr : k < rs.length := by rw [HN.out]; exact hlt
      obtain ⟨f, c, af, ac, hs⟩ : ∃ f c af ac, rs[k]? = some (f, c, af, ac) := ⟨_, _, _, _, List.getElem?_eq_getElem hkr⟩
      obtain ⟨d0, d1, d2, d3, d4, d5, d6, d7, d8, d9⟩ := hcells k f c af ac hs
      have hfit := hF (f, c, af, ac) (List.mem_of_getElem? hs)
      unfold Fit at hfit
      obtain ⟨t1, t2, t3, t4, t5, t6, t7, t8, t9, t10⟩ := hfit
      simp only at t1 t2 t3 t4 t5 t6 t7 t8 t9 t10
      have hm := cov_succ hcm (p := (f, c)) (by rw [List.getElem?_map, hs]; rfl)
      have ha := cov_succ hca (p := (af, ac)) (by rw [List.getElem?_map, hs]; rfl)
      have HM : Hid _ := hm
      have HA : Hid _ := ha
      obtain rfl := hva (by omega)
      replace d0 := cell_later hbr d0
      replace d1 := cell_later hbr d1
      replace d2 := cell_later hbr d2
      replace d3 := cell_later hbr d3
      replace d4 := cell_later hbr d4
      replace d5 := cell_later hbr d5
      replace d6 := cell_later hbr d6
      replace d7 := cell_later hbr d7
      replace d8 := cell_later hbr d8
      replace d9 := cell_later hbr d9
      have hba : ∀ o : Obj, Below w.heap.size w (wr.alloc o) := fun o => hbr.alloc hbr.size o
      have HBA : Hid (∀ o : Obj, Below w.heap.size w (wr.alloc o)) := hba
      clear hm ha hcm hca hs hkr hcells hF hva hbr hba q1 q5 q6 q7
      rcases (show c ≤ 0 ∨ (0 < c ∧ f + c ≤ nx) ∨ (0 < c ∧ nx < f + c ∧ f ≤ nx) ∨ (0 < c ∧ nx < f + c ∧ nx < f) from by omega) with m1 | ⟨m1, m2⟩ | ⟨m1, m2, m3⟩ | ⟨m1, m2, m3⟩
      · clear t3
        have X := HM.out.trans (step_skip (by omega))
        have HX : Hid _ := X
        clear X
        rcases (show ac ≤ 0 ∨ (0 < ac ∧ af + ac ≤ ak) ∨ (0 < ac ∧ ak < af + ac ∧ af ≤ ak) ∨ (0 < ac ∧ ak < af + ac ∧ ak < af) from by omega) with a1 | ⟨a1, a2⟩ | ⟨a1, a2, a3⟩ | ⟨a1, a2, a3⟩
        · clear t6
          have Y := HA.out.trans (step_skip (by omega))
          have HY : Hid _ := Y
          clear Y
          go_wp2_with (first | (go_at_call 36; refine (end36 wr.heap.size f c _ (by omega) (by omega) (by omega) (by omega) (by omega) ?_ ?_).mono ?_; (go_simp); (go_simp); rintro e w' ⟨rfl, nn, rfl⟩) | (go_at_call 37; refine (ackEnd37 wr.heap.size af ac _ (by omega) (by omega) (by omega) (by omega) (by omega) ?_ ?_).mono ?_; (go_simp); (go_simp); rintro e w' ⟨rfl, nn, rfl⟩))
          go_roundw
          case rel => exact ⟨k + 1, nx, ak, by omega, by go_num, rfl, rfl, by omega, by omega, by omega, by omega, HX.out, HY.out, (by repeat (first | exact HBA.out _ | apply bel_drewN))⟩
          case measure => simp [intOf]; omega
        · replace t6 := t6 a1
          have Y := HA.out.trans (step_skip (by omega))
          have HY : Hid _ := Y
          clear Y
          go_wp2_with (first | (go_at_call 36; refine (end36 wr.heap.size f c _ (by omega) (by omega) (by omega) (by omega) (by omega) ?_ ?_).mono ?_; (go_simp); (go_simp); rintro e w' ⟨rfl, nn, rfl⟩) | (go_at_call 37; refine (ackEnd37 wr.heap.size af ac _ (by omega) (by omega) (by omega) (by omega) (by omega) ?_ ?_).mono ?_; (go_simp); (go_simp); rintro e w' ⟨rfl, nn, rfl⟩))
          go_roundw
          case rel => exact ⟨k + 1, nx, ak, by omega, by go_num, rfl, rfl, by omega, by omega, by omega, by omega, HX.out, HY.out, (by repeat (first | exact HBA.out _ | apply bel_drewN))⟩
          case measure => simp [intOf]; omega
        · replace t6 := t6 a1
          have Y := HA.out.trans (step_take a1 a2 a3)
          have HY : Hid _ := Y
          clear Y
          go_wp2_with (first | (go_at_call 36; refine (end36 wr.heap.size f c _ (by omega) (by omega) (by omega) (by omega) (by omega) ?_ ?_).mono ?_; (go_simp); (go_simp); rintro e w' ⟨rfl, nn, rfl⟩) | (go_at_call 37; refine (ackEnd37 wr.heap.size af ac _ (by omega) (by omega) (by omega) (by omega) (by omega) ?_ ?_).mono ?_; (go_simp); (go_simp); rintro e w' ⟨rfl, nn, rfl⟩))
          go_roundw
          case rel => exact ⟨k + 1, nx, af + ac, by omega, by go_num, rfl, rfl, by omega, by omega, by omega, by omega, HX.out, HY.out, (by repeat (first | exact HBA.out _ | apply bel_drewN))⟩
          case measure => simp [intOf]; omega
        · replace t6 := t6 a1
          have Y := HA.out.trans (step_fail a1 a2 a3)
          have HY : Hid _ := Y
          clear Y
          go_wp2_with (first | (go_at_call 36; refine (end36 wr.heap.size f c _ (by omega) (by omega) (by omega) (by omega) (by omega) ?_ ?_).mono ?_; (go_simp); (go_simp); rintro e w' ⟨rfl, nn, rfl⟩) | (go_at_call 37; refine (ackEnd37 wr.heap.size af ac _ (by omega) (by omega) (by omega) (by omega) (by omega) ?_ ?_).mono ?_; (go_simp); (go_simp); rintro e w' ⟨rfl, nn, rfl⟩))
          go_ret
          exact CovPost.intro false rfl (not_cov_ack (cov_none HY.out)) (by repeat (first | exact HBA.out _ | apply bel_drewN))
      · replace t3 := t3 m1
        have X := HM.out.trans (step_skip (by omega))
        have HX : Hid _ := X
        clear X
        rcases (show ac ≤ 0 ∨ (0 < ac ∧ af + ac ≤ ak) ∨ (0 < ac ∧ ak < af + ac ∧ af ≤ ak) ∨ (0 < ac ∧ ak < af + ac ∧ ak < af) from by omega) with a1 | ⟨a1, a2⟩ | ⟨a1, a2, a3⟩ | ⟨a1, a2, a3⟩
        · clear t6
          have Y := HA.out.trans (step_skip (by omega))
          have HY : Hid _ := Y
          clear Y
          go_wp2_with (first | (go_at_call 36; refine (end36 wr.heap.size f c _ (by omega) (by omega) (by omega) (by omega) (by omega) ?_ ?_).mono ?_; (go_simp); (go_simp); rintro e w' ⟨rfl, nn, rfl⟩) | (go_at_call 37; refine (ackEnd37 wr.heap.size af ac _ (by omega) (by omega) (by omega) (by omega) (by omega) ?_ ?_).mono ?_; (go_simp); (go_simp); rintro e w' ⟨rfl, nn, rfl⟩))
          go_roundw
          case rel => exact ⟨k + 1, nx, ak, by omega, by go_num, rfl, rfl, by omega, by omega, by omega, by omega, HX.out, HY.out, (by repeat (first | exact HBA.out _ | apply bel_drewN))⟩
          case measure => simp [intOf]; omega
        · replace t6 := t6 a1
          have Y := HA.out.trans (step_skip (by omega))
          have HY : Hid _ := Y
          clear Y
          go_wp2_with (first | (go_at_call 36; refine (end36 wr.heap.size f c _ (by omega) (by omega) (by omega) (by omega) (by omega) ?_ ?_).mono ?_; (go_simp); (go_simp); rintro e w' ⟨rfl, nn, rfl⟩) | (go_at_call 37; refine (ackEnd37 wr.heap.size af ac _ (by omega) (by omega) (by omega) (by omega) (by omega) ?_ ?_).mono ?_; (go_simp); (go_simp); rintro e w' ⟨rfl, nn, rfl⟩))
          go_roundw
          case rel => exact ⟨k + 1, nx, ak, by omega, by go_num, rfl, rfl, by omega, by omega, by omega, by omega, HX.out, HY.out, (by repeat (first | exact HBA.out _ | apply bel_drewN))⟩
          case measure => simp [intOf]; omega
        · replace t6 := t6 a1
          have Y := HA.out.trans (step_take a1 a2 a3)
          have HY : Hid _ := Y
          clear Y
          go_wp2_with (first | (go_at_call 36; refine (end36 wr.heap.size f c _ (by omega) (by omega) (by omega) (by omega) (by omega) ?_ ?_).mono ?_; (go_simp); (go_simp); rintro e w' ⟨rfl, nn, rfl⟩) | (go_at_call 37; refine (ackEnd37 wr.heap.size af ac _ (by omega) (by omega) (by omega) (by omega) (by omega) ?_ ?_).mono ?_; (go_simp); (go_simp); rintro e w' ⟨rfl, nn, rfl⟩))
          go_roundw
          case rel => exact ⟨k + 1, nx, af + ac, by omega, by go_num, rfl, rfl, by omega, by omega, by omega, by omega, HX.out, HY.out, (by repeat (first | exact HBA.out _ | apply bel_drewN))⟩
          case measure => simp [intOf]; omega
        · replace t6 := t6 a1
          have Y := HA.out.trans (step_fail a1 a2 a3)
          have HY : Hid _ := Y
          clear Y
          go_wp2_with (first | (go_at_call 36; refine (end36 wr.heap.size f c _ (by omega) (by omega) (by omega) (by omega) (by omega) ?_ ?_).mono ?_; (go_simp); (go_simp); rintro e w' ⟨rfl, nn, rfl⟩) | (go_at_call 37; refine (ackEnd37 wr.heap.size af ac _ (by omega) (by omega) (by omega) (by omega) (by omega) ?_ ?_).mono ?_; (go_simp); (go_simp); rintro e w' ⟨rfl, nn, rfl⟩))
          go_ret
          exact CovPost.intro false rfl (not_cov_ack (cov_none HY.out)) (by repeat (first | exact HBA.out _ | apply bel_drewN))
      · replace t3 := t3 m1
        have X := HM.out.trans (step_take m1 m2 m3)
        have HX : Hid _ := X
        clear X
        rcases (show ac ≤ 0 ∨ (0 < ac ∧ af + ac ≤ ak) ∨ (0 < ac ∧ ak < af + ac ∧ af ≤ ak) ∨ (0 < ac ∧ ak < af + ac ∧ ak < af) from by omega) with a1 | ⟨a1, a2⟩ | ⟨a1, a2, a3⟩ | ⟨a1, a2, a3⟩
        · clear t6
          have Y := HA.out.trans (step_skip (by omega))
          have HY : Hid _ := Y
          clear Y
          go_wp2_with (first | (go_at_call 36; refine (end36 wr.heap.size f c _ (by omega) (by omega) (by omega) (by omega) (by omega) ?_ ?_).mono ?_; (go_simp); (go_simp); rintro e w' ⟨rfl, nn, rfl⟩) | (go_at_call 37; refine (ackEnd37 wr.heap.size af ac _ (by omega) (by omega) (by omega) (by omega) (by omega) ?_ ?_).mono ?_; (go_simp); (go_simp); rintro e w' ⟨rfl, nn, rfl⟩))
          go_roundw
          case rel => exact ⟨k + 1, f + c, ak, by omega, by go_num, rfl, rfl, by omega, by omega, by omega, by omega, HX.out, HY.out, (by repeat (first | exact HBA.out _ | apply bel_drewN))⟩
          case measure => simp [intOf]; omega
        · replace t6 := t6 a1
          have Y := HA.out.trans (step_skip (by omega))
          have HY : Hid _ := Y
          clear Y
          go_wp2_with (first | (go_at_call 36; refine (end36 wr.heap.size f c _ (by omega) (by omega) (by omega) (by omega) (by omega) ?_ ?_).mono ?_; (go_simp); (go_simp); rintro e w' ⟨rfl, nn, rfl⟩) | (go_at_call 37; refine (ackEnd37 wr.heap.size af ac _ (by omega) (by omega) (by omega) (by omega) (by omega) ?_ ?_).mono ?_; (go_simp); (go_simp); rintro e w' ⟨rfl, nn, rfl⟩))
          go_roundw
          case rel => exact ⟨k + 1, f + c, ak, by omega, by go_num, rfl, rfl, by omega, by omega, by omega, by omega, HX.out, HY.out, (by repeat (first | exact HBA.out _ | apply bel_drewN))⟩
          case measure => simp [intOf]; omega
        · replace t6 := t6 a1
          have Y := HA.out.trans (step_take a1 a2 a3)
          have HY : Hid _ := Y
          clear Y
          go_wp2_with (first | (go_at_call 36; refine (end36 wr.heap.size f c _ (by omega) (by omega) (by omega) (by omega) (by omega) ?_ ?_).mono ?_; (go_simp); (go_simp); rintro e w' ⟨rfl, nn, rfl⟩) | (go_at_call 37; refine (ackEnd37 wr.heap.size af ac _ (by omega) (by omega) (by omega) (by omega) (by omega) ?_ ?_).mono ?_; (go_simp); (go_simp); rintro e w' ⟨rfl, nn, rfl⟩))
          go_roundw
          case rel => exact ⟨k + 1, f + c, af + ac, by omega, by go_num, rfl, rfl, by omega, by omega, by omega, by omega, HX.out, HY.out, (by repeat (first | exact HBA.out _ | apply bel_drewN))⟩
          case measure => simp [intOf]; omega
        · replace t6 := t6 a1
          have Y := HA.out.trans (step_fail a1 a2 a3)
          have HY : Hid _ := Y
          clear Y
          go_wp2_with (first | (go_at_call 36; refine (end36 wr.heap.size f c _ (by omega) (by omega) (by omega) (by omega) (by omega) ?_ ?_).mono ?_; (go_simp); (go_simp); rintro e w' ⟨rfl, nn, rfl⟩) | (go_at_call 37; refine (ackEnd37 wr.heap.size af ac _ (by omega) (by omega) (by omega) (by omega) (by omega) ?_ ?_).mono ?_; (go_simp); (go_simp); rintro e w' ⟨rfl, nn, rfl⟩))
          go_ret
          exact CovPost.intro false rfl (not_cov_ack (cov_none HY.out)) (by repeat (first | exact HBA.out _ | apply bel_drewN))
      · replace t3 := t3 m1
        have X := HM.out.trans (step_fail m1 m2 m3)
        have HX : Hid _ := X
        clear X t6
        go_wp2_with (first | (go_at_call 36; refine (end36 wr.heap.size f c _ (by omega) (by omega) (by omega) (by omega) (by omega) ?_ ?_).mono ?_; (go_simp); (go_simp); rintro e w' ⟨rfl, nn, rfl⟩) | (go_at_call 37; refine (ackEnd37 wr.heap.size af ac _ (by omega) (by omega) (by omega) (by omega) (by omega) ?_ ?_).mono ?_; (go_simp); (go_simp); rintro e w' ⟨rfl, nn, rfl⟩))
        go_ret
        exact CovPost.intro false rfl (not_cov_msg (cov_none HX.out)) (by repeat (first | exact HBA.out _ | apply bel_drewN))
    · have hke : (rs.map msg).take k = rs.map msg := List.take_of_length_le (by rw [List.length_map, HN.out]; omega)
      have hke' : (rs.map ack).take k = rs.map ack := List.take_of_length_le (by rw [List.length_map, HN.out]; omega)
      rw [hke] at hcm
      rw [hke'] at hca
      have HCM : Hid _ := hcm
      have HCA : Hid _ := hca
      replace q5 := cell_later hbr q5
      replace q6 := cell_later hbr q6
      replace q7 := cell_later hbr q7
      clear hcm hca hke hke' hcells hF hva q1
      by_cases hn1' : nx = last + 1
      · subst hn1'
        by_cases hn2 : ak = base + acked + 1
        · subst hn2
          go_wp2_with (go_at_call 38; refine (head38 q base acked _ (by omega) (by omega) (by omega) (by omega) ?_ ?_).mono ?_; (go_simp); (go_simp); rintro e w' ⟨rfl, nn, rfl⟩)
          go_ret
          exact CovPost.intro true rfl ⟨fun _ => ⟨HCM.out, HCA.out⟩, fun _ => rfl⟩ (bel_drewN hbr _)
        · have hf : (ak == base + acked + 1) = false := by simpa using hn2
          have HN2 : Hid _ := hn2
          clear hn2
          go_wp2_with (go_at_call 38; refine (head38 q base acked _ (by omega) (by omega) (by omega) (by omega) ?_ ?_).mono ?_; (go_simp); (go_simp); rintro e w' ⟨rfl, nn, rfl⟩)
          go_ret
          exact CovPost.intro false rfl ⟨fun h => Bool.noConfusion h, fun h => absurd (Option.some.inj (HCA.out.symm.trans h.2)) HN2.out⟩ (bel_drewN hbr _)
      · have hf : (nx == last + 1) = false := by simpa using hn1'
        have HN1 : Hid _ := hn1'
        clear hn1'
        go_wp2
        go_ret
        exact CovPost.intro false rfl ⟨fun h => Bool.noConfusion h, fun h => absurd (Option.some.inj (HCM.out.symm.trans h.1)) HN1.out⟩ hbr

end Go.Proofs.Qxb6614239a
