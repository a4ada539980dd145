/-
  zzBytes (28) and FnSpansCoverKeepsItsAnswerWhenASpanIsCut (7).
-/
import Derived.Test.Qxb6614239aCutLaw
import Derived.Deep.DeepCutAuto
namespace Go.Proofs.Qxb6614239a
open Go.RowKit

/-- What the four numbers of a span are by their kinds. -/
def RangeS (s : S4) : Prop := 0 ≤ s.1 ∧ s.1 ≤ 18446744073709551615 ∧ 0 ≤ s.2.2.1 ∧ s.2.2.1 ≤ 18446744073709551615 ∧ -9223372036854775808 ≤ s.2.1 ∧ s.2.1 ≤ 9223372036854775807 ∧ -9223372036854775808 ≤ s.2.2.2 ∧ s.2.2.2 ≤ 9223372036854775807

set_option maxHeartbeats 1000000 in
theorem zz28 (base last acked at' cut acut : Int) (a : Option Addr) (len cap : Nat) (w : World) (hl : len ≤ maxLen) :
    Calls Try.prog 28 #[.int .u64 base, .int .u64 last, .int .i64 acked, .slice a len cap, .int .i64 at', .int .i64 cut, .int .i64 acut] w fun e w' => (e = .returned (.bool true) ∨ e = .returned (.bool false)) ∧ w' = w := by
  unfold maxLen at hl
  by_cases h : (1048576 : Int) < (len : Int)
  · go_enter Try.func28, Try.ntmps28
    go_wp2
    go_ret
    exact ⟨Or.inr rfl, rfl⟩
  · go_enter Try.func28, Try.ntmps28
    go_wp2
    go_ret
    exact ⟨Or.inl rfl, rfl⟩

theorem fit_snoc {rs : List S4} {k : Nat} {s : S4} (h : ∀ x ∈ rs.take k, Fit x) (hk : rs[k]? = some s) (hs : Fit s) : ∀ x ∈ rs.take (k + 1), Fit x := by
  have hlt : k < rs.length := by
    rcases Nat.lt_or_ge k rs.length with h | h
    · exact h
    · rw [List.getElem?_eq_none h] at hk; cases hk
  rw [List.take_succ_eq_append_getElem hlt]
  rw [List.getElem?_eq_getElem hlt] at hk
  obtain rfl := Option.some.inj hk
  intro x hx
  rcases List.mem_append.1 hx with hx | hx
  · exact h x hx
  · rw [List.mem_singleton.1 hx]; exact hs

set_option maxHeartbeats 32000000 in
set_option maxRecDepth 100000 in
theorem law_walk (base last acked at' cut acut : Int) (a : Option Addr) (len cap : Nat) (rs : List S4) (w : World) (hS : Spns w a len rs) (hO : ∀ s ∈ rs, RangeS s) (hl : len ≤ maxLen)
    (b0 : 0 ≤ base) (b1 : base ≤ 18446744073709551615) (l0 : 0 ≤ last) (l1 : last ≤ 18446744073709551615) (k0 : -9223372036854775808 ≤ acked) (k1 : acked ≤ 9223372036854775807) (i0 : -9223372036854775808 ≤ at') (i1 : at' ≤ 9223372036854775807) (u0 : -9223372036854775808 ≤ cut) (u1 : cut ≤ 9223372036854775807) (v0 : -9223372036854775808 ≤ acut) (v1 : acut ≤ 9223372036854775807) :
    Calls Try.prog 7 #[.int .u64 base, .int .u64 last, .int .i64 acked, .slice a len cap, .int .i64 at', .int .i64 cut, .int .i64 acut] w fun e w' => e = .returned (.bool true) ∧ Below w.heap.size w w' := by
  have hl' := hl
  unfold maxLen at hl'
  by_cases hout : (1024 : Int) < (len : Int) ∨ last < base ∨ last = 18446744073709551615 ∨ acked < 0 ∨ last - base < acked
  · rcases (show (1024 : Int) < (len : Int) ∨ ((len : Int) ≤ 1024 ∧ last < base) ∨ ((len : Int) ≤ 1024 ∧ base ≤ last ∧ last = 18446744073709551615) ∨ ((len : Int) ≤ 1024 ∧ base ≤ last ∧ last ≤ 18446744073709551614 ∧ acked < 0) ∨ ((len : Int) ≤ 1024 ∧ base ≤ last ∧ last ≤ 18446744073709551614 ∧ 0 ≤ acked ∧ last - base < acked) from by omega) with h | ⟨h, h2⟩ | ⟨h, h2, rfl⟩ | ⟨h, h2, h3, h4⟩ | ⟨h, h2, h3, h4, h5⟩
    all_goals clear hout
    rotate_left 3
    all_goals try (have hlm : (last == 18446744073709551615) = false := by simp; omega)
    all_goals go_enter Try.func7, Try.ntmps7
    all_goals go_wp2_with fail
    all_goals refine (zz28 base _ acked at' cut acut a len cap w hl).mono ?_
    all_goals rintro e w' ⟨he, rfl⟩
    all_goals rcases he with rfl | rfl
    all_goals clear hS hO
    all_goals go_wp2
    all_goals go_ret
    all_goals exact ⟨rfl, Below.refl _ _⟩
  obtain ⟨h1, h2, h3, h4, h5⟩ : (len : Int) ≤ 1024 ∧ base ≤ last ∧ last ≤ 18446744073709551614 ∧ 0 ≤ acked ∧ acked ≤ last - base := by omega
  clear hout
  have hlm : (last == 18446744073709551615) = false := by simp; omega
  go_enter Try.func7, Try.ntmps7
  go_wp2_with fail
  refine (zz28 base last acked at' cut acut a len cap w hl).mono ?_
  rintro e w' ⟨he, rfl⟩
  rcases he with rfl | rfl
  rotate_left
  · clear hS hO
    go_wp2
    go_ret
    exact ⟨rfl, Below.refl _ _⟩
  go_wp2
  go_loopw [15] (fun i wr => ∃ k : Nat, k ≤ len ∧ i = .int .i64 k ∧ (∀ s ∈ rs.take k, Fit s) ∧ ∃ n, wr = w'.drewN n) (fun i _ => len - (intOf i).toNat)
  case atStart => exact ⟨0, Nat.zero_le _, rfl, fun s hs => absurd hs (by simp), 0, rfl⟩
  case round =>
    obtain ⟨k, hk, rfl, hft, n, rfl⟩ := hrel
    by_cases hlt : k < len
    · obtain ⟨b, off, f, c, af, ac, rfl, hrk, c0, c1, c2, c3⟩ := hS.at hlt
      have hr := hO _ (List.mem_of_getElem? hrk)
      unfold RangeS at hr
      obtain ⟨r1, r2, r3, r4, r5, r6, r7, r8⟩ := hr
      simp only at r1 r2 r3 r4 r5 r6 r7 r8
      have HFT : Hid _ := hft
      have HRK : Hid _ := hrk
      have hlI : (k : Int) < (len : Int) := by omega
      have hkI : (0 : Int) ≤ (k : Int) := by omega
      clear hS hO hft hrk
      rcases (show c ≤ 0 ∨ (0 < c ∧ c ≤ 18446744073709551615 - f) ∨ (0 < c ∧ 18446744073709551615 - f < c) from by omega) with m1 | ⟨m1, m2⟩ | ⟨m1, m2⟩
      rotate_right
      · go_wp2
        go_quiet (fail)
        go_wp2
        go_ret
        exact ⟨rfl, by repeat (first | exact Below.refl _ _ | apply bel_drewN)⟩
      all_goals rcases (show ac ≤ 0 ∨ (0 < ac ∧ ac ≤ 18446744073709551615 - af) ∨ (0 < ac ∧ 18446744073709551615 - af < ac) from by omega) with a1 | ⟨a1, a2⟩ | ⟨a1, a2⟩
      all_goals try (have hd1 : decide (0 < c) = false := decide_eq_false (by omega))
      all_goals try (have hd2 : decide (0 < ac) = false := decide_eq_false (by omega))
      all_goals go_wp2
      all_goals go_quiet (fail)
      all_goals go_wp2
      all_goals go_quiet (fail)
      all_goals go_wp2
      all_goals first
        | (go_ret; exact ⟨rfl, by repeat (first | exact Below.refl _ _ | apply bel_drewN)⟩)
        | (go_roundw
           case rel => exact ⟨k + 1, by omega, by go_num, fit_snoc HFT.out HRK.out (by unfold Fit; simp only; omega), _, rfl⟩
           case measure => simp [intOf]; omega)
    · have hF : ∀ s ∈ rs, Fit s := by
        rwa [List.take_of_length_le (by rw [hS.len_eq]; omega)] at hft
      clear hft hk hO
      generalize hW : w'.drewN n = W
      have hSW : Spns W a len rs := by rw [← hW]; exact ⟨hS.len_eq, hS.cells⟩
      have hbW : Below w'.heap.size w' W := by rw [← hW]; exact bel_drewN (Below.refl _ _) _
      have HS0 : Hid _ := hS
      clear hW hS
      by_cases hat : at' < 0 ∨ (len : Int) ≤ at'
      · rcases (show at' < 0 ∨ (0 ≤ at' ∧ (len : Int) ≤ at') from by omega) with g1 | ⟨g1, g2⟩
        all_goals clear hat hF hSW
        all_goals go_wp2
        all_goals go_ret
        all_goals exact ⟨rfl, hbW⟩
      obtain ⟨g1, g2⟩ : 0 ≤ at' ∧ at' < (len : Int) := by omega
      obtain ⟨j, rfl⟩ : ∃ j : Nat, at' = (j : Int) := ⟨at'.toNat, by omega⟩
      clear hat i0 i1
      obtain ⟨b, off, f, c, af, ac, rfl, hrj, c0, c1, c2, c3⟩ := hSW.at (k := j) (by omega)
      have hfj := hF _ (List.mem_of_getElem? hrj)
      unfold Fit at hfj
      obtain ⟨r1, r2, r3, r4, r5, r6, r7, r8, r9, r10⟩ := hfj
      simp only at r1 r2 r3 r4 r5 r6 r7 r8 r9 r10
      obtain ⟨mc, hmc⟩ : ∃ mc, mc = if c < 0 then 0 else c := ⟨_, rfl⟩
      obtain ⟨ma, hma⟩ : ∃ ma, ma = if ac < 0 then 0 else ac := ⟨_, rfl⟩
      have HMC : Hid _ := hmc
      have HMA : Hid _ := hma
      have HRJ : Hid _ := hrj
      have HF : Hid _ := hF
      have HSW : Hid _ := hSW
      have HR3 : Hid _ := r3
      have HR6 : Hid _ := r6
      clear hmc hma hrj hF hSW r3 r6
      go_upto_if 116 with (fail)
      go_cut [16] (fun v u => v = .int .i64 mc ∧ W = u)
      case first =>
        by_cases hc : c < 0
        · have hm : mc = 0 := by rw [HMC.out, if_pos hc]
          go_wp2
          go_meet
          case rel => exact ⟨by rw [hm], rfl⟩
        · have hm : mc = c := by rw [HMC.out, if_neg hc]
          go_wp2
          go_meet
          case rel => exact ⟨by rw [hm], rfl⟩
      case rest =>
        obtain ⟨rfl, rfl⟩ := hcut
        have hmc0 : 0 ≤ mc ∧ (mc = c ∨ (c < 0 ∧ mc = 0)) := by
          rw [HMC.out]; split <;> omega
        by_cases hq : cut < 0 ∨ mc < cut
        · rcases (show cut < 0 ∨ (0 ≤ cut ∧ mc < cut) from by omega) with g3 | ⟨g3, g4⟩
          all_goals clear hq
          all_goals go_wp2
          all_goals go_ret
          all_goals exact ⟨rfl, hbW⟩
        obtain ⟨g3, g4⟩ : 0 ≤ cut ∧ cut ≤ mc := by omega
        clear hq
        go_upto_if 130 with (fail)
        go_cut [17] (fun v u => v = .int .i64 ma ∧ W = u)
        case first =>
          by_cases hc : ac < 0
          · have hm : ma = 0 := by rw [HMA.out, if_pos hc]
            go_wp2
            go_meet
            case rel => exact ⟨by rw [hm], rfl⟩
          · have hm : ma = ac := by rw [HMA.out, if_neg hc]
            go_wp2
            go_meet
            case rel => exact ⟨by rw [hm], rfl⟩
        case rest =>
          obtain ⟨rfl, rfl⟩ := hcut
          have hma0 : 0 ≤ ma ∧ (ma = ac ∨ (ac < 0 ∧ ma = 0)) := by
            rw [HMA.out]; split <;> omega
          by_cases hq : acut < 0 ∨ ma < acut
          · rcases (show acut < 0 ∨ (0 ≤ acut ∧ ma < acut) from by omega) with g5 | ⟨g5, g6⟩
            all_goals clear hq
            all_goals go_wp2
            all_goals go_ret
            all_goals exact ⟨rfl, hbW⟩
          obtain ⟨g5, g6⟩ : 0 ≤ acut ∧ acut ≤ ma := by omega
          clear hq
          have HCO : Hid (∀ f c af ac, rs[j]? = some (f, c, af, ac) → CutOk c cut ∧ CutOk ac acut) := by
            intro f' c' af' ac' h'
            rw [HRJ.out] at h'
            obtain ⟨rfl, rfl, rfl, rfl⟩ : f = f' ∧ c = c' ∧ af = af' ∧ ac = ac' := by simpa using h'
            unfold CutOk
            omega
          go_wp2_with fail
          refine (new24 base last acked _).mono ?_
          rintro e x1 ⟨rfl, hq1, hbx1⟩
          go_wp2_with fail
          refine (new24 base last acked _).mono ?_
          rintro e x2 ⟨rfl, hq2, hbx2⟩
          have hQ1 := (hq1 w'.heap.size hbW.size).below hbx2
          have hz1 : w'.heap.size ≤ x1.heap.size := Nat.le_trans hbW.size hbx1.size
          have hQ2 := hq2 w'.heap.size hz1
          have hne : W.heap.size ≠ x1.heap.size := by
            obtain ⟨cs, hcs, _⟩ := (hq1 w'.heap.size hbW.size).blk
            have := lt_of_block hcs
            omega
          have hT0 : TQ x2 w'.heap.size W.heap.size x1.heap.size base last acked [] [] := ⟨_, _, hQ1, hQ2, hne, fun k h => by cases h⟩
          have hB0 : Below w'.heap.size w' x2 := (hbW.trans (hbx1.mono hbW.size)).trans (hbx2.mono hz1)
          generalize W.heap.size = q1 at hT0 ⊢
          generalize x1.heap.size = q2 at hT0 ⊢
          clear hq1 hq2 hQ1 hQ2 hne hbx1 hbx2 hz1 c0 c1 c2 c3
          have HSX : Hid (Spns w' (some ⟨b, off, none⟩) len rs) := HS0.out
          clear HSW hbW
          go_wp2
          go_loopw [20] (fun i wr => ∃ k : Nat, k ≤ len ∧ i = .int .i64 k ∧ TQ wr w'.heap.size q1 q2 base last acked (rs.take k) (cutTo rs j cut acut k) ∧ Below w'.heap.size w' wr) (fun i _ => len - (intOf i).toNat)
          case atStart => exact ⟨0, Nat.zero_le _, rfl, hT0, hB0⟩
          case round =>
            obtain ⟨k, hk, rfl, hT, hB⟩ := hrel
            clear hT0 hB0
            by_cases hlt : k < len
            · obtain ⟨b', off', fk, ck, afk, akk, hbe, hrk, e0, e1, e2, e3⟩ := HSX.out.at hlt
              simp only [Option.some.injEq, Addr.mk.injEq, and_true] at hbe
              obtain ⟨rfl, rfl⟩ := hbe
              replace e0 := cell_later hB e0
              replace e1 := cell_later hB e1
              replace e2 := cell_later hB e2
              replace e3 := cell_later hB e3
              have hfit := HF.out _ (List.mem_of_getElem? hrk)
              unfold Fit at hfit
              have HFK : Hid _ := hfit
              have ht1 : rs.take (k + 1) = rs.take k ++ [(fk, ck, afk, akk)] := by
                have hkr : k < rs.length := by rw [HSX.out.len_eq]; exact hlt
                have hrk' := hrk
                rw [List.getElem?_eq_getElem hkr] at hrk'
                rw [List.take_succ_eq_append_getElem hkr, Option.some.inj hrk']
              have HT1 : Hid _ := ht1
              have HRK : Hid _ := hrk
              have hl1 : (rs.take k).length ≤ 1048576 := by simp; omega
              have hl2 : (cutTo rs j cut acut k).length ≤ 2048 := by have := cutTo_len rs j cut acut k; omega
              have hTa := hT.below ((Below.refl _ _).alloc (Nat.le_refl _) (.cells #[.int .u64 fk, .int .i64 ck, .int .u64 afk, .int .i64 akk] 48))
              have hBa : Below w'.heap.size w' (wr.alloc (.cells #[.int .u64 fk, .int .i64 ck, .int .u64 afk, .int .i64 akk] 48)) := hB.alloc hB.size _
              clear hfit ht1 hrk hT hB
              obtain ⟨v1, v2, hA1, hA2, hne, hdis⟩ := hTa
              have HA : Hid _ := And.intro hA1 (And.intro hA2 (And.intro hne hdis))
              clear hA1 hA2 hne hdis
              go_wp2_with fail
              refine (add25 w'.heap.size q1 base last acked v1 (rs.take k) fk ck afk akk _ HA.out.1 hl1).mono ?_
              rintro e y1 ⟨rfl, hAdd1⟩
              obtain ⟨hT1, hBy1, hbox⟩ := tq_add HA.out.1 HA.out.2.1 HA.out.2.2.1 HA.out.2.2.2 hAdd1
              have hbx := hbox wr.heap.size #[.int .u64 fk, .int .i64 ck, .int .u64 afk, .int .i64 akk] (heap_alloc_new _ _)
              have z0 : y1.cell? ⟨wr.heap.size, 0, none⟩ = some (.int .u64 fk) := cell_of_row y1 _ 0 _ _ _ hbx
              have z1 : y1.cell? ⟨wr.heap.size, 1, none⟩ = some (.int .i64 ck) := cell_of_row y1 _ 1 _ _ _ hbx
              have z2 : y1.cell? ⟨wr.heap.size, 2, none⟩ = some (.int .u64 afk) := cell_of_row y1 _ 2 _ _ _ hbx
              have z3 : y1.cell? ⟨wr.heap.size, 3, none⟩ = some (.int .i64 akk) := cell_of_row y1 _ 3 _ _ _ hbx
              have HBX : Hid _ := hbx
              have hBb := hBa.trans hBy1
              clear hAdd1 hbox hbx HA hBy1 hBa e0 e1 e2 e3
              obtain ⟨v2', v1', hA1, hA2, hne, hdis⟩ := hT1.swap
              have HA : Hid _ := And.intro hA1 (And.intro hA2 (And.intro hne hdis))
              clear hA1 hA2 hne hdis hT1
              by_cases hkj : k = j
              · obtain ⟨rfl, rfl, rfl, rfl⟩ : f = fk ∧ c = ck ∧ af = afk ∧ ac = akk := by
                  have h1 := HRJ.out
                  rw [← hkj, HRK.out] at h1
                  simp only [Option.some.injEq, Prod.mk.injEq] at h1
                  exact ⟨h1.1.symm, h1.2.1.symm, h1.2.2.1.symm, h1.2.2.2.symm⟩
                have hkj' : ((k : Int) == (j : Int)) = true := by simp [hkj]
                have HKJ : Hid _ := hkj
                have hfc : f + cut ≤ 18446744073709551615 := by
                  by_cases h : 0 < c
                  · have := HR3.out h; omega
                  · omega
                have hac : af + acut ≤ 18446744073709551615 := by
                  by_cases h : 0 < ac
                  · have := HR6.out h; omega
                  · omega
                have d1 : -9223372036854775808 ≤ c - cut := by omega
                have d2 : c - cut ≤ 9223372036854775807 := by omega
                have d3 : -9223372036854775808 ≤ ac - acut := by omega
                have d4 : ac - acut ≤ 9223372036854775807 := by omega
                clear hkj
                go_wp2_with fail
                refine (add25 w'.heap.size q2 base last acked v2' (cutTo rs j cut acut k) f cut af acut _ HA.out.1 (by omega)).mono ?_
                rintro e y2 ⟨rfl, hAdd2⟩
                obtain ⟨hT2, hBy2, hbox2⟩ := tq_add HA.out.1 HA.out.2.1 HA.out.2.2.1 HA.out.2.2.2 hAdd2
                have hbx2 := hbox2 wr.heap.size _ HBX.out
                have y0 : y2.cell? ⟨wr.heap.size, 0, none⟩ = some (.int .u64 f) := cell_of_row y2 _ 0 _ _ _ hbx2
                have y1' : y2.cell? ⟨wr.heap.size, 1, none⟩ = some (.int .i64 c) := cell_of_row y2 _ 1 _ _ _ hbx2
                have y2' : y2.cell? ⟨wr.heap.size, 2, none⟩ = some (.int .u64 af) := cell_of_row y2 _ 2 _ _ _ hbx2
                have y3' : y2.cell? ⟨wr.heap.size, 3, none⟩ = some (.int .i64 ac) := cell_of_row y2 _ 3 _ _ _ hbx2
                have hBc := hBb.trans hBy2
                clear hAdd2 hbox2 hbx2 HA hBy2 hBb z0 z1 z2 z3 HBX
                obtain ⟨w1, w2, hA1, hA2, hne, hdis⟩ := hT2
                have HA : Hid _ := And.intro hA1 (And.intro hA2 (And.intro hne hdis))
                clear hA1 hA2 hne hdis
                go_wp2_with fail
                refine (add25 w'.heap.size q2 base last acked w1 _ (f + cut) (c - cut) (af + acut) (ac - acut) _ HA.out.1 (by simp; omega)).mono ?_
                rintro e y3 ⟨rfl, hAdd3⟩
                obtain ⟨hT3, hBy3, _⟩ := tq_add HA.out.1 HA.out.2.1 HA.out.2.2.1 HA.out.2.2.2 hAdd3
                have hBd := hBc.trans hBy3
                clear hAdd3 HA hBy3 hBc y0 y1' y2' y3'
                go_wp2
                go_roundw
                case rel => exact ⟨k + 1, by omega, by go_num, by rw [HT1.out, cutTo_at HRK.out HKJ.out]; exact hT3.swap, hBd⟩
                case measure => simp [intOf]; omega
              · have hkj' : ((k : Int) == (j : Int)) = false := by simp; omega
                have HKJ : Hid _ := hkj
                clear hkj
                go_wp2_with fail
                refine (add25 w'.heap.size q2 base last acked v2' (cutTo rs j cut acut k) fk ck afk akk _ HA.out.1 (by omega)).mono ?_
                rintro e y2 ⟨rfl, hAdd2⟩
                obtain ⟨hT2, hBy2, _⟩ := tq_add HA.out.1 HA.out.2.1 HA.out.2.2.1 HA.out.2.2.2 hAdd2
                have hBc := hBb.trans hBy2
                clear hAdd2 HA hBy2 hBb z0 z1 z2 z3 HBX
                go_wp2
                go_roundw
                case rel => exact ⟨k + 1, by omega, by go_num, by rw [HT1.out, cutTo_other HRK.out HKJ.out]; exact hT2.swap, hBc⟩
                case measure => simp [intOf]; omega
            · have hlen := HSX.out.len_eq
              have hke : rs.take k = rs := List.take_of_length_le (by omega)
              obtain rfl : k = len := by omega
              rw [hke] at hT
              obtain ⟨v1, v2, h1', h2', _, _⟩ := hT
              have hcc := cov_cut (base + 1) HCO.out k (by omega)
              rw [hke] at hcc
              have hce : Covers base last acked (cutTo rs j cut acut k) ↔ Covers base last acked rs := by
                unfold Covers
                rw [hcc.1, hcc.2]
              have hfc := fit_cut HF.out HCO.out k
              have hl2 := cutTo_len rs j cut acut k
              have HQ : Hid _ := And.intro h1' h2'
              have HCE : Hid _ := hce
              have HFC : Hid _ := hfc
              have hrl : rs.length ≤ 1048576 := by omega
              have hcl : (cutTo rs j cut acut k).length ≤ 1048576 := by omega
              clear h1' h2' hce hfc hcc hke hlen hl2
              go_wp2_with fail
              refine (cover26 w'.heap.size q1 base last acked v1 rs _ HQ.out.1 hrl (by omega) (by omega) (by omega) (by omega) (by omega) (by omega) HF.out).mono ?_
              rintro e y1 ⟨bb1, rfl, hb1', hby1⟩
              have HB1 : Hid _ := hb1'
              have hBy1 := hB.trans (hby1.mono hB.size)
              have HQ2 : Hid _ := HQ.out.2.below hby1
              clear hb1' hby1 HQ
              go_wp2_with fail
              refine (cover26 w'.heap.size q2 base last acked v2 _ _ HQ2.out hcl (by omega) (by omega) (by omega) (by omega) (by omega) (by omega) HFC.out).mono ?_
              rintro e y2 ⟨bb2, rfl, hb2', hby2⟩
              have hBy2 := hBy1.trans (hby2.mono hBy1.size)
              obtain rfl : bb1 = bb2 := by
                rw [Bool.eq_iff_iff, HB1.out, hb2', HCE.out]
              clear hb2' hby2 HQ2 hBy1 hB
              go_wp2_with fail
              refine (chain27 _ k cap false (base + 1) (last + 1) rs _ (HSX.out.below (hBy2.mono (Nat.le_refl _))) (by omega) HF.out (by omega) (by omega) (by omega) (by omega)).mono ?_
              rintro e y3 ⟨bb3, rfl, hb3', hby3⟩
              have hBy3 := hBy2.trans (hby3.mono hBy2.size)
              have HB3 : Hid (bb3 = true ↔ cov (base + 1) (rs.map msg) = some (last + 1)) := hb3'
              clear hb3' hby3 hBy2
              cases bb3 with
              | false =>
                obtain rfl : bb1 = false := by
                  cases bb1 with
                  | false => rfl
                  | true => exact absurd (HB3.out.2 (HB1.out.1 rfl).1) (by simp)
                go_wp2
                go_ret
                exact ⟨rfl, hBy3⟩
              | true =>
                go_wp2_with fail
                refine (chain27 _ k cap true (base + 1) (base + acked + 1) rs _ (HSX.out.below (hBy3.mono (Nat.le_refl _))) (by omega) HF.out (by omega) (by omega) (by omega) (by omega)).mono ?_
                rintro e y4 ⟨bb4, rfl, hb4', hby4⟩
                have hBy4 := hBy3.trans (hby4.mono hBy3.size)
                have HB4 : Hid (bb4 = true ↔ cov (base + 1) (rs.map ack) = some (base + acked + 1)) := hb4'
                obtain rfl : bb1 = bb4 := by
                  rw [Bool.eq_iff_iff, HB1.out, HB4.out]
                  exact ⟨fun h => h.2, fun h => ⟨by first | exact HB3.out.1 rfl | exact HB3.out.1 trivial, h⟩⟩
                clear hb4' hby4 hBy3
                cases bb1 with
                | false =>
                  go_wp2
                  go_ret
                  exact ⟨rfl, hBy4⟩
                | true =>
                  go_wp2
                  go_ret
                  exact ⟨rfl, hBy4⟩
end Go.Proofs.Qxb6614239a
