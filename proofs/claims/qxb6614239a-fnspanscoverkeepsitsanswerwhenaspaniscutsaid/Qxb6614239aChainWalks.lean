/-
  ZZspansCover (26), zzPick (33), zzChainCovers (27).
-/
import Derived.Test.Qxb6614239aCoverWalks
namespace Go.Proofs.Qxb6614239a
open Go.RowKit

set_option maxHeartbeats 4000000 in
theorem cover26 (B q : Nat) (base last acked : Int) (v : Value) (rs : List S4) (w : World) (hQ : QI w B q base last acked v rs) (hn1 : rs.length ≤ 1048576) (hb0 : 0 ≤ base) (hbl : base ≤ last) (hl : last ≤ 18446744073709551614) (ha0 : 0 ≤ acked) (ha1 : acked ≤ 9223372036854775807) (ha2 : base + acked ≤ last) (hF : ∀ s ∈ rs, Fit s) :
    Calls Try.prog 26 #[.pointer (some ⟨q, 0, none⟩)] w fun e w' => CovPost w base last acked rs e w' := by
  obtain ⟨cs, hq, k1, k5, k6, k7⟩ := hQ.blk
  have q1 : w.cell? ⟨q, 1, none⟩ = some v := (cell_of_row w q 1 cs 81 _ hq).trans k1
  have q5 : w.cell? ⟨q, 5, none⟩ = some (.int .u64 base) := (cell_of_row w q 5 cs 81 _ hq).trans k5
  have q6 : w.cell? ⟨q, 6, none⟩ = some (.int .u64 last) := (cell_of_row w q 6 cs 81 _ hq).trans k6
  have q7 : w.cell? ⟨q, 7, none⟩ = some (.int .i64 acked) := (cell_of_row w q 7 cs 81 _ hq).trans k7
  have hown := hQ.own
  have key : Calls Try.prog 32 #[.pointer (some ⟨q, 0, none⟩)] w fun e w' => CovPost w base last acked rs e w' := by
    rcases hown.2 with ⟨rfl, h0⟩ | ⟨g, cap, cur, rfl, _⟩
    · exact cover32 q base last acked none 0 0 0 rs w h0 (by omega) hb0 hbl hl ha0 ha1 ha2 hF q1 q5 q6 q7 (fun h => absurd h (by omega)) (fun k f c af ac h => by
        rw [List.eq_nil_of_length_eq_zero h0] at h; simp at h)
    · exact cover32 q base last acked _ rs.length cap g rs w rfl hn1 hb0 hbl hl ha0 ha1 ha2 hF q1 q5 q6 q7 (fun _ => rfl) (fun k f c af ac h => span_cells hown h (by
        rcases Nat.lt_or_ge k rs.length with h' | h'
        · exact h'
        · rw [List.getElem?_eq_none h'] at h; cases h))
  clear hown hq k1 k5 k6 k7 q1 q5 q6 q7 hF hQ
  have HK : Hid _ := key
  clear key
  go_enter Try.func26, Try.ntmps26
  go_wp2_with fail
  refine Calls.mono HK.out ?_
  rintro e w' ⟨b, rfl, h1, h2⟩
  have H1 : Hid _ := h1
  clear h1 HK
  go_wp2
  go_ret
  exact CovPost.intro b rfl H1.out h2

/-- Which of a span's two ranges. -/
def pk (acks : Bool) (s : S4) : Int × Int := if acks = true then ack s else msg s

set_option maxHeartbeats 2000000 in
theorem pick33 (f c af ac : Int) (acks : Bool) (w : World) :
    Calls Try.prog 33 #[.agg #[.int .u64 f, .int .i64 c, .int .u64 af, .int .i64 ac], .bool acks] w fun e w' => e = .returned (.tuple #[.int .u64 (pk acks (f, c, af, ac)).1, .int .i64 (pk acks (f, c, af, ac)).2]) ∧ Below w.heap.size w w' := by
  cases acks with
  | true =>
    go_enter Try.func33, Try.ntmps33
    go_wp2
    go_quiet (fail)
    go_wp2
    go_ret2
    exact ⟨rfl, bel_drewN ((Below.refl _ _).alloc (Nat.le_refl _) _) _⟩
  | false =>
    go_enter Try.func33, Try.ntmps33
    go_wp2
    go_quiet (fail)
    go_wp2
    go_ret2
    exact ⟨rfl, bel_drewN ((Below.refl _ _).alloc (Nat.le_refl _) _) _⟩

/-- A slice of CoverSpan (four cells each) that reads as rs. -/
structure Spns (w : World) (a : Option Addr) (len : Nat) (rs : List S4) : Prop where
  len_eq : rs.length = len
  cells : 0 < len → ∃ b off, a = some ⟨b, off, none⟩ ∧ ∀ i (h : i < rs.length), w.cell? ⟨b, off + i * 4, none⟩ = some (.int .u64 rs[i].1) ∧ w.cell? ⟨b, off + i * 4 + 1, none⟩ = some (.int .i64 rs[i].2.1) ∧ w.cell? ⟨b, off + i * 4 + 2, none⟩ = some (.int .u64 rs[i].2.2.1) ∧ w.cell? ⟨b, off + i * 4 + 3, none⟩ = some (.int .i64 rs[i].2.2.2)

theorem Spns.at {w : World} {a : Option Addr} {len : Nat} {rs : List S4} (h : Spns w a len rs) {k : Nat} (hk : k < len) :
    ∃ b off f c af ac, a = some ⟨b, off, none⟩ ∧ rs[k]? = some (f, c, af, ac) ∧ w.cell? ⟨b, off + k * 4, none⟩ = some (.int .u64 f) ∧ w.cell? ⟨b, off + k * 4 + 1, none⟩ = some (.int .i64 c) ∧ w.cell? ⟨b, off + k * 4 + 2, none⟩ = some (.int .u64 af) ∧ w.cell? ⟨b, off + k * 4 + 3, none⟩ = some (.int .i64 ac) := by
  have hl := h.len_eq
  obtain ⟨b, off, ha, hc⟩ := h.cells (by omega)
  have hk' : k < rs.length := by omega
  obtain ⟨c0, c1, c2, c3⟩ := hc k hk'
  exact ⟨b, off, _, _, _, _, ha, by rw [List.getElem?_eq_getElem hk'], c0, c1, c2, c3⟩

theorem Spns.below {w w' : World} {a : Option Addr} {len : Nat} {rs : List S4} (h : Spns w a len rs) (hb : Below w.heap.size w w') : Spns w' a len rs := by
  refine ⟨h.len_eq, fun hp => ?_⟩
  obtain ⟨b, off, ha, hc⟩ := h.cells hp
  refine ⟨b, off, ha, fun i hi => ?_⟩
  obtain ⟨c0, c1, c2, c3⟩ := hc i hi
  exact ⟨cell_later hb c0, cell_later hb c1, cell_later hb c2, cell_later hb c3⟩

theorem pk_fit {s : S4} (h : Fit s) (acks : Bool) : 0 ≤ (pk acks s).1 ∧ (pk acks s).1 ≤ 18446744073709551615 ∧ (0 < (pk acks s).2 → (pk acks s).1 + (pk acks s).2 ≤ 18446744073709551615) ∧ -9223372036854775808 ≤ (pk acks s).2 ∧ (pk acks s).2 ≤ 9223372036854775807 := by
  unfold Fit at h
  obtain ⟨t1, t2, t3, t4, t5, t6, t7, t8, t9, t10⟩ := h
  cases acks
  · exact ⟨t1, t2, t3, t7, t8⟩
  · exact ⟨t4, t5, t6, t9, t10⟩

def ChainPost (w : World) (start want : Int) (ps : List (Int × Int)) (e : Ending) (w' : World) : Prop := ∃ b : Bool, e = .returned (.bool b) ∧ (b = true ↔ cov start ps = some want) ∧ Below w.heap.size w w'
theorem ChainPost.intro {w w' : World} {start want : Int} {ps : List (Int × Int)} {e : Ending} (b : Bool) (he : e = .returned (.bool b)) (h1 : b = true ↔ cov start ps = some want) (h2 : Below w.heap.size w w') : ChainPost w start want ps e w' := ⟨b, he, h1, h2⟩

theorem chain_no {start want : Int} {ps : List (Int × Int)} (h : cov start ps = none) : false = true ↔ cov start ps = some want := by
  constructor
  · intro h; cases h
  · intro h'; rw [h] at h'; cases h'

set_option maxHeartbeats 16000000 in
set_option maxRecDepth 100000 in
theorem chain27 (a : Option Addr) (len cap : Nat) (acks : Bool) (start want : Int) (rs : List S4) (w : World) (hS : Spns w a len rs) (hl : len ≤ 1048576) (hF : ∀ s ∈ rs, Fit s) (s0 : 0 ≤ start) (s1 : start ≤ 18446744073709551615) (w0 : 0 ≤ want) (w1 : want ≤ 18446744073709551615) :
    Calls Try.prog 27 #[.slice a len cap, .bool acks, .int .u64 start, .int .u64 want] w fun e w' => ChainPost w start want (rs.map (pk acks)) e w' := by
  go_enter Try.func27, Try.ntmps27
  go_wp2
  go_loopw [9, 10] (fun t i wr => ∃ (k : Nat) (top : Int), k ≤ len ∧ i = .int .i64 k ∧ t = .int .u64 top ∧ 0 ≤ top ∧ top ≤ 18446744073709551615 ∧ cov start ((rs.map (pk acks)).take k) = some top ∧ Below w.heap.size w wr) (fun _ i _ => len - (intOf i).toNat)
  case atStart => exact ⟨0, start, Nat.zero_le _, rfl, rfl, s0, s1, rfl, Below.refl _ _⟩
  case round =>
    obtain ⟨k, top, hk, rfl, rfl, b1, b2, hcov, hbr⟩ := hrel
    by_cases hlt : k < len
    · obtain ⟨b, off, f, c, af, ac, rfl, hrk, c0, c1, c2, c3⟩ := hS.at hlt
      have hpk : (rs.map (pk acks))[k]? = some (pk acks (f, c, af, ac)) := by rw [List.getElem?_map, hrk]; rfl
      obtain ⟨t1, t2, t3, t4, t5⟩ := pk_fit (hF _ (List.mem_of_getElem? hrk)) acks
      have hsucc := cov_succ hcov hpk
      have hst : start ≤ top := (cov_facts _ _ _ hcov).1
      have HT : Hid (∀ x, start ≤ x → (Touch ((rs.map (pk acks)).take k) x ↔ x < top)) := fun x hx => touch_iff hcov hx
      replace c0 := cell_later hbr c0
      replace c1 := cell_later hbr c1
      replace c2 := cell_later hbr c2
      replace c3 := cell_later hbr c3
      have HS : Hid _ := hS
      have HF : Hid _ := hF
      have HSU : Hid _ := hsucc
      clear hcov hrk hpk hsucc hS hF
      go_wp2_with fail
      refine (pick33 f c af ac acks _).mono ?_
      rintro e w2 ⟨rfl, hb2⟩
      have hb3 : Below w.heap.size w w2 := hbr.trans (hb2.mono hbr.size)
      obtain ⟨pf, pc, hp⟩ : ∃ pf pc, pk acks (f, c, af, ac) = (pf, pc) := ⟨_, _, rfl⟩
      have HSU' : Hid (cov start ((rs.map (pk acks)).take (k + 1)) = step top (pf, pc)) := by rw [← hp]; exact HSU.out
      rw [hp] at t1 t2 t3 t4 t5 ⊢
      simp only at t1 t2 t3 t4 t5 ⊢
      have HP : Hid (pk acks (f, c, af, ac) = (pf, pc)) := hp
      clear hp c0 c1 c2 c3 hb2 hbr HSU
      rcases (show pc ≤ 0 ∨ 0 < pc from by omega) with m1 | m1
      · have HX : Hid _ := HSU'.out.trans (step_skip (by omega))
        clear t3
        go_wp2
        go_roundw
        case rel => exact ⟨k + 1, top, by omega, by go_num, rfl, b1, b2, HX.out, hb3⟩
        case measure => simp [intOf]; omega
      · replace t3 := t3 m1
        rcases (show pf + pc ≤ top ∨ top < pf + pc from by omega) with m2 | m2
        · rcases (show pf ≤ start ∨ start < pf from by omega) with m3 | m3
          · have HX : Hid _ := HSU'.out.trans (step_skip (by omega))
            go_wp2
            go_roundw
            case rel => exact ⟨k + 1, top, by omega, by go_num, rfl, b1, b2, HX.out, hb3⟩
            case measure => simp [intOf]; omega
          · go_wp2
            go_loopw [14, 15] (fun t i wr => ∃ (j : Nat) (tt : Bool), j ≤ k ∧ i = .int .i64 j ∧ t = .bool tt ∧ (tt = true ↔ Touch ((rs.map (pk acks)).take j) (pf - 1)) ∧ Below w.heap.size w wr) (fun _ i _ => k - (intOf i).toNat)
            case atStart => exact ⟨0, false, Nat.zero_le _, rfl, rfl, ⟨fun h => Bool.noConfusion h, fun h => by obtain ⟨p, hp, _⟩ := h; simp at hp⟩, hb3⟩
            case round =>
              obtain ⟨j, tt, hj, rfl, rfl, htt, hbj⟩ := hrel
              by_cases hjk : j < k
              · obtain ⟨b', off', f', c', af', ac', hbe, hrj, e0, e1, e2, e3⟩ := HS.out.at (k := j) (by omega)
                simp only [Option.some.injEq, Addr.mk.injEq, and_true] at hbe
                obtain ⟨rfl, rfl⟩ := hbe
                have hpj : (rs.map (pk acks))[j]? = some (pk acks (f', c', af', ac')) := by rw [List.getElem?_map, hrj]; rfl
                obtain ⟨u1, u2, u3, u4, u5⟩ := pk_fit (HF.out _ (List.mem_of_getElem? hrj)) acks
                have hts := touch_succ (x := pf - 1) hpj
                replace e0 := cell_later hbj e0
                replace e1 := cell_later hbj e1
                replace e2 := cell_later hbj e2
                replace e3 := cell_later hbj e3
                obtain ⟨gf, gd, hg⟩ : ∃ gf gd, pk acks (f', c', af', ac') = (gf, gd) := ⟨_, _, rfl⟩
                have HG : Hid (pk acks (f', c', af', ac') = (gf, gd)) := hg
                rw [hg] at u1 u2 u3 u4 u5 hts
                simp only at u1 u2 u3 u4 u5 hts
                have HTS : Hid _ := hts
                have HTT : Hid _ := htt
                clear hg hts htt hrj hpj hb3
                go_wp2_with fail
                refine (pick33 f' c' af' ac' acks _).mono ?_
                rintro e w3 ⟨rfl, hb4⟩
                rw [HG.out]
                simp only
                have hb5 : Below w.heap.size w w3 := hbj.trans (hb4.mono hbj.size)
                clear hb4 hbj e0 e1 e2 e3
                rcases (show gd ≤ 0 ∨ (0 < gd ∧ pf - 1 < gf) ∨ (0 < gd ∧ gf ≤ pf - 1 ∧ gf + gd ≤ pf - 1) ∨ (0 < gd ∧ gf ≤ pf - 1 ∧ pf - 1 < gf + gd) from by omega) with v1 | ⟨v1, v2⟩ | ⟨v1, v2, v3⟩ | ⟨v1, v2, v3⟩
                · clear u3
                  go_wp2
                  go_roundw
                  case rel => exact ⟨j + 1, tt, by omega, by go_num, rfl, (HTT.out.trans ⟨Or.inl, fun h => h.elim id (fun h => absurd h.1 (by omega))⟩).trans HTS.out.symm, hb5⟩
                  case measure => simp [intOf]; omega
                · replace u3 := u3 v1
                  go_wp2
                  go_roundw
                  case rel => exact ⟨j + 1, tt, by omega, by go_num, rfl, (HTT.out.trans ⟨Or.inl, fun h => h.elim id (fun h => absurd h.2.1 (by omega))⟩).trans HTS.out.symm, hb5⟩
                  case measure => simp [intOf]; omega
                · replace u3 := u3 v1
                  go_wp2
                  go_roundw
                  case rel => exact ⟨j + 1, tt, by omega, by go_num, rfl, (HTT.out.trans ⟨Or.inl, fun h => h.elim id (fun h => absurd h.2.2 (by omega))⟩).trans HTS.out.symm, hb5⟩
                  case measure => simp [intOf]; omega
                · replace u3 := u3 v1
                  go_wp2
                  go_roundw
                  case rel => exact ⟨j + 1, true, by omega, by go_num, rfl, ⟨fun _ => HTS.out.2 (Or.inr ⟨v1, v2, v3⟩), fun _ => rfl⟩, hb5⟩
                  case measure => simp [intOf]; omega
              · have hjk' : j = k := by omega
                subst hjk'
                have hh := htt.trans (HT.out (pf - 1) (by omega))
                clear hb3
                cases tt with
                | false =>
                  have hfail : top < pf := by
                    rcases Int.lt_or_le top pf with h | h
                    · exact h
                    · exact absurd (hh.2 (by omega)) (by simp)
                  have HX : Hid _ := HSU'.out.trans (step_fail m1 (by omega) hfail)
                  clear htt hh
                  go_wp2
                  go_ret
                  exact ChainPost.intro false rfl (chain_no (cov_none HX.out)) hbj
                | true =>
                  have hok : pf ≤ top := by have := hh.1 rfl; omega
                  have HX : Hid _ := HSU'.out.trans (step_skip (by omega))
                  clear htt hh
                  go_wp2
                  go_roundw
                  case rel => exact ⟨j + 1, top, by omega, by go_num, rfl, by omega, by omega, HX.out, hbj⟩
                  case measure => simp [intOf]; omega
        · rcases (show pf ≤ start ∨ start < pf from by omega) with m3 | m3
          · have HX : Hid _ := HSU'.out.trans (step_take m1 m2 (by omega))
            go_wp2
            go_roundw
            case rel => exact ⟨k + 1, pf + pc, by omega, by go_num, rfl, by omega, by omega, HX.out, hb3⟩
            case measure => simp [intOf]; omega
          · go_wp2
            go_loopw [14, 15] (fun t i wr => ∃ (j : Nat) (tt : Bool), j ≤ k ∧ i = .int .i64 j ∧ t = .bool tt ∧ (tt = true ↔ Touch ((rs.map (pk acks)).take j) (pf - 1)) ∧ Below w.heap.size w wr) (fun _ i _ => k - (intOf i).toNat)
            case atStart => exact ⟨0, false, Nat.zero_le _, rfl, rfl, ⟨fun h => Bool.noConfusion h, fun h => by obtain ⟨p, hp, _⟩ := h; simp at hp⟩, hb3⟩
            case round =>
              obtain ⟨j, tt, hj, rfl, rfl, htt, hbj⟩ := hrel
              by_cases hjk : j < k
              · obtain ⟨b', off', f', c', af', ac', hbe, hrj, e0, e1, e2, e3⟩ := HS.out.at (k := j) (by omega)
                simp only [Option.some.injEq, Addr.mk.injEq, and_true] at hbe
                obtain ⟨rfl, rfl⟩ := hbe
                have hpj : (rs.map (pk acks))[j]? = some (pk acks (f', c', af', ac')) := by rw [List.getElem?_map, hrj]; rfl
                obtain ⟨u1, u2, u3, u4, u5⟩ := pk_fit (HF.out _ (List.mem_of_getElem? hrj)) acks
                have hts := touch_succ (x := pf - 1) hpj
                replace e0 := cell_later hbj e0
                replace e1 := cell_later hbj e1
                replace e2 := cell_later hbj e2
                replace e3 := cell_later hbj e3
                obtain ⟨gf, gd, hg⟩ : ∃ gf gd, pk acks (f', c', af', ac') = (gf, gd) := ⟨_, _, rfl⟩
                have HG : Hid (pk acks (f', c', af', ac') = (gf, gd)) := hg
                rw [hg] at u1 u2 u3 u4 u5 hts
                simp only at u1 u2 u3 u4 u5 hts
                have HTS : Hid _ := hts
                have HTT : Hid _ := htt
                clear hg hts htt hrj hpj hb3
                go_wp2_with fail
                refine (pick33 f' c' af' ac' acks _).mono ?_
                rintro e w3 ⟨rfl, hb4⟩
                rw [HG.out]
                simp only
                have hb5 : Below w.heap.size w w3 := hbj.trans (hb4.mono hbj.size)
                clear hb4 hbj e0 e1 e2 e3
                rcases (show gd ≤ 0 ∨ (0 < gd ∧ pf - 1 < gf) ∨ (0 < gd ∧ gf ≤ pf - 1 ∧ gf + gd ≤ pf - 1) ∨ (0 < gd ∧ gf ≤ pf - 1 ∧ pf - 1 < gf + gd) from by omega) with v1 | ⟨v1, v2⟩ | ⟨v1, v2, v3⟩ | ⟨v1, v2, v3⟩
                · clear u3
                  go_wp2
                  go_roundw
                  case rel => exact ⟨j + 1, tt, by omega, by go_num, rfl, (HTT.out.trans ⟨Or.inl, fun h => h.elim id (fun h => absurd h.1 (by omega))⟩).trans HTS.out.symm, hb5⟩
                  case measure => simp [intOf]; omega
                · replace u3 := u3 v1
                  go_wp2
                  go_roundw
                  case rel => exact ⟨j + 1, tt, by omega, by go_num, rfl, (HTT.out.trans ⟨Or.inl, fun h => h.elim id (fun h => absurd h.2.1 (by omega))⟩).trans HTS.out.symm, hb5⟩
                  case measure => simp [intOf]; omega
                · replace u3 := u3 v1
                  go_wp2
                  go_roundw
                  case rel => exact ⟨j + 1, tt, by omega, by go_num, rfl, (HTT.out.trans ⟨Or.inl, fun h => h.elim id (fun h => absurd h.2.2 (by omega))⟩).trans HTS.out.symm, hb5⟩
                  case measure => simp [intOf]; omega
                · replace u3 := u3 v1
                  go_wp2
                  go_roundw
                  case rel => exact ⟨j + 1, true, by omega, by go_num, rfl, ⟨fun _ => HTS.out.2 (Or.inr ⟨v1, v2, v3⟩), fun _ => rfl⟩, hb5⟩
                  case measure => simp [intOf]; omega
              · have hjk' : j = k := by omega
                subst hjk'
                have hh := htt.trans (HT.out (pf - 1) (by omega))
                clear hb3
                cases tt with
                | false =>
                  have hfail : top < pf := by
                    rcases Int.lt_or_le top pf with h | h
                    · exact h
                    · exact absurd (hh.2 (by omega)) (by simp)
                  have HX : Hid _ := HSU'.out.trans (step_fail m1 (by omega) hfail)
                  clear htt hh
                  go_wp2
                  go_ret
                  exact ChainPost.intro false rfl (chain_no (cov_none HX.out)) hbj
                | true =>
                  have hok : pf ≤ top := by have := hh.1 rfl; omega
                  have HX : Hid _ := HSU'.out.trans (step_take m1 m2 hok)
                  clear htt hh
                  go_wp2
                  go_roundw
                  case rel => exact ⟨j + 1, pf + pc, by omega, by go_num, rfl, by omega, by omega, HX.out, hbj⟩
                  case measure => simp [intOf]; omega
    · have hke : (rs.map (pk acks)).take k = rs.map (pk acks) := List.take_of_length_le (by rw [List.length_map, hS.len_eq]; omega)
      rw [hke] at hcov
      have HC : Hid _ := hcov
      clear hcov hke hS hF
      by_cases hw : top = want
      · subst hw
        go_wp2
        go_ret
        exact ChainPost.intro true rfl ⟨fun _ => HC.out, fun _ => rfl⟩ hbr
      · have hf : (top == want) = false := by simpa using hw
        have HW : Hid _ := hw
        clear hw
        go_wp2
        go_ret
        exact ChainPost.intro false rfl ⟨fun h => Bool.noConfusion h, fun h => absurd (Option.some.inj (HC.out.symm.trans h)) HW.out⟩ hbr
end Go.Proofs.Qxb6614239a
