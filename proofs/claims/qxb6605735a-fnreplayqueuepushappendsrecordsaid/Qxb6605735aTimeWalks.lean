/-
  The contracts of package time's functions on the replay queue's road, at times without a monotonic reading: nsec (24), sec (28), addSec (25), Add (18) at the zero time, Equal (29), Sub (20).
-/
import Derived.Test.Qxb6605735aRows
import Derived.Test.Qxb6605735aTimeLaw
import Derived.WalkKit
import Derived.WalkSpells
import Derived.WalkLawsBesides
import Derived.RegionTactic
import Derived.Deep.RegionWith
import Derived.Deep.RegionHeld
namespace Go.Proofs.Qxb6605735a
open Go.RowKit

set_option maxHeartbeats 1000000 in
theorem nsec24 (b o : Nat) (wl : Int) (h0 : 0 ≤ wl) (h1 : wl < 1000000000) (w : World) (hc : w.cell? ⟨b, o, none⟩ = some (.int .u64 wl)) :
    Calls Try.prog 24 #[.pointer (some ⟨b, o, none⟩)] w fun e w' => e = .returned (.int .i32 wl) ∧ w' = w := by
  have hm := mask30 wl h0 (by omega)
  have hi : IntKind.i32.wrap wl = wl := by rw [IntKind.wrap_i32]; omega
  go_enter Try.func24, Try.ntmps24
  go_wp2
  go_ret
  exact ⟨rfl, rfl⟩

set_option maxHeartbeats 1000000 in
theorem sec28 (b o : Nat) (wl ext : Int) (h0 : 0 ≤ wl) (h1 : wl < 1000000000) (w : World) (hc : w.cell? ⟨b, o, none⟩ = some (.int .u64 wl)) (hx : w.cell? ⟨b, o + 1, none⟩ = some (.int .i64 ext)) :
    Calls Try.prog 28 #[.pointer (some ⟨b, o, none⟩)] w fun e w' => e = .returned (.int .i64 ext) ∧ w' = w := by
  have hm := bit63_off wl h0 (by omega)
  go_enter Try.func28, Try.ntmps28
  go_wp2
  go_ret
  exact ⟨rfl, rfl⟩

set_option maxHeartbeats 1000000 in
theorem addSec25 (b o : Nat) (wl d : Int) (h0 : 0 ≤ wl) (h1 : wl < 1000000000) (hd : -9223372038 ≤ d) (hd' : d ≤ 9223372038) (w : World) (hc : w.cell? ⟨b, o, none⟩ = some (.int .u64 wl)) (hx : w.cell? ⟨b, o + 1, none⟩ = some (.int .i64 0)) (hf : w.frozen? ⟨b, o + 1, none⟩ = false) :
    Calls Try.prog 25 #[.pointer (some ⟨b, o, none⟩), .int .i64 d] w fun e w' => e = .returned (.tuple #[]) ∧ w' = w.setCell ⟨b, o + 1, none⟩ (.int .i64 d) := by
  have hm := bit63_off wl h0 (by omega)
  by_cases hp : 0 < d
  · go_enter Try.func25, Try.ntmps25
    go_wp2
    go_end0
    exact ⟨rfl, rfl⟩
  · go_enter Try.func25, Try.ntmps25
    go_wp2
    go_end0
    exact ⟨rfl, rfl⟩

set_option maxHeartbeats 2000000 in
/-- Seconds and nanoseconds of a duration, from Go's quotient and remainder. -/
theorem add18 (d : Int) (h0 : -9223372036854775808 ≤ d) (h1 : d ≤ 9223372036854775807) (w : World) :
    Calls Try.prog 18 #[.agg #[.int .u64 0, .int .i64 0, .pointer none], .int .i64 d] w fun e w' => ∃ n s : Int, e = .returned (.agg #[.int .u64 n, .int .i64 s, .pointer none]) ∧ 0 ≤ n ∧ n < 1000000000 ∧ d = 1000000000 * s + n ∧ Below w.heap.size w w' := by
  obtain ⟨q, hq⟩ : ∃ q, d.tdiv 1000000000 = q := ⟨_, rfl⟩
  obtain ⟨r, hr⟩ : ∃ r, d.tmod 1000000000 = r := ⟨_, rfl⟩
  have hdr := Int.mul_tdiv_add_tmod d 1000000000
  rw [hq, hr] at hdr
  have hr0 : -1000000000 < r := by
    rw [← hr]; exact Int.lt_tmod_of_pos _ (by decide)
  have hr1 : r < 1000000000 := by
    rw [← hr]; exact Int.tmod_lt_of_pos _ (by decide)
  have HD : Hid (1000000000 * q + r = d) := hdr
  have hq0 : -9223372037 ≤ q := by omega
  have hq1 : q ≤ 9223372038 := by omega
  clear hdr
  by_cases hn : r < 0
  · skip
    have hA := andNot_zero_l
    have hO := or_zero_l (r + 1000000000) (by omega) (by omega)
    have hB := bit63_off (r + 1000000000) (by omega) (by omega)
    go_enter Try.func18, Try.ntmps18
    go_wp2_with (first | (go_at_call 24; refine (nsec24 _ _ 0 (by omega) (by omega) _ ?_).mono ?_; (go_simp); rintro e w' ⟨rfl, rfl⟩) | (go_at_call 25; refine (addSec25 _ _ (r + 1000000000) _ (by omega) (by omega) (by omega) (by omega) _ ?_ ?_ ?_).mono ?_; (go_simp); (go_simp); (go_simp); rintro e w' ⟨rfl, rfl⟩))
    refine bodyPost_ret (v := .agg #[.int .u64 (r + 1000000000), .int .i64 (q - 1), .pointer none]) (by simp [results, go_sem]) rfl ⟨r + 1000000000, q - 1, rfl, by omega, by omega, by have := HD.out; omega, ?_⟩
    exact ((Below.refl _ _).alloc (Nat.le_refl _) _).alloc (by simp) _
  · skip
    have hA := andNot_zero_l
    have hO := or_zero_l (r) (by omega) (by omega)
    have hB := bit63_off (r) (by omega) (by omega)
    go_enter Try.func18, Try.ntmps18
    go_wp2_with (first | (go_at_call 24; refine (nsec24 _ _ 0 (by omega) (by omega) _ ?_).mono ?_; (go_simp); rintro e w' ⟨rfl, rfl⟩) | (go_at_call 25; refine (addSec25 _ _ (r) _ (by omega) (by omega) (by omega) (by omega) _ ?_ ?_ ?_).mono ?_; (go_simp); (go_simp); (go_simp); rintro e w' ⟨rfl, rfl⟩))
    refine bodyPost_ret (v := .agg #[.int .u64 (r), .int .i64 (q), .pointer none]) (by simp [results, go_sem]) rfl ⟨r, q, rfl, by omega, by omega, by have := HD.out; omega, ?_⟩
    exact ((Below.refl _ _).alloc (Nat.le_refl _) _).alloc (by simp) _

/-- Behind a call that only makes memory all old cells and marks read as before: two rules for the walk. -/
theorem bcell {W w1 : World} (hb : Below W.heap.size W w1) : (∀ b o, b < W.heap.size → w1.cell? ⟨b, o, none⟩ = W.cell? ⟨b, o, none⟩) ∧ (∀ b o, b < W.heap.size → w1.frozen? ⟨b, o, none⟩ = W.frozen? ⟨b, o, none⟩) :=
  ⟨fun b o h => hb.cell (p := ⟨b, o, none⟩) h, fun b o h => hb.frozen (p := ⟨b, o, none⟩) h⟩

set_option maxHeartbeats 2000000 in
theorem equal29 (n s : Int) (h0 : 0 ≤ n) (h1 : n < 1000000000) (w : World) :
    Calls Try.prog 29 #[.agg #[.int .u64 n, .int .i64 s, .pointer none], .agg #[.int .u64 n, .int .i64 s, .pointer none]] w fun e w' => e = .returned (.bool true) ∧ Below w.heap.size w w' := by
  have hS := and_self64 n (by omega) (by omega)
  have hB := bit63_off n (by omega) (by omega)
  go_enter Try.func29, Try.ntmps29
  go_wp2_with (first | (go_at_call 28; refine (sec28 _ _ n s (by omega) (by omega) _ ?_ ?_).mono ?_; (go_simp); (go_simp); rintro e w' ⟨rfl, rfl⟩) | (go_at_call 24; refine (nsec24 _ _ n (by omega) (by omega) _ ?_).mono ?_; (go_simp); rintro e w' ⟨rfl, rfl⟩))
  go_ret
  exact ⟨rfl, ((Below.refl _ _).alloc (Nat.le_refl _) _).alloc (by simp) _⟩

theorem six {W w1 : World} {B : Nat} {a0 a1 a2 a3 a4 a5 : Value} (hb : Below W.heap.size W w1)
    (h : W.cell? ⟨B, 0, none⟩ = some a0 ∧ W.cell? ⟨B, 1, none⟩ = some a1 ∧ W.cell? ⟨B, 2, none⟩ = some a2 ∧ W.cell? ⟨B + 1, 0, none⟩ = some a3 ∧ W.cell? ⟨B + 1, 1, none⟩ = some a4 ∧ W.cell? ⟨B + 1, 2, none⟩ = some a5) :
    w1.cell? ⟨B, 0, none⟩ = some a0 ∧ w1.cell? ⟨B, 1, none⟩ = some a1 ∧ w1.cell? ⟨B, 2, none⟩ = some a2 ∧ w1.cell? ⟨B + 1, 0, none⟩ = some a3 ∧ w1.cell? ⟨B + 1, 1, none⟩ = some a4 ∧ w1.cell? ⟨B + 1, 2, none⟩ = some a5 :=
  ⟨cell_later hb h.1, cell_later hb h.2.1, cell_later hb h.2.2.1, cell_later hb h.2.2.2.1, cell_later hb h.2.2.2.2.1, cell_later hb h.2.2.2.2.2⟩

set_option maxHeartbeats 4000000 in
theorem sub20 (n s d : Int) (h0 : 0 ≤ n) (h1 : n < 1000000000) (hd0 : -9223372036854775808 ≤ d) (hd1 : d ≤ 9223372036854775807) (hd : d = 1000000000 * s + n) (w : World) :
    Calls Try.prog 20 #[.agg #[.int .u64 n, .int .i64 s, .pointer none], .agg #[.int .u64 0, .int .i64 0, .pointer none]] w fun e w' => e = .returned (.int .i64 d) ∧ Below w.heap.size w w' := by
  have hS := and_zero_r n (by omega) (by omega)
  have hB := bit63_off 0 (by omega) (by omega)
  have hW := dur_back s n d hd0 hd1 hd
  have HD : Hid (d = 1000000000 * s + n) := hd
  have hs0 : -9223372038 ≤ s := by omega
  have hs1 : s ≤ 9223372038 := by omega
  clear hd
  go_enter Try.func20, Try.ntmps20
  go_wp2_with fail
  refine (sec28 _ _ n s (by omega) (by omega) _ ?_ ?_).mono ?_
  · go_simp
  · go_simp
  rintro e w' ⟨rfl, rfl⟩
  go_wp2_with fail
  refine (sec28 _ _ 0 0 (by omega) (by omega) _ ?_ ?_).mono ?_
  · go_simp
  · go_simp
  rintro e w' ⟨rfl, rfl⟩
  go_wp2_with fail
  refine (nsec24 _ _ n (by omega) (by omega) _ ?_).mono ?_
  · go_simp
  rintro e w' ⟨rfl, rfl⟩
  go_wp2_with fail
  refine (nsec24 _ _ 0 (by omega) (by omega) _ ?_).mono ?_
  · go_simp
  rintro e w' ⟨rfl, rfl⟩
  go_wp2
  simp only [hW]
  clear hW hS hB
  go_region_held (fun w' => w'.cell? ⟨w.heap.size, 0, none⟩ = some (.int .u64 n) ∧ w'.cell? ⟨w.heap.size, 1, none⟩ = some (.int .i64 s) ∧ w'.cell? ⟨w.heap.size, 2, none⟩ = some (.pointer none) ∧ w'.cell? ⟨w.heap.size + 1, 0, none⟩ = some (.int .u64 0) ∧ w'.cell? ⟨w.heap.size + 1, 1, none⟩ = some (.int .i64 0) ∧ w'.cell? ⟨w.heap.size + 1, 2, none⟩ = some (.pointer none)) (first | (refine six (by assumption) ?_; first | assumption | go_keep) | go_keep)
    (first | (go_at_call 18; refine (add18 d hd0 hd1 _).mono ?_; rintro e w' ⟨n', s', rfl, k0, k1, k2, hb⟩; obtain rfl : n = n' := (by have := HD.out; omega); obtain rfl : s = s' := (by have := HD.out; omega); clear k0 k1 k2) | (go_at_call 29; refine (equal29 n s h0 h1 _).mono ?_; rintro e w' ⟨rfl, hb'⟩))
  all_goals go_wp2
  all_goals go_ret
  all_goals
    have z1 := hb.size
    simp at z1
    exact ⟨rfl, ((((Below.refl _ _).alloc (Nat.le_refl _) _).alloc (by simp) _).drew.trans (hb.mono (by simp; omega))).trans (hb'.mono (by omega))⟩

end Go.Proofs.Qxb6605735a
