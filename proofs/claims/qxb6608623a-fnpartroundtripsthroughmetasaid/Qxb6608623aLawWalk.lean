/-
  The law (6).
-/
import Derived.Test.Qxb6608623aNewMeta
import Derived.Test.Qxb6608623aSameMeta
import Derived.Test.Qxb6608623aZzWalk
import Derived.Test.Qxb6608623aSizeWalks
namespace Go.Proofs.Qxb6608623a
open Go.RowKit

structure K6 (w : World) (B : Array Value) (u : World) : Prop where
  h40 : u.heap[w.heap.size]? = some (.cells B 40 (0, 0))
  hb : Below w.heap.size w u
theorem K6.next {w u v : World} {B : Array Value} (h : K6 w B u) (hb : Below u.heap.size u v) : K6 w B v :=
  ⟨(hb.block _ (lt_of_block h.h40)).trans h.h40, h.hb.trans (hb.mono h.hb.size)⟩
theorem K6.drew {w u : World} {B : Array Value} (h : K6 w B u) : K6 w B u.drew := ⟨h.h40, h.hb.drew⟩
theorem K6.init (w : World) (B : Array Value) : K6 w B (w.alloc (.cells B 40)) := ⟨heap_alloc_new w _, (Below.refl _ _).alloc (Nat.le_refl _) _⟩

set_option maxHeartbeats 8000000 in
set_option maxRecDepth 100000 in
theorem law6 (sl er p1 p2 j1 j2 fr sz cl : Int) (hj : Bool) (ma ja ra : Option Addr) (ml mc jl jc rl rc : Nat) (ms js : List M4) (rs : List (ByteArray × Int)) (ofs : Int) (da : Option Addr) (dl dc : Nat) (zs : List Int) (w : World) (hM : Mems w ma ml ms) (hJ : Mems w ja jl js) (hR : Rejs w ra rl rs) (hB : Byts w da dl zs) (hOM : OkM ms) (hOJ : OkM js) (hOR : OkR rs)
    (hnm : ma = none → ml = 0) (hnj : ja = none → jl = 0) (hnd : da = none → dl = 0) (hl1 : ml ≤ maxLen) (hl2 : jl ≤ maxLen) (hl3 : rl ≤ maxLen) (hl4 : dl ≤ maxLen) :
    Calls Try.prog 6 #[.agg #[.int .u64 sl, .int .u64 er, .slice ma ml mc, .int .u64 p1, .int .u64 p2, .bool hj, .slice ja jl jc, .int .u64 j1, .int .u64 j2, .int .u64 fr, .int .u64 sz, .slice ra rl rc, .int .u64 cl], .int .u64 ofs, .slice da dl dc] w fun e w' => Gives w (.bool true) e w' := by
  have HK : Hid _ := K6.init w #[.int .u64 sl, .int .u64 er, .slice ma ml mc, .int .u64 p1, .int .u64 p2, .bool hj, .slice ja jl jc, .int .u64 j1, .int .u64 j2, .int .u64 fr, .int .u64 sz, .slice ra rl rc, .int .u64 cl]
  go_enter Try.func6, Try.ntmps6
  go_wp2_with fail
  go_at_call 15
  obtain ⟨W, hEq⟩ : ∃ W, W = w.alloc (.cells #[.int .u64 sl, .int .u64 er, .slice ma ml mc, .int .u64 p1, .int .u64 p2, .bool hj, .slice ja jl jc, .int .u64 j1, .int .u64 j2, .int .u64 fr, .int .u64 sz, .slice ra rl rc, .int .u64 cl] 40) := ⟨_, rfl⟩
  rw [← hEq] at HK ⊢
  clear hEq
  refine (zz15 sl er p1 p2 j1 j2 fr sz cl hj ma ja ra ml mc jl jc rl rc ms js rs ofs da dl dc _ (hM.below HK.out.hb) (hJ.below HK.out.hb) (hR.below HK.out.hb) hOM hOJ hOR hl1 hl2 hl3 hl4).mono ?_
  rintro e w1 ⟨he, hb⟩
  have hk : K6 w #[.int .u64 sl, .int .u64 er, .slice ma ml mc, .int .u64 p1, .int .u64 p2, .bool hj, .slice ja jl jc, .int .u64 j1, .int .u64 j2, .int .u64 fr, .int .u64 sz, .slice ra rl rc, .int .u64 cl] w1 := HK.out.next hb
  clear HK
  have HK : Hid _ := hk
  clear hk
  obtain ⟨-, c0, c1, c2, c3, c4, c5, c6, c7, c8, c9, c10, c11, c12⟩ := s19 HK.out.h40
  clear hb

  rcases he with rfl | ⟨rfl, hs1, hs2, hs3, hs4, hSM, hSJ, hSR⟩
  · go_wp2_with fail
    go_ret
    exact Gives.intro rfl HK.out.hb
  go_wp2_with fail
  go_at_call 16
  refine (mb16 sl er p1 p2 j1 j2 fr sz cl hj ma ja ra ml mc jl jc rl rc ms js rs _ (hM.below HK.out.hb) (hJ.below HK.out.hb) (hR.below HK.out.hb) hSM hSJ hSR hl1 hl2 hl3).mono ?_
  rintro e w2 ⟨r, rfl, hr0, hr1, hb⟩
  have hk : K6 w #[.int .u64 sl, .int .u64 er, .slice ma ml mc, .int .u64 p1, .int .u64 p2, .bool hj, .slice ja jl jc, .int .u64 j1, .int .u64 j2, .int .u64 fr, .int .u64 sz, .slice ra rl rc, .int .u64 cl] w2 := HK.out.next hb
  clear HK
  have HK : Hid _ := hk
  clear hk
  clear c0 c1 c2 c3 c4 c5 c6 c7 c8 c9 c10 c11 c12
  obtain ⟨-, c0, c1, c2, c3, c4, c5, c6, c7, c8, c9, c10, c11, c12⟩ := s19 HK.out.h40
  clear hb

  by_cases g1 : (1048576 : Int) < r
  · go_wp2_with fail
    go_ret
    exact Gives.intro rfl HK.out.hb
  by_cases g2 : (1048576 - r : Int) < (dl : Int)
  · go_wp2_with fail
    go_ret
    exact Gives.intro rfl HK.out.hb
  go_wp2_with fail
  go_at_call 17
  refine (copy17 da dl dc zs _ (hB.below HK.out.hb) hnd hs4).mono ?_
  rintro e w3 ⟨xa, xc, rfl, hxi, hx, hb⟩
  have HA : Hid (Byts w3 xa dl zs) := hx
  have HI : Hid (xa = none ↔ da = none) := hxi
  clear hx hxi g1 g2 hr0 hr1
  have hk : K6 w #[.int .u64 sl, .int .u64 er, .slice ma ml mc, .int .u64 p1, .int .u64 p2, .bool hj, .slice ja jl jc, .int .u64 j1, .int .u64 j2, .int .u64 fr, .int .u64 sz, .slice ra rl rc, .int .u64 cl] w3 := HK.out.next hb
  clear HK
  have HK : Hid _ := hk
  clear hk
  clear c0 c1 c2 c3 c4 c5 c6 c7 c8 c9 c10 c11 c12
  obtain ⟨-, c0, c1, c2, c3, c4, c5, c6, c7, c8, c9, c10, c11, c12⟩ := s19 HK.out.h40
  clear hb

  go_wp2_with fail
  go_at_call 17
  refine (copy17 xa dl xc zs _ HA.out (fun h => hnd (HI.out.1 h)) hs4).mono ?_
  rintro e w4 ⟨ya, yc, rfl, hyi, hy, hb⟩
  have HY : Hid (Byts w4 ya dl zs) := hy
  have HI2 : Hid (ya = none ↔ xa = none) := hyi
  clear hy hyi
  have hk : K6 w #[.int .u64 sl, .int .u64 er, .slice ma ml mc, .int .u64 p1, .int .u64 p2, .bool hj, .slice ja jl jc, .int .u64 j1, .int .u64 j2, .int .u64 fr, .int .u64 sz, .slice ra rl rc, .int .u64 cl] w4 := HK.out.next hb
  clear HK
  have HK : Hid _ := hk
  clear hk
  clear c0 c1 c2 c3 c4 c5 c6 c7 c8 c9 c10 c11 c12
  obtain ⟨-, c0, c1, c2, c3, c4, c5, c6, c7, c8, c9, c10, c11, c12⟩ := s19 HK.out.h40
  have h_HA : Byts w4 xa dl zs := HA.out.below hb
  clear HA
  have HA : Hid (Byts w4 xa dl zs) := h_HA
  clear h_HA
  clear hb

  go_wp2_with fail
  go_at_call 18
  refine (map18 ra rl rc rs _ (hR.below HK.out.hb) hOR hs3).mono ?_
  rintro e w5 ⟨wv, rfl, hwv, hb⟩
  have HW : Hid (RMap w5 wv rs) := hwv
  clear hwv
  have hk : K6 w #[.int .u64 sl, .int .u64 er, .slice ma ml mc, .int .u64 p1, .int .u64 p2, .bool hj, .slice ja jl jc, .int .u64 j1, .int .u64 j2, .int .u64 fr, .int .u64 sz, .slice ra rl rc, .int .u64 cl] w5 := HK.out.next hb
  clear HK
  have HK : Hid _ := hk
  clear hk
  clear c0 c1 c2 c3 c4 c5 c6 c7 c8 c9 c10 c11 c12
  obtain ⟨-, c0, c1, c2, c3, c4, c5, c6, c7, c8, c9, c10, c11, c12⟩ := s19 HK.out.h40
  have h_HA : Byts w5 xa dl zs := HA.out.below hb
  clear HA
  have HA : Hid (Byts w5 xa dl zs) := h_HA
  clear h_HA
  have h_HY : Byts w5 ya dl zs := HY.out.below hb
  clear HY
  have HY : Hid (Byts w5 ya dl zs) := h_HY
  clear h_HY
  clear hb

  go_wp2_with fail
  go_at_call 19
  refine (meta19 sl er p1 p2 j1 j2 fr sz cl hj ma ja ra ml mc jl jc rl rc ms js rs _ (hM.below HK.out.hb) (hJ.below HK.out.hb) (hR.below HK.out.hb) hOR hnm hnj hs1 hs2 hs3).mono ?_
  rintro e w6 ⟨ca, cc, jp, rm, rfl, hc, hr, hb⟩
  have HC : Hid (Conf w6 ma ja ml jl ms js hj j1 j2 ca jp) := hc
  have HR : Hid (RMap w6 rm rs) := hr
  clear hc hr
  have hk : K6 w #[.int .u64 sl, .int .u64 er, .slice ma ml mc, .int .u64 p1, .int .u64 p2, .bool hj, .slice ja jl jc, .int .u64 j1, .int .u64 j2, .int .u64 fr, .int .u64 sz, .slice ra rl rc, .int .u64 cl] w6 := HK.out.next hb
  clear HK
  have HK : Hid _ := hk
  clear hk
  clear c0 c1 c2 c3 c4 c5 c6 c7 c8 c9 c10 c11 c12
  obtain ⟨-, c0, c1, c2, c3, c4, c5, c6, c7, c8, c9, c10, c11, c12⟩ := s19 HK.out.h40
  have h_HA : Byts w6 xa dl zs := HA.out.below hb
  clear HA
  have HA : Hid (Byts w6 xa dl zs) := h_HA
  clear h_HA
  have h_HY : Byts w6 ya dl zs := HY.out.below hb
  clear HY
  have HY : Hid (Byts w6 ya dl zs) := h_HY
  clear h_HY
  have h_HW : RMap w6 wv rs := HW.out.below hb
  clear HW
  have HW : Hid (RMap w6 wv rs) := h_HW
  clear h_HW
  clear hb

  go_wp2_with fail
  go_at_call 20
  refine (part20 sl er ca ml cc p1 p2 jp fr sz rm cl ofs xa dl xc _).mono ?_
  rintro e w8 ⟨g, rfl, hg, hb0⟩
  have hb : Below w6.heap.size w6 w8 := ((Below.refl _ _).alloc (Nat.le_refl _) _).trans (hb0.mono (by simp))
  clear hb0
  have hk : K6 w #[.int .u64 sl, .int .u64 er, .slice ma ml mc, .int .u64 p1, .int .u64 p2, .bool hj, .slice ja jl jc, .int .u64 j1, .int .u64 j2, .int .u64 fr, .int .u64 sz, .slice ra rl rc, .int .u64 cl] w8 := HK.out.next hb
  clear HK
  have HK : Hid _ := hk
  clear hk
  clear c0 c1 c2 c3 c4 c5 c6 c7 c8 c9 c10 c11 c12
  obtain ⟨-, c0, c1, c2, c3, c4, c5, c6, c7, c8, c9, c10, c11, c12⟩ := s19 HK.out.h40
  have h_HA : Byts w8 xa dl zs := HA.out.below hb
  clear HA
  have HA : Hid (Byts w8 xa dl zs) := h_HA
  clear h_HA
  have h_HY : Byts w8 ya dl zs := HY.out.below hb
  clear HY
  have HY : Hid (Byts w8 ya dl zs) := h_HY
  clear h_HY
  have h_HW : RMap w8 wv rs := HW.out.below hb
  clear HW
  have HW : Hid (RMap w8 wv rs) := h_HW
  clear h_HW
  have h_HR : RMap w8 rm rs := HR.out.below hb
  clear HR
  have HR : Hid (RMap w8 rm rs) := h_HR
  clear h_HR
  have h_HC : Conf w8 ma ja ml jl ms js hj j1 j2 ca jp := HC.out.below hb
  clear HC
  have HC : Hid (Conf w8 ma ja ml jl ms js hj j1 j2 ca jp) := h_HC
  clear h_HC
  clear hb

  have d9 := cell_of_row w8 g 9 _ _ _ hg
  have d10 := cell_of_row w8 g 10 _ _ _ hg
  have HG : Hid _ := hg
  clear hg
  go_wp2_with fail
  go_at_call 21
  refine (same21 xa ya dl xc yc zs _ HA.out HY.out HI2.out.symm hs4).mono ?_
  rintro e w9 ⟨rfl, n, hw9⟩
  have hb : Below w8.heap.size w8 w9 := by rw [hw9]; exact below_drewN (Below.refl _ _) _
  have hg9 := (hb.block _ (lt_of_block HG.out)).trans HG.out
  clear hw9 d9 d10 HG
  have HG : Hid _ := hg9
  clear hg9
  have hk : K6 w #[.int .u64 sl, .int .u64 er, .slice ma ml mc, .int .u64 p1, .int .u64 p2, .bool hj, .slice ja jl jc, .int .u64 j1, .int .u64 j2, .int .u64 fr, .int .u64 sz, .slice ra rl rc, .int .u64 cl] w9 := HK.out.next hb
  clear HK
  have HK : Hid _ := hk
  clear hk
  clear c0 c1 c2 c3 c4 c5 c6 c7 c8 c9 c10 c11 c12
  obtain ⟨-, c0, c1, c2, c3, c4, c5, c6, c7, c8, c9, c10, c11, c12⟩ := s19 HK.out.h40
  have h_HW : RMap w9 wv rs := HW.out.below hb
  clear HW
  have HW : Hid (RMap w9 wv rs) := h_HW
  clear h_HW
  have h_HR : RMap w9 rm rs := HR.out.below hb
  clear HR
  have HR : Hid (RMap w9 rm rs) := h_HR
  clear h_HR
  have h_HC : Conf w9 ma ja ml jl ms js hj j1 j2 ca jp := HC.out.below hb
  clear HC
  have HC : Hid (Conf w9 ma ja ml jl ms js hj j1 j2 ca jp) := h_HC
  clear h_HC
  clear hb

  go_wp2_with fail
  clear c0 c1 c2 c3 c4 c5 c6 c7 c8 c9 c10 c11 c12
  go_region_held3 (fun u => u.heap[w.heap.size]? = some (.cells #[.int .u64 sl, .int .u64 er, .slice ma ml mc, .int .u64 p1, .int .u64 p2, .bool hj, .slice ja jl jc, .int .u64 j1, .int .u64 j2, .int .u64 fr, .int .u64 sz, .slice ra rl rc, .int .u64 cl] 40 (0, 0)) ∧ u.cell? ⟨w.heap.size, 0, none⟩ = some (.int .u64 sl) ∧ u.cell? ⟨w.heap.size, 1, none⟩ = some (.int .u64 er) ∧ u.cell? ⟨w.heap.size, 2, none⟩ = some (.slice ma ml mc) ∧ u.cell? ⟨w.heap.size, 3, none⟩ = some (.int .u64 p1) ∧ u.cell? ⟨w.heap.size, 4, none⟩ = some (.int .u64 p2) ∧ u.cell? ⟨w.heap.size, 5, none⟩ = some (.bool hj) ∧ u.cell? ⟨w.heap.size, 6, none⟩ = some (.slice ja jl jc) ∧ u.cell? ⟨w.heap.size, 7, none⟩ = some (.int .u64 j1) ∧ u.cell? ⟨w.heap.size, 8, none⟩ = some (.int .u64 j2) ∧ u.cell? ⟨w.heap.size, 9, none⟩ = some (.int .u64 fr) ∧ u.cell? ⟨w.heap.size, 10, none⟩ = some (.int .u64 sz) ∧ u.cell? ⟨w.heap.size, 11, none⟩ = some (.slice ra rl rc) ∧ u.cell? ⟨w.heap.size, 12, none⟩ = some (.int .u64 cl)) ((refine s19 ?_; first | (with_reducible exact HK.out.h40) | (with_reducible exact HK.out.drew.h40)))
    (first | (go_at_call 23; refine (meta23 sl er ca ml cc p1 p2 jp fr sz rm cl ofs xa dl xc g _ (by exact HG.out)).mono ?_; rintro e w10 ⟨rfl, hb0⟩; have hb := ((Below.refl _ w9).drew.trans hb0 : Below w9.heap.size w9 w10); have hk : K6 w #[.int .u64 sl, .int .u64 er, .slice ma ml mc, .int .u64 p1, .int .u64 p2, .bool hj, .slice ja jl jc, .int .u64 j1, .int .u64 j2, .int .u64 fr, .int .u64 sz, .slice ra rl rc, .int .u64 cl] w10 := HK.out.next hb; have hw := HW.out.below hb; have hr := HR.out.below hb; have hc := HC.out.below hb; clear HK HW HR HC hb hb0; have HK : Hid _ := hk; have HW : Hid (RMap w10 wv rs) := hw; have HR : Hid (RMap w10 rm rs) := hr; have HC : Hid (Conf w10 ma ja ml jl ms js hj j1 j2 ca jp) := hc; clear hk hw hr hc) | (go_at_call 22; refine (meta22 sl er p1 p2 j1 j2 fr sz cl hj ma ja ra ca jp rm ml mc jl jc rl rc cc wv ms js rs _ (hM.below HK.out.hb) (hJ.below HK.out.hb) (hR.below HK.out.hb) hOR hs1 hs2 hs3 HC.out HR.out HW.out).mono ?_; rintro e w11 ⟨rfl, hb⟩; have hk : K6 w #[.int .u64 sl, .int .u64 er, .slice ma ml mc, .int .u64 p1, .int .u64 p2, .bool hj, .slice ja jl jc, .int .u64 j1, .int .u64 j2, .int .u64 fr, .int .u64 sz, .slice ra rl rc, .int .u64 cl] w11 := HK.out.next hb; clear HK HW HR HC hb; have HK : Hid _ := hk; clear hk))
  go_wp2_with fail
  go_ret
  exact Gives.intro rfl HK.out.hb
end Go.Proofs.Qxb6608623a
