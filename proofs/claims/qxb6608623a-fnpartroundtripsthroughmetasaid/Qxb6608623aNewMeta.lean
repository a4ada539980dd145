/-
  newMetaRB1 (19).
-/
import Derived.Test.Qxb6608623aConfWalk
import Derived.Test.Qxb6608623aMetaWalks
import Derived.Deep.RegionHeld3
namespace Go.Proofs.Qxb6608623a
open Go.RowKit

abbrev zero10 : Array Value := #[.int .u64 0, .int .u64 0, .slice none 0 0, .int .u64 0, .int .u64 0, .pointer none, .int .u64 0, .int .u64 0, .map none, .int .u64 0]

/-- A block of ten zero cells of a snapshotMeta holds no text. -/
theorem no_text {w : World} {g off : Nat} {s : ByteArray} (hz : w.heap[g]? = some (.cells zero10 55 (0, 0))) (h : w.cell? ⟨g, off, none⟩ = some (.string s)) : False := by
  simp only [World.cell?, hz] at h
  match off, h with
  | 0, h => simp at h
  | 1, h => simp at h
  | 2, h => simp at h
  | 3, h => simp at h
  | 4, h => simp at h
  | 5, h => simp at h
  | 6, h => simp at h
  | 7, h => simp at h
  | 8, h => simp at h
  | 9, h => simp at h
  | n + 10, h => simp at h

theorem Mems.other {w w' : World} {g : Nat} {a : Option Addr} {len : Nat} {ms : List M4} (h : Mems w a len ms) (hz : w.heap[g]? = some (.cells zero10 55 (0, 0))) (ho : ∀ k, k ≠ g → w'.heap[k]? = w.heap[k]?) : Mems w' a len ms := by
  refine ⟨h.len_eq, fun hp => ?_⟩
  obtain ⟨b, off, ha, hc⟩ := h.cells hp
  have hb : b ≠ g := by
    rintro rfl
    exact no_text hz (hc 0 (by rw [h.len_eq]; exact hp)).1
  have e : ∀ o, w'.cell? ⟨b, o, none⟩ = w.cell? ⟨b, o, none⟩ := fun o => World.cell?_of_block (ho b hb)
  refine ⟨b, off, ha, fun i hi => ?_⟩
  rw [e, e, e, e]
  exact hc i hi

theorem Conf.other {w w' : World} {ma ja : Option Addr} {ml jl : Nat} {ms js : List M4} {hj : Bool} {j1 j2 : Int} {ca jp : Option Addr} {g : Nat} (h : Conf w ma ja ml jl ms js hj j1 j2 ca jp) (hz : w.heap[g]? = some (.cells zero10 55 (0, 0))) (ho : ∀ k, k ≠ g → w'.heap[k]? = w.heap[k]?) : Conf w' ma ja ml jl ms js hj j1 j2 ca jp := by
  refine ⟨h.nil_iff, h.mems.other hz ho, h.noj, fun hh => ?_⟩
  obtain ⟨b, ja', jc', h1, c0, c1, c2, c3, c4, h2, h3⟩ := h.joint hh
  have hb : b ≠ g := by
    rintro rfl
    have := (z10 hz).2.1
    rw [c1] at this
    cases this
  have e : ∀ o, w'.cell? ⟨b, o, none⟩ = w.cell? ⟨b, o, none⟩ := fun o => World.cell?_of_block (ho b hb)
  exact ⟨b, ja', jc', h1, (e _).trans c0, (e _).trans c1, (e _).trans c2, (e _).trans c3, (e _).trans c4, h2, h3.other hz ho⟩

theorem RMap.other {w w' : World} {g : Nat} {v : Option Nat} {rs : List (ByteArray × Int)} (h : RMap w v rs) (hz : w.heap[g]? = some (.cells zero10 55 (0, 0))) (ho : ∀ k, k ≠ g → w'.heap[k]? = w.heap[k]?) : RMap w' v rs := by
  rcases h with h | ⟨h1, b, h2, es, clock, h3, h4⟩
  · exact Or.inl h
  · refine Or.inr ⟨h1, b, h2, es, clock, (ho b ?_).trans h3, h4⟩
    rintro rfl
    rw [hz] at h3
    cases h3

structure K19 (w : World) (B : Array Value) (u : World) : Prop where
  h40 : u.heap[w.heap.size]? = some (.cells B 40 (0, 0))
  h55 : u.heap[w.heap.size + 1]? = some (.cells zero10 55 (0, 0))
  hb : Below w.heap.size w u
theorem K19.next {w u v : World} {B : Array Value} (h : K19 w B u) (hb : Below u.heap.size u v) : K19 w B v :=
  ⟨(hb.block _ (lt_of_block h.h40)).trans h.h40, (hb.block _ (lt_of_block h.h55)).trans h.h55, h.hb.trans (hb.mono h.hb.size)⟩
theorem K19.drew {w u : World} {B : Array Value} (h : K19 w B u) : K19 w B u.drew := ⟨h.h40, h.h55, h.hb.drew⟩
theorem K19.init (w : World) (B : Array Value) : K19 w B ((w.alloc (.cells B 40)).alloc (.cells zero10 55)) :=
  ⟨heap_alloc2_old w _ _, heap2_new w _ _, ((Below.refl _ _).alloc (Nat.le_refl _) _).alloc (by simp) _⟩

theorem s19 {sl er p1 p2 j1 j2 fr sz cl : Int} {hj : Bool} {ma ja ra : Option Addr} {ml mc jl jc rl rc : Nat} {w u : World} (h : u.heap[w.heap.size]? = some (.cells #[.int .u64 sl, .int .u64 er, .slice ma ml mc, .int .u64 p1, .int .u64 p2, .bool hj, .slice ja jl jc, .int .u64 j1, .int .u64 j2, .int .u64 fr, .int .u64 sz, .slice ra rl rc, .int .u64 cl] 40 (0, 0))) : u.heap[w.heap.size]? = some (.cells #[.int .u64 sl, .int .u64 er, .slice ma ml mc, .int .u64 p1, .int .u64 p2, .bool hj, .slice ja jl jc, .int .u64 j1, .int .u64 j2, .int .u64 fr, .int .u64 sz, .slice ra rl rc, .int .u64 cl] 40 (0, 0)) ∧ u.cell? ⟨w.heap.size, 0, none⟩ = some (.int .u64 sl) ∧ u.cell? ⟨w.heap.size, 1, none⟩ = some (.int .u64 er) ∧ u.cell? ⟨w.heap.size, 2, none⟩ = some (.slice ma ml mc) ∧ u.cell? ⟨w.heap.size, 3, none⟩ = some (.int .u64 p1) ∧ u.cell? ⟨w.heap.size, 4, none⟩ = some (.int .u64 p2) ∧ u.cell? ⟨w.heap.size, 5, none⟩ = some (.bool hj) ∧ u.cell? ⟨w.heap.size, 6, none⟩ = some (.slice ja jl jc) ∧ u.cell? ⟨w.heap.size, 7, none⟩ = some (.int .u64 j1) ∧ u.cell? ⟨w.heap.size, 8, none⟩ = some (.int .u64 j2) ∧ u.cell? ⟨w.heap.size, 9, none⟩ = some (.int .u64 fr) ∧ u.cell? ⟨w.heap.size, 10, none⟩ = some (.int .u64 sz) ∧ u.cell? ⟨w.heap.size, 11, none⟩ = some (.slice ra rl rc) ∧ u.cell? ⟨w.heap.size, 12, none⟩ = some (.int .u64 cl) :=
  ⟨h, cell_of_row u w.heap.size 0 _ _ _ h, cell_of_row u w.heap.size 1 _ _ _ h, cell_of_row u w.heap.size 2 _ _ _ h, cell_of_row u w.heap.size 3 _ _ _ h, cell_of_row u w.heap.size 4 _ _ _ h, cell_of_row u w.heap.size 5 _ _ _ h, cell_of_row u w.heap.size 6 _ _ _ h, cell_of_row u w.heap.size 7 _ _ _ h, cell_of_row u w.heap.size 8 _ _ _ h, cell_of_row u w.heap.size 9 _ _ _ h, cell_of_row u w.heap.size 10 _ _ _ h, cell_of_row u w.heap.size 11 _ _ _ h, cell_of_row u w.heap.size 12 _ _ _ h⟩

/-- What newMetaRB1 leaves. -/
def NewMeta (w : World) (sl er p1 p2 j1 j2 fr sz cl : Int) (hj : Bool) (ma ja : Option Addr) (ml jl : Nat) (ms js : List M4) (rs : List (ByteArray × Int)) (e : Ending) (w' : World) : Prop :=
  ∃ ca cc jp rm, e = .returned (.agg (cells10 sl er ca ml cc p1 p2 jp fr sz rm cl)) ∧ Conf w' ma ja ml jl ms js hj j1 j2 ca jp ∧ RMap w' rm rs ∧ Below w.heap.size w w'
theorem NewMeta.intro {w w' : World} {sl er p1 p2 j1 j2 fr sz cl : Int} {hj : Bool} {ma ja : Option Addr} {ml jl : Nat} {ms js : List M4} {rs : List (ByteArray × Int)} {e : Ending} (ca : Option Addr) (cc : Nat) (jp : Option Addr) (rm : Option Nat) (he : e = .returned (.agg (cells10 sl er ca ml cc p1 p2 jp fr sz rm cl))) (h1 : Conf w' ma ja ml jl ms js hj j1 j2 ca jp) (h2 : RMap w' rm rs) (h3 : Below w.heap.size w w') : NewMeta w sl er p1 p2 j1 j2 fr sz cl hj ma ja ml jl ms js rs e w' := ⟨ca, cc, jp, rm, he, h1, h2, h3⟩

set_option maxHeartbeats 8000000 in
set_option maxRecDepth 100000 in
theorem meta19 (sl er p1 p2 j1 j2 fr sz cl : Int) (hj : Bool) (ma ja ra : Option Addr) (ml mc jl jc rl rc : Nat) (ms js : List M4) (rs : List (ByteArray × Int)) (w : World) (hM : Mems w ma ml ms) (hJ : Mems w ja jl js) (hR : Rejs w ra rl rs) (hO : OkR rs) (hnm : ma = none → ml = 0) (hnj : ja = none → jl = 0) (hl1 : ml ≤ 1048576) (hl2 : jl ≤ 1048576) (hl3 : rl ≤ 1048576) :
    Calls Try.prog 19 #[.agg #[.int .u64 sl, .int .u64 er, .slice ma ml mc, .int .u64 p1, .int .u64 p2, .bool hj, .slice ja jl jc, .int .u64 j1, .int .u64 j2, .int .u64 fr, .int .u64 sz, .slice ra rl rc, .int .u64 cl]] w fun e w' => NewMeta w sl er p1 p2 j1 j2 fr sz cl hj ma ja ml jl ms js rs e w' := by
  have HK : Hid _ := K19.init w #[.int .u64 sl, .int .u64 er, .slice ma ml mc, .int .u64 p1, .int .u64 p2, .bool hj, .slice ja jl jc, .int .u64 j1, .int .u64 j2, .int .u64 fr, .int .u64 sz, .slice ra rl rc, .int .u64 cl]
  go_enter Try.func19, Try.ntmps19
  go_wp2
  obtain ⟨W, hEq⟩ : ∃ W, W = (w.alloc (.cells #[.int .u64 sl, .int .u64 er, .slice ma ml mc, .int .u64 p1, .int .u64 p2, .bool hj, .slice ja jl jc, .int .u64 j1, .int .u64 j2, .int .u64 fr, .int .u64 sz, .slice ra rl rc, .int .u64 cl] 40)).alloc (.cells zero10 55) := ⟨_, rfl⟩
  rw [← hEq] at HK ⊢
  clear hEq
  go_region_held3 (fun u => u.heap[w.heap.size]? = some (.cells #[.int .u64 sl, .int .u64 er, .slice ma ml mc, .int .u64 p1, .int .u64 p2, .bool hj, .slice ja jl jc, .int .u64 j1, .int .u64 j2, .int .u64 fr, .int .u64 sz, .slice ra rl rc, .int .u64 cl] 40 (0, 0)) ∧ u.cell? ⟨w.heap.size, 0, none⟩ = some (.int .u64 sl) ∧ u.cell? ⟨w.heap.size, 1, none⟩ = some (.int .u64 er) ∧ u.cell? ⟨w.heap.size, 2, none⟩ = some (.slice ma ml mc) ∧ u.cell? ⟨w.heap.size, 3, none⟩ = some (.int .u64 p1) ∧ u.cell? ⟨w.heap.size, 4, none⟩ = some (.int .u64 p2) ∧ u.cell? ⟨w.heap.size, 5, none⟩ = some (.bool hj) ∧ u.cell? ⟨w.heap.size, 6, none⟩ = some (.slice ja jl jc) ∧ u.cell? ⟨w.heap.size, 7, none⟩ = some (.int .u64 j1) ∧ u.cell? ⟨w.heap.size, 8, none⟩ = some (.int .u64 j2) ∧ u.cell? ⟨w.heap.size, 9, none⟩ = some (.int .u64 fr) ∧ u.cell? ⟨w.heap.size, 10, none⟩ = some (.int .u64 sz) ∧ u.cell? ⟨w.heap.size, 11, none⟩ = some (.slice ra rl rc) ∧ u.cell? ⟨w.heap.size, 12, none⟩ = some (.int .u64 cl)) ((refine s19 ?_; first | (with_reducible exact HK.out.h40) | (with_reducible exact HK.out.drew.h40) | (with_reducible exact (set10_other (Nat.ne_of_lt (Nat.lt_succ_self _))).trans HK.out.h40)))
    (first | (go_at_call 30; refine (conf30 sl er p1 p2 j1 j2 fr sz cl hj ma ja ra ml mc jl jc rl rc ms js _ (hM.below ?_) (hJ.below ?_) hnm hnj hl1 hl2).mono ?_; rotate_left; rotate_left; rintro e w1 ⟨ca, cc, jp, rfl, hc, hb⟩; have hkn := (by (first | exact HK.out.next hb | exact HK.out.drew.next hb) : K19 w #[.int .u64 sl, .int .u64 er, .slice ma ml mc, .int .u64 p1, .int .u64 p2, .bool hj, .slice ja jl jc, .int .u64 j1, .int .u64 j2, .int .u64 fr, .int .u64 sz, .slice ra rl rc, .int .u64 cl] w1); clear HK hb; have HK : Hid _ := hkn; have HC : Hid _ := hc; clear hkn hc; rotate_left; (first | exact HK.out.hb | exact HK.out.drew.hb); (first | exact HK.out.hb | exact HK.out.drew.hb)) | (go_at_call 18; refine (map18 ra rl rc rs _ (hR.below HK.out.hb) hO hl3).mono ?_; rintro e w2 ⟨rm, rfl, hr, hb⟩; have hkn := HK.out.next hb; have hc := HC.out.below hb; clear HK HC hb; have HK : Hid _ := hkn; have HC : Hid _ := hc; have HR : Hid (RMap w2 rm rs) := hr; clear hkn hc hr) | (go_at_call 29; (refine (new29 sl er ca ml cc p1 p2 jp fr sz rm cl _).mono ?_; rintro e w3 ⟨rfl, hb⟩; have hkn := HK.out.next hb; have hc := HC.out.below hb; have hr := HR.out.below hb; clear HK HC HR hb; obtain ⟨z0, z1, z2, z3, z4, z5, z6, z7, z8, z9, zf0, zf1, zf2, zf3, zf4, zf5, zf6, zf7, zf8, zf9⟩ := z10 hkn.h55; have HK : Hid _ := hkn; have HC : Hid _ := hc; have HR : Hid (RMap w3 rm rs) := hr; clear hkn hc hr)))
  go_wp2_with fail
  exact bodyPost_ret (results_cell_row (fn := Try.f19) (p := 2) (ty := 55) rfl _ _ (w.heap.size + 1) 55 _ (0, 0) _ rfl (set10_new HK.out.h55) Try.underlying55 rfl (by kernel_rfl)) rfl (NewMeta.intro ca cc jp rm rfl (HC.out.other HK.out.h55 (fun k hk => set10_other hk)) (HR.out.other HK.out.h55 (fun k hk => set10_other hk)) (below_set10 HK.out.hb (by omega)))
end Go.Proofs.Qxb6608623a
