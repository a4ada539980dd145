/-
  The walks of zzBytes_FnCompareSigV4ParamsIsTotalOrder (10) and of the law's own text (4).
-/
import Derived.Test.Qxb6605735aCmpWalks
namespace Go.Proofs.Qxb6605735a
open Go.RowKit

set_option maxHeartbeats 2000000 in
theorem zz10 (a0 a1 a2 a3 a4 a5 a6 a7 a8 : ByteArray) (w0 : a0.size ≤ maxLen) (w1 : a1.size ≤ maxLen) (w2 : a2.size ≤ maxLen) (w3 : a3.size ≤ maxLen) (w4 : a4.size ≤ maxLen) (w5 : a5.size ≤ maxLen) (w6 : a6.size ≤ maxLen) (w7 : a7.size ≤ maxLen) (w8 : a8.size ≤ maxLen) (w : World) :
    Calls Try.prog 10 #[.string a0, .string a1, .string a2, .string a3, .string a4, .string a5, .string a6, .string a7, .string a8] w fun e w' => ∃ b : Bool, e = .returned (.bool b) ∧ (b = true → a0.size + a1.size + a2.size + a3.size + a4.size + a5.size + a6.size + a7.size + a8.size ≤ 1048576) ∧ w' = w := by
  unfold maxLen at w0 w1 w2 w3 w4 w5 w6 w7 w8
  go_enter Try.func10, Try.ntmps10
  go_wp2
  all_goals go_ret
  all_goals first | exact ⟨false, rfl, fun h => Bool.noConfusion h, rfl⟩ | exact ⟨true, rfl, fun _ => by omega, rfl⟩

theorem toList_data (a b : ByteArray) : (a.toList == b.toList) = decide (a.data.toList = b.data.toList) := by
  have h : ∀ x : ByteArray, x.toList = x.data.toList := fun x => ByteArray.toList_eq x
  rw [h a, h b, Bool.eq_iff_iff]
  simp

theorem same_cases (n0 v0 n1 v1 : ByteArray) (x : Int) (hx : x = cmpPair n0.data.toList v0.data.toList n1.data.toList v1.data.toList) :
    (x = 0 ∧ (n0.toList == n1.toList) = true ∧ (v0.toList == v1.toList) = true) ∨ (x = -1 ∧ (n0.toList == n1.toList) = false) ∨ (x = -1 ∧ (n0.toList == n1.toList) = true ∧ (v0.toList == v1.toList) = false)
      ∨ (x = 1 ∧ (n0.toList == n1.toList) = false) ∨ (x = 1 ∧ (n0.toList == n1.toList) = true ∧ (v0.toList == v1.toList) = false) := by
  have hr := cmpPair_range n0.data.toList v0.data.toList n1.data.toList v1.data.toList
  have he := cmpPair_eq n0.data.toList v0.data.toList n1.data.toList v1.data.toList
  rw [← hx] at hr he
  rw [toList_data, toList_data]
  by_cases h1 : n0.data.toList = n1.data.toList <;> by_cases h2 : v0.data.toList = v1.data.toList <;> simp only [h1, h2, decide_true, decide_false] <;> simp_all

theorem Grown.trans' {a b c : World} (h : Grown a b) (k : Grown b c) : Grown a c :=
  ⟨World.keptBut_trans h.1 k.1, fun x => (k.2.1 x).trans (h.2.1 x), Nat.le_trans h.2.2 k.2.2⟩

set_option maxHeartbeats 8000000 in
set_option maxRecDepth 100000 in
theorem order_walk (a0 : ByteArray) (a1 : ByteArray) (a2 : ByteArray) (a3 : ByteArray) (a4 : ByteArray) (a5 : ByteArray) (a6 : ByteArray) (a7 : ByteArray) (a8 : ByteArray) (w0 : a0.size ≤ maxLen) (w1 : a1.size ≤ maxLen) (w2 : a2.size ≤ maxLen) (w3 : a3.size ≤ maxLen) (w4 : a4.size ≤ maxLen) (w5 : a5.size ≤ maxLen) (w6 : a6.size ≤ maxLen) (w7 : a7.size ≤ maxLen) (w8 : a8.size ≤ maxLen) (w : World) :
    Calls Try.prog 4 #[.string a0, .string a1, .string a2, .string a3, .string a4, .string a5, .string a6, .string a7, .string a8] w fun e w' => e = .returned (.bool true) ∧ Grown w w' := by
  go_enter Try.func4, Try.ntmps4
  go_wp2_with fail
  refine (zz10 a0 a1 a2 a3 a4 a5 a6 a7 a8 w0 w1 w2 w3 w4 w5 w6 w7 w8 _).mono ?_
  rintro e w' ⟨b, rfl, hb, rfl⟩
  cases b
  · clear hb
    go_wp2
    go_ret
    exact ⟨rfl, Grown.refl _⟩
  have hs := hb rfl
  clear hb w0 w1 w2 w3 w4 w5 w6 w7 w8
  go_wp2_with fail
  refine (cmp8 _ _ _ _ _ _ _).mono ?_
  rintro e u1 ⟨ab, rfl, hab, g1⟩
  have HAB : Hid (ab = cmpPair a0.data.toList a1.data.toList a3.data.toList a4.data.toList) := hab
  clear hab
  go_wp2_with fail
  refine (cmp8 _ _ _ _ _ _ _).mono ?_
  rintro e u2 ⟨ba, rfl, hba, g2⟩
  have HBA : Hid (ba = cmpPair a3.data.toList a4.data.toList a0.data.toList a1.data.toList) := hba
  clear hba
  go_wp2_with fail
  refine (cmp8 _ _ _ _ _ _ _).mono ?_
  rintro e u3 ⟨bc, rfl, hbc, g3⟩
  have HBC : Hid (bc = cmpPair a3.data.toList a4.data.toList a6.data.toList a7.data.toList) := hbc
  clear hbc
  go_wp2_with fail
  refine (cmp8 _ _ _ _ _ _ _).mono ?_
  rintro e u4 ⟨ac, rfl, hac, g4⟩
  have HAC : Hid (ac = cmpPair a0.data.toList a1.data.toList a6.data.toList a7.data.toList) := hac
  clear hac
  have hb : ba = -ab := by rw [HBA.out, HAB.out, cmpPair_anti]
  subst hb
  have hle : ab ≤ 0 → bc ≤ 0 → ac ≤ 0 := by rw [HAB.out, HBC.out, HAC.out]; exact cmpPair_trans _ _ _ _ _ _
  have hge : 0 ≤ ab → 0 ≤ bc → 0 ≤ ac := by rw [HAB.out, HBC.out, HAC.out]; exact cmpPair_trans' _ _ _ _ _ _
  have hA := same_cases a0 a1 a3 a4 ab HAB.out
  have hB := same_cases a3 a4 a6 a7 bc HBC.out
  clear HAB HBA HBC HAC
  obtain ⟨rfl, p1, p2⟩ | ⟨rfl, p1⟩ | ⟨rfl, p1, p2⟩ | ⟨rfl, p1⟩ | ⟨rfl, p1, p2⟩ := hA <;> obtain ⟨rfl, q1, q2⟩ | ⟨rfl, q1⟩ | ⟨rfl, q1, q2⟩ | ⟨rfl, q1⟩ | ⟨rfl, q1, q2⟩ := hB
  all_goals try replace hle := hle (by decide) (by decide)
  all_goals try replace hge := hge (by decide) (by decide)
  all_goals go_wp2
  all_goals go_ret
  all_goals exact ⟨rfl, Grown.trans' g1 (Grown.trans' g2 (Grown.trans' g3 g4))⟩

end Go.Proofs.Qxb6605735a
