/-
  rejoinMapRB1 (18) and sameRejoinsRB1 (37).
-/
import Derived.Test.Qxb6608623aViews
import Derived.Maps.OwnSet
import Derived.Maps.OwnOps
import Derived.Maps.Views
import Derived.RegionTactic
import Derived.BigRegion
import Derived.Deep.QuietTactic
import Derived.BigQuiet
namespace Go.Proofs.Qxb6608623a
open Go.RowKit Go.Maps

theorem law9 : Keyed Try.prog 9 := string_keyed Try.underlying9
theorem zero23 (w : World) : (zeroValue 23).run Try.prog w = .ok (.int .u64 0) w := by kernel_rfl
theorem mk45 (n : Int) (w : World) : (Instr.makeMap 45 (some (.int .i64 n))).run Try.prog w = .ok (.map (some w.heap.size)) (w.alloc (.map #[] 0)) := by kernel_rfl

/-- THE MAP's DATUM: each rejoin put in its turn, later ones winning. -/
def putOne (D : DataW Unit) (r : ByteArray × Int) : DataW Unit := D.put (.string r.1.data.toList) (.lit (.int .u64 r.2))
def mapOf (rs : List (ByteArray × Int)) : DataW Unit := rs.foldl putOne (.map [])

theorem mapOf_snoc (rs : List (ByteArray × Int)) (r : ByteArray × Int) : mapOf (rs ++ [r]) = putOne (mapOf rs) r := by simp [mapOf]

theorem foldl_isMap : ∀ (rs : List (ByteArray × Int)) (D : DataW Unit), IsMap D → IsMap (rs.foldl putOne D)
  | [], _, h => h
  | r :: rs, D, ⟨es, h⟩ => foldl_isMap rs _ (by subst h; exact ⟨_, rfl⟩)

theorem has_foldl : ∀ (rs : List (ByteArray × Int)) (D : DataW Unit) (k : Lit), IsMap D → (Maps.has D k = true ∨ ∃ r ∈ rs, Lit.string r.1.data.toList = k) → Maps.has (rs.foldl putOne D) k = true
  | [], D, k, _, h => by
    rcases h with h | ⟨r, hr, _⟩
    · exact h
    · cases hr
  | r :: rs, D, k, hD, h => by
    refine has_foldl rs _ k (by obtain ⟨es, rfl⟩ := hD; exact ⟨_, rfl⟩) ?_
    by_cases e : Lit.string r.1.data.toList = k
    · left
      rw [← e]
      exact has_put_same hD (show WideAt.IsKeyLit (Lit.string r.1.data.toList) from trivial) _
    · rcases h with h | ⟨x, hx, he⟩
      · left
        unfold putOne
        rw [has_put_other (fun e' => e e'.symm)]
        exact h
      · rcases List.mem_cons.1 hx with rfl | hx
        · exact absurd he e
        · exact Or.inr ⟨x, hx, he⟩

theorem has_mapOf {rs : List (ByteArray × Int)} {r : ByteArray × Int} (h : r ∈ rs) : Maps.has (mapOf rs) (.string r.1.data.toList) = true :=
  has_foldl rs _ _ ⟨_, rfl⟩ (Or.inr ⟨r, h, rfl⟩)

/-- A map value that reads as the rejoins do: nil where there are none. -/
def RMap (w : World) (v : Option Nat) (rs : List (ByteArray × Int)) : Prop :=
  (rs = [] ∧ v = none) ∨ (rs ≠ [] ∧ ∃ b, v = some b ∧ w.ownsMap Try.prog 9 (plainElem (H := Unit) Try.prog 23) b rs.length (mapOf rs))

theorem RMap.below {w w' : World} {v : Option Nat} {rs : List (ByteArray × Int)} (h : RMap w v rs) (hb : Below w.heap.size w w') : RMap w' v rs := by
  rcases h with h | ⟨h1, b, h2, es, clock, h3, h4⟩
  · exact Or.inl h
  · exact Or.inr ⟨h1, b, h2, es, clock, (hb.block b (lt_of_block h3)).trans h3, h4⟩

def MadeMap (w : World) (rs : List (ByteArray × Int)) (e : Ending) (w' : World) : Prop := ∃ v, e = .returned (.map v) ∧ RMap w' v rs ∧ Below w.heap.size w w'
theorem MadeMap.intro {w w' : World} {rs : List (ByteArray × Int)} {e : Ending} (v : Option Nat) (he : e = .returned (.map v)) (h1 : RMap w' v rs) (h2 : Below w.heap.size w w') : MadeMap w rs e w' := ⟨v, he, h1, h2⟩

set_option maxHeartbeats 8000000 in
theorem map18 (a : Option Addr) (len cap : Nat) (rs : List (ByteArray × Int)) (w : World) (hR : Rejs w a len rs) (hO : OkR rs) (hl : len ≤ 1048576) :
    Calls Try.prog 18 #[.slice a len cap] w fun e w' => MadeMap w rs e w' := by
  by_cases h0 : len = 0
  · subst h0
    have hrs : rs = [] := List.eq_nil_of_length_eq_zero hR.len_eq
    go_enter Try.func18, Try.ntmps18
    go_wp2
    go_ret
    exact MadeMap.intro none rfl (Or.inl ⟨hrs, rfl⟩) (Below.refl _ _)
  · have hne : ((len : Int) == 0) = false := by simp; omega
    have hmm := mk45
    go_enter Try.func18, Try.ntmps18
    go_wp2
    go_loopw [4] (fun i wr => ∃ k : Nat, k ≤ len ∧ i = .int .i64 k ∧ wr.ownsMap Try.prog 9 (plainElem (H := Unit) Try.prog 23) w.heap.size k (mapOf (rs.take k)) ∧ Below w.heap.size w wr) (fun i _ => len - (intOf i).toNat)
    case atStart => exact ⟨0, Nat.zero_le _, rfl, World.ownsMap_made _ _ _ _, (Below.refl _ _).alloc (Nat.le_refl _) _⟩
    case round =>
      obtain ⟨k, hk, rfl, hown, hbr⟩ := hrel
      by_cases hlt : k < len
      · obtain ⟨b, off, s, n, rfl, hrk, c0, c1⟩ := hR.at hlt
        obtain ⟨hs, hn⟩ := hO.at hrk
        simp only at hs hn
        replace c0 := cell_later hbr c0
        replace c1 := cell_later hbr c1
        obtain ⟨w1, hrun, hown1, hgrow1⟩ := World.ownsMap.update (w := wr.drew) (t := 45) (e := 23) hown law9 Try.underlying45 (by unfold maxLen; omega) (key := .string s) (val := .int .u64 n) (WideMaps.keyOf_string_mk Try.underlying9 hs) (plainElem_int Try.underlying23 hn)
        have ht : rs.take (k + 1) = rs.take k ++ [(s, n)] := by
          have hkr : k < rs.length := by rw [hR.len_eq]; exact hlt
          rw [List.getElem?_eq_getElem hkr] at hrk
          rw [List.take_succ_eq_append_getElem hkr, Option.some.inj hrk]
        have HO : Hid (w1.ownsMap Try.prog 9 (plainElem (H := Unit) Try.prog 23) w.heap.size (k + 1) (mapOf (rs.take (k + 1)))) := by
          rw [ht, mapOf_snoc]; exact hown1
        have hb1 : Below w.heap.size w w1 := hbr.drew.grown hgrow1 hbr.size (fun j hj => by cases hj; exact Nat.le_refl _)
        clear hown hown1 hgrow1 ht hR hO hrk hbr hs hn
        go_wp2
        go_region
        all_goals go_wp2
        all_goals go_roundw
        case rel => exact ⟨k + 1, by omega, by go_num, HO.out, hb1⟩
        case measure => simp [intOf]; omega
      · have hke : k = len := by omega
        subst hke
        have hlen := hR.len_eq
        have ht : rs.take k = rs := List.take_of_length_le (by omega)
        rw [ht] at hown
        have HO : Hid _ := hown
        clear hown ht
        go_wp2
        go_ret
        exact MadeMap.intro _ rfl (Or.inr ⟨fun e => by subst e; simp at hlen; omega, _, rfl, by rw [hlen]; exact HO.out⟩) hbr

theorem eqnil45 (w : World) (r : Option Nat) : (binOp .eql 45 (.map r) (.map none)).run Try.prog w = .ok (.bool r.isNone) w :=
  run_eql_map_nil w 45 9 23 r Try.underlying45

set_option maxHeartbeats 8000000 in
set_option maxRecDepth 100000 in
theorem same37 (gv wv : Option Nat) (a : Option Addr) (len cap : Nat) (rs : List (ByteArray × Int)) (w : World) (hG : RMap w gv rs) (hW : RMap w wv rs) (hR : Rejs w a len rs) (hO : OkR rs) (hl : len ≤ 1048576) :
    Calls Try.prog 37 #[.map gv, .map wv, .slice a len cap] w fun e w' => e = .returned (.bool true) ∧ w' = w := by
  have hq := eqnil45
  rcases hG with ⟨hrs, rfl⟩ | ⟨hrs, b1, rfl, hown1⟩
  · rcases hW with ⟨_, rfl⟩ | ⟨h, _⟩
    · have hlen := hR.len_eq
      subst hrs
      obtain rfl : 0 = len := by simpa using hlen
      clear hR hO hlen
      go_enter Try.func37, Try.ntmps37
      go_wp2
      refine wp_loop_rounds 1 ?_
      rw [rounds_succ]
      go_wp2
      go_ret
      exact ⟨rfl, rfl⟩
    · exact absurd hrs h
  · rcases hW with ⟨h, _⟩ | ⟨_, b2, rfl, hown2⟩
    · exact absurd h hrs
    · have hl1 : ∀ ty, (Builtin.len_ #[45] ty #[.map (some b1)]).run Try.prog w = .ok (.int .i64 (Maps.size (mapOf rs))) w := fun ty => hown1.len Try.underlying45 ty
      have hl2 : ∀ ty, (Builtin.len_ #[45] ty #[.map (some b2)]).run Try.prog w = .ok (.int .i64 (Maps.size (mapOf rs))) w := fun ty => hown2.len Try.underlying45 ty
      go_enter Try.func37, Try.ntmps37
      go_wp2
      go_loop [7] (fun i => ∃ k : Nat, k ≤ len ∧ i = .int .i64 k) (fun i => len - (intOf i).toNat)
      case atStart => exact ⟨0, Nat.zero_le _, rfl⟩
      case round =>
        obtain ⟨k, hk, rfl⟩ := hrel
        by_cases hlt : k < len
        · obtain ⟨b, off, s, n, rfl, hrk, c0, c1⟩ := hR.at hlt
          obtain ⟨hs, hn⟩ := hO.at hrk
          simp only at hs hn
          have hkey := WideMaps.keyOf_string_mk (P := Try.prog) (k := 9) Try.underlying9 hs
          have hhas : Maps.has (mapOf rs) (.string s.data.toList) = true := has_mapOf (r := (s, n)) (List.mem_of_getElem? hrk)
          obtain ⟨v1, ps1, hrun1, hv1⟩ := hown1.look_ok (t := 45) (e := 23) law9 Try.underlying45 (zero23 w) (zd := .lit (.int .u64 0)) (plainElem_int Try.underlying23 (by decide)) hkey
          obtain ⟨c, rfl, hc, _⟩ := plainElem_int_inv Try.underlying23 hv1
          obtain ⟨c', hrun2, hat, _⟩ := hown2.lookup_int (t := 45) (e := 23) law9 Try.underlying45 Try.underlying23 (zero23 w) hkey
          have hcc : c = c' := by
            have e1 := congrArg Prod.fst hc
            simp only at e1
            rw [hat] at e1
            injection e1 with e1
            injection e1 with _ e1
            exact e1.symm
          subst hcc
          rw [hhas] at hrun1
          clear hown1 hown2 hR hO hl1 hl2 hkey hhas hv1 hc hat hrk hs hn hrs
          go_wp2
          go_round
          case rel => exact ⟨k + 1, by omega, by go_num⟩
          case measure => simp [intOf]; omega
        · clear hown1 hown2 hl1 hl2 hrs
          go_wp2
          go_ret
          exact ⟨rfl, rfl⟩
end Go.Proofs.Qxb6608623a
