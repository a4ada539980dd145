/-
  PLAIN: when a list of ranges covers, one behind the other; what a range that is cut in two does to it. No Go function in sight.
-/
namespace Go.Proofs.Qxb6614239a

/-- One range (first, count) on top of what reaches up to n. -/
def step (n : Int) (p : Int × Int) : Option Int := if 0 < p.2 ∧ n < p.1 + p.2 then (if n < p.1 then none else some (p.1 + p.2)) else some n
def cov (n : Int) : List (Int × Int) → Option Int
  | [] => some n
  | p :: ps => (step n p).bind fun m => cov m ps

theorem cov_append : ∀ (ps qs : List (Int × Int)) (n : Int), cov n (ps ++ qs) = (cov n ps).bind fun m => cov m qs
  | [], qs, n => rfl
  | p :: ps, qs, n => by
    simp only [List.cons_append, cov]
    cases step n p with
    | none => rfl
    | some m => exact cov_append ps qs m

theorem cov_snoc (ps : List (Int × Int)) (p : Int × Int) (n : Int) : cov n (ps ++ [p]) = (cov n ps).bind fun m => step m p := by
  rw [cov_append]
  congr 1
  funext m
  simp only [cov]
  cases step m p <;> rfl

/-- A list that fails early fails. -/
theorem cov_none {ps : List (Int × Int)} {k : Nat} {n : Int} (h : cov n (ps.take k) = none) : cov n ps = none := by
  rw [← List.take_append_drop k ps, cov_append, h]
  rfl

theorem cov_succ {ps : List (Int × Int)} {k : Nat} {n m : Int} {p : Int × Int} (h : cov n (ps.take k) = some m) (hp : ps[k]? = some p) : cov n (ps.take (k + 1)) = step m p := by
  have hk : k < ps.length := by
    rcases Nat.lt_or_ge k ps.length with h | h
    · exact h
    · rw [List.getElem?_eq_none h] at hp; cases hp
  rw [List.getElem?_eq_getElem hk] at hp
  rw [List.take_succ_eq_append_getElem hk, cov_snoc, h, Option.some.inj hp]
  rfl

theorem step_facts {n m : Int} {p : Int × Int} (h : step n p = some m) : n ≤ m ∧ (0 < p.2 → p.1 + p.2 ≤ m) ∧ ∀ x, n ≤ x → x < m → 0 < p.2 ∧ p.1 ≤ x ∧ x < p.1 + p.2 := by
  unfold step at h
  split at h
  · split at h
    · cases h
    · obtain rfl := Option.some.inj h
      exact ⟨by omega, fun _ => by omega, fun x h1 h2 => by omega⟩
  · obtain rfl := Option.some.inj h
    exact ⟨by omega, fun _ => by omega, fun x h1 h2 => by omega⟩

theorem cov_facts : ∀ (ps : List (Int × Int)) (n top : Int), cov n ps = some top → n ≤ top ∧ (∀ p ∈ ps, 0 < p.2 → p.1 + p.2 ≤ top) ∧ ∀ x, n ≤ x → x < top → ∃ p ∈ ps, 0 < p.2 ∧ p.1 ≤ x ∧ x < p.1 + p.2
  | [], n, top, h => by
    obtain rfl : n = top := by simpa [cov] using h
    exact ⟨by omega, fun p hp => absurd hp (by simp), fun x h1 h2 => absurd h2 (by omega)⟩
  | p :: ps, n, top, h => by
    simp only [cov] at h
    cases hs : step n p with
    | none => rw [hs] at h; cases h
    | some m =>
      rw [hs] at h
      obtain ⟨a1, a2, a3⟩ := step_facts hs
      obtain ⟨b1, b2, b3⟩ := cov_facts ps m top h
      refine ⟨by omega, fun q hq hq2 => ?_, fun x h1 h2 => ?_⟩
      · rcases List.mem_cons.1 hq with rfl | hq
        · have := a2 hq2; omega
        · exact b2 q hq hq2
      · by_cases hx : x < m
        · exact ⟨p, by simp, a3 x h1 hx⟩
        · obtain ⟨q, hq, hr⟩ := b3 x (by omega) h2
          exact ⟨q, by simp [hq], hr⟩

/-- Some range of the list holds x. -/
def Touch (ps : List (Int × Int)) (x : Int) : Prop := ∃ p ∈ ps, 0 < p.2 ∧ p.1 ≤ x ∧ x < p.1 + p.2

theorem touch_iff {ps : List (Int × Int)} {n top x : Int} (h : cov n ps = some top) (hx : n ≤ x) : Touch ps x ↔ x < top := by
  obtain ⟨_, h2, h3⟩ := cov_facts ps n top h
  constructor
  · rintro ⟨p, hp, a, b, c⟩
    have := h2 p hp a
    omega
  · intro hlt
    exact h3 x hx hlt

theorem touch_succ {ps : List (Int × Int)} {k : Nat} {p : Int × Int} {x : Int} (hp : ps[k]? = some p) : Touch (ps.take (k + 1)) x ↔ Touch (ps.take k) x ∨ (0 < p.2 ∧ p.1 ≤ x ∧ x < p.1 + p.2) := by
  have hk : k < ps.length := by
    rcases Nat.lt_or_ge k ps.length with h | h
    · exact h
    · rw [List.getElem?_eq_none h] at hp; cases hp
  rw [List.getElem?_eq_getElem hk] at hp
  rw [List.take_succ_eq_append_getElem hk, Option.some.inj hp]
  constructor
  · rintro ⟨q, hq, hr⟩
    rcases List.mem_append.1 hq with hq | hq
    · exact Or.inl ⟨q, hq, hr⟩
    · rw [List.mem_singleton.1 hq] at hr; exact Or.inr hr
  · rintro (⟨q, hq, hr⟩ | hr)
    · exact ⟨q, List.mem_append.2 (Or.inl hq), hr⟩
    · exact ⟨p, List.mem_append.2 (Or.inr (by simp)), hr⟩

/-- A range that is cut in two. -/
theorem step_cut (n f c cut : Int) (h0 : 0 ≤ cut) (h1 : cut ≤ c ∨ (c ≤ 0 ∧ cut = 0)) : ((step n (f, cut)).bind fun m => step m (f + cut, c - cut)) = step n (f, c) := by
  unfold step
  simp only
  by_cases hc : 0 < cut ∧ n < f + cut
  · rw [if_pos hc]
    by_cases hn : n < f
    · rw [if_pos hn, if_pos (by omega)]
      first | rfl | (rw [if_pos hn]; rfl) | simp [hn]
    · rw [if_neg hn, Option.bind_some]
      by_cases hr : 0 < c - cut ∧ f + cut < f + cut + (c - cut)
      · rw [if_pos hr, if_neg (by omega), if_pos (by omega)]
        first | (rw [if_neg hn]; congr 1; omega) | (simp [hn]; omega)
      · rw [if_neg hr, if_pos (by omega)]
        first | (rw [if_neg hn]; congr 1; omega) | (simp [hn]; omega)
  · rw [if_neg hc, Option.bind_some]
    by_cases hr : 0 < c - cut ∧ n < f + cut + (c - cut)
    · rw [if_pos hr]
      by_cases hn : n < f + cut
      · rw [if_pos hn, if_pos (by omega), if_pos (by omega)]
      · rw [if_neg hn, if_pos (by omega)]
        first | (rw [if_neg (by omega)]; congr 1; omega) | (simp; omega)
    · rw [if_neg hr, if_neg (by omega)]

end Go.Proofs.Qxb6614239a
