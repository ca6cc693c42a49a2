import Derived.Test.Qxb6000886aSm
namespace Go.Proofs.Qxb6000886a.pl
open Go.RowKit
open Go.Proofs.Qxb6000886a.mp (W32 W8 Comb Comp cmp)
open Go.Proofs.Qxb6000886a.rw (Row updN join stepC run run_snoc run_inv)
set_option linter.unusedVariables false
set_option linter.unusedSimpArgs false

/-! ### plain laws on 'run' -/
theorem getD_of_lt {l : List Int} {k : Nat} (h : k < l.length) : l.getD k 0 = l[k] := by
  rw [List.getD_eq_getElem?_getD, List.getElem?_eq_getElem h]; rfl

/-- what one step does to what lies ahead of the starter -/
theorem step_keeps (f : Int → Int) (c : Int → Int → Option Int) (S : List Int × Int) (r : Int) (k : Nat) (h1 : (k : Int) ≤ S.2) (h2 : S.2 < S.1.length) :
    (k : Int) ≤ (stepC f c S r).2 ∧ (stepC f c S r).2 < (stepC f c S r).1.length ∧ (stepC f c S r).1.take k = S.1.take k := by
  unfold rw.stepC
  split
  · refine ⟨h1, by simpa using h2, ?_⟩
    simp only []
    rw [List.take_set_of_le (by omega)]
  · refine ⟨?_, ?_, ?_⟩
    · simp only []
      split <;> omega
    · simp only [List.length_append, List.length_singleton]
      split <;> omega
    · simp only []
      rw [List.take_append_of_le_length (by omega)]

theorem fold_keeps (f : Int → Int) (c : Int → Int → Option Int) (k : Nat) : ∀ (l : List Int) (S : List Int × Int), (k : Int) ≤ S.2 → S.2 < S.1.length →
    (k : Int) ≤ (l.foldl (stepC f c) S).2 ∧ (l.foldl (stepC f c) S).2 < (l.foldl (stepC f c) S).1.length ∧ (l.foldl (stepC f c) S).1.take k = S.1.take k
  | [], S, h1, h2 => ⟨h1, h2, rfl⟩
  | r :: l, S, h1, h2 => by
    obtain ⟨a, b, d⟩ := step_keeps f c S r k h1 h2
    obtain ⟨a', b', d'⟩ := fold_keeps f c k l (stepC f c S r) a b
    exact ⟨a', b', d'.trans d⟩

theorem join_early (f : Int → Int) (c : Int → Int → Option Int) (out : List Int) (r : Int) : join f c (out, -1) r = none := by
  unfold rw.join
  simp

/-- the leading non-starters stay -/
theorem run_lead (f : Int → Int) (c : Int → Int → Option Int) (l : List Int) : ∀ k, k ≤ l.length → (∀ j, j < k → f (l.getD j 0) ≠ 0) → run f c (l.take k) = (l.take k, -1)
  | 0, _, _ => by simp [rw.run]
  | k + 1, hk, h => by
    have ih := run_lead f c l k (by omega) (fun j hj => h j (by omega))
    rw [List.take_succ_eq_append_getElem (by omega), run_snoc, ih]
    unfold rw.stepC
    rw [join_early]
    have := h k (by omega)
    rw [getD_of_lt (by omega)] at this
    simp only [if_neg this]

theorem run_split (f : Int → Int) (c : Int → Int → Option Int) (l : List Int) (k : Nat) : run f c l = (l.drop k).foldl (stepC f c) (run f c (l.take k)) := by
  unfold rw.run
  rw [← List.foldl_append, List.take_append_drop]

/-- law 7, plainly -/
theorem run_law (f : Int → Int) (c : Int → Int → Option Int) (l : List Int) (k : Nat) (hk : k ≤ l.length) (h : ∀ j, j < k → f (l.getD j 0) ≠ 0) (hz : k < l.length → f (l.getD k 0) = 0) :
    k ≤ (run f c l).1.length ∧ (k < l.length → k + 1 ≤ (run f c l).1.length) ∧ ∀ j, j < k → (run f c l).1.getD j 0 = l.getD j 0 := by
  by_cases hlt : k < l.length
  · have h1 := run_lead f c l k hk h
    have h2 : run f c (l.take (k + 1)) = (l.take k ++ [l.getD k 0], (k : Int)) := by
      rw [List.take_succ_eq_append_getElem hlt, run_snoc, h1]
      unfold rw.stepC
      rw [join_early]
      have := hz hlt
      rw [getD_of_lt hlt] at this ⊢
      simp only [if_pos this, List.length_take]
      rw [Nat.min_eq_left (by omega)]
    have h3 := fold_keeps f c k (l.drop (k + 1)) (run f c (l.take (k + 1))) (by rw [h2]; exact Int.le_refl _) (by rw [h2]; simp; omega)
    rw [← run_split f c l (k + 1), h2] at h3
    obtain ⟨a, b, d⟩ := h3
    refine ⟨by omega, fun _ => by omega, fun j hj => ?_⟩
    have e1 : ((run f c l).1.take k).getD j 0 = (run f c l).1.getD j 0 := by
      simp only [List.getD_eq_getElem?_getD, List.getElem?_take, hj, if_true]
    have e2 : ((l.take k ++ [l.getD k 0]).take k).getD j 0 = l.getD j 0 := by
      rw [List.take_append_of_le_length (by simp; omega)]
      simp only [List.getD_eq_getElem?_getD, List.getElem?_take, hj, if_true]
    rw [← e1, d, e2]
  · have hkl : k = l.length := by omega
    have h1 := run_lead f c l k hk h
    subst hkl
    rw [List.take_length] at h1
    rw [h1]
    exact ⟨Nat.le_refl _, fun h => absurd h hlt, fun j _ => rfl⟩

/-- law 6, plainly: where no rune stands first in a pair, nothing turns -/
theorem run_alone (f : Int → Int) (c : Int → Int → Option Int) (l : List Int) (h : ∀ j, j < l.length → ∀ r, c (l.getD j 0) r = none) : (run f c l).1 = l := by
  suffices H : ∀ k, k ≤ l.length → (run f c (l.take k)).1 = l.take k by
    have := H l.length (Nat.le_refl _)
    rwa [List.take_length] at this
  intro k
  induction k with
  | zero => intro _; simp [rw.run]
  | succ k ih =>
    intro hk
    have ih := ih (by omega)
    have hinv := run_inv f c (l.take k)
    rw [List.take_succ_eq_append_getElem (by omega), run_snoc]
    have hj : join f c (run f c (l.take k)) l[k] = none := by
      unfold rw.join
      split
      · rename_i hc
        rw [ih]
        have hl : (run f c (l.take k)).2.toNat < k := by
          have h3 := hinv.2.2
          rw [ih, List.length_take, Nat.min_eq_left (by omega)] at h3
          omega
        have e : (l.take k).getD (run f c (l.take k)).2.toNat 0 = l.getD (run f c (l.take k)).2.toNat 0 := by
          simp only [List.getD_eq_getElem?_getD, List.getElem?_take, hl, if_true]
        rw [e]
        exact h _ (by omega) _
      · rfl
    unfold rw.stepC
    rw [hj]
    simp only [ih]

theorem run_empty_iff (f : Int → Int) (c : Int → Int → Option Int) (l : List Int) : (run f c l).1.length = 0 ↔ l.length = 0 := by
  constructor
  · intro h0
    by_cases hl : l.length = 0
    · exact hl
    · by_cases hz : f (l.getD 0 0) = 0
      · have := (run_law f c l 0 (Nat.zero_le _) (fun j hj => absurd hj (Nat.not_lt_zero _)) (fun _ => hz)).2.1 (by omega)
        omega
      · have h1 : run f c (l.take 1) = (l.take 1, -1) := run_lead f c l 1 (by omega) (fun j hj => by
          have : j = 0 := by omega
          subst this; exact hz)
        have hlen : ∀ (l' : List Int) (S : List Int × Int), 1 ≤ S.1.length → 1 ≤ (l'.foldl (stepC f c) S).1.length := by
          intro l'
          induction l' with
          | nil => intro S h; exact h
          | cons r l' ih =>
            intro S h
            rw [List.foldl_cons]
            apply ih
            unfold rw.stepC
            split
            · simpa using h
            · simp
        have h2 := hlen (l.drop 1) (run f c (l.take 1)) (by rw [h1]; simp; omega)
        rw [← run_split] at h2
        omega
  · intro h
    have := (run_inv f c l).1
    omega

/-- ZZCompose, of a nil slice or of a row of the call's own -/
def Composed (f : Int → Int) (g : Int → Int → Option Int) (l : List Int) (sb : Nat) (w : World) (e : Ending) (w' : World) : Prop :=
  ∃ a' m cap F, e = .returned (.slice a' m cap) ∧ m = (run f (cmp g) l).1.length ∧ (0 < m → a' = some ⟨sb, 0, none⟩) ∧ Row .i32 w' sb m F ∧ (∀ j, j < m → F j = (run f (cmp g) l).1.getD j 0) ∧ w.grownBy w' (some sb)

theorem compose_any (f : Int → Int) (g : Int → Int → Option Int) (l : List Int) (n : Nat) (hL : l.length = n) (a : Option Addr) (tb mb cb nm nc sb c : Nat) (w : World)
    (hn : n ≤ 1048576) (h1 : tb ≠ sb) (h2 : mb ≠ sb) (h3 : cb ≠ sb) (ha : (a = none ∧ n = 0 ∧ c = 0) ∨ (a = some ⟨sb, 0, none⟩ ∧ c = n))
    (hrow : Row .i32 w sb n (fun j => l.getD j 0)) (hwf : ∀ j, j < n → W32 (l.getD j 0))
    (hc1 : w.cell? ⟨tb, 1, none⟩ = some (.map (some mb))) (hc3 : w.cell? ⟨tb, 3, none⟩ = some (.map (some cb)))
    (hm : Comb w mb nm f) (hc : Comp w cb nc g) :
    Calls Try.prog 25 #[.pointer (some ⟨tb, 0, none⟩), .slice a n c] w (Composed f g l sb w) := by
  subst hL
  rcases ha with ⟨rfl, h0, rfl⟩ | ⟨rfl, rfl⟩
  · obtain rfl : l = [] := List.eq_nil_of_length_eq_zero h0
    refine (cz.zcompose_nil tb w).mono ?_
    rintro e w' ⟨rfl, rfl⟩
    exact ⟨none, 0, 0, fun _ => 0, rfl, rfl, fun h => absurd h (Nat.lt_irrefl _), fun j hj => absurd hj (Nat.not_lt_zero _), fun j hj => absurd hj (Nat.not_lt_zero _), World.grownBy.refl _ _⟩
  · refine (cz.zcompose f g l tb mb cb nm nc sb l.length w hn (Nat.le_refl _) (by unfold maxLen; omega) h1 h2 h3 hrow hwf hc1 hc3 hm hc).mono ?_
    rintro e w' ⟨out, st, F, ho, rfl, hr, hF, hg⟩
    have hlen := (run_inv f (cmp g) l).1
    rw [ho] at hlen
    refine ⟨_, _, _, F, rfl, by rw [ho], fun _ => rfl, fun j hj => hr j (by simp only [] at hlen; omega), by rw [ho]; exact hF, hg⟩

end Go.Proofs.Qxb6000886a.pl
