import Derived.Test.Qxb6000886aShr
namespace Go.Proofs.Qxb6000886a.msa
open Go.RowKit
open Go.Proofs.Qxb6000886a.mp (W32 W8)
open Go.Proofs.Qxb6000886a.rw (Row)
open Go.Proofs.Qxb6000886a.cl (Rd)
set_option linter.unusedVariables false
set_option linter.unusedSimpArgs false

def sepB (s : ByteArray) : Bool := decide (s.toList = [90, 115] ∨ s.toList = [90, 108] ∨ s.toList = [90, 112])
def ctlB (s : ByteArray) : Bool := decide (s.toList = [67, 99] ∨ s.toList = [67, 102])

theorem sep_ctl {s : ByteArray} (h : sepB s = true) : ctlB s = false := by
  unfold sepB at h
  unfold ctlB
  simp at h ⊢
  rcases h with h | h | h <;> simp [h]

theorem sep33 (s : ByteArray) (w : World) : Calls Try.prog 33 #[.string s] w fun e w' => e = .returned (.bool (sepB s)) ∧ w' = w := by
  go_enter Try.func33, Try.ntmps33
  go_wp2
  all_goals
    go_ret
    refine ⟨congrArg (fun b => Ending.returned (.bool b)) ?_, rfl⟩
    rw [Bool.eq_iff_iff]
    simp_all [sepB]

theorem ctl34 (s : ByteArray) (w : World) : Calls Try.prog 34 #[.string s] w fun e w' => e = .returned (.bool (ctlB s)) ∧ w' = w := by
  go_enter Try.func34, Try.ntmps34
  go_wp2
  all_goals
    go_ret
    refine ⟨congrArg (fun b => Ending.returned (.bool b)) ?_, rfl⟩
    rw [Bool.eq_iff_iff]
    simp_all [ctlB]

def non3 (p : Prop) (e : Ending) : Prop := ∃ b : Bool, e = .returned (.bool b) ∧ (b = true → p)

/-- zzspInSelectors -/
def InSel (n m : Nat) (F G : Nat → Int) (r : Int) : Prop := ∃ i, i < n ∧ i < m ∧ F i ≤ r ∧ r ≤ G i

set_option maxHeartbeats 1000000 in
theorem sel36 (r : Int) (a a' : Option Addr) (n m c c' b b' off off' : Nat) (F G : Nat → Int) (w : World) (hn : n ≤ 1048576) (hm : m ≤ 1048576) (h : Rd .i32 w a n b off F) (h' : Rd .i32 w a' m b' off' G) :
    Calls Try.prog 36 #[.int .i32 r, .slice a n c, .slice a' m c'] w fun e w' => sm.Res (InSel n m F G r) e ∧ w' = w := by
  obtain ⟨K, hK, hKn, hKm, hKall⟩ : ∃ K : Nat, sm.mn n m = (K : Int) ∧ K ≤ n ∧ K ≤ m ∧ ∀ j, j < n → j < m → j < K := by
    have q1 := sm.mn_le n m
    exact ⟨(sm.mn n m).toNat, by omega, by omega, by omega, fun j _ _ => by omega⟩
  have HKALL : Hid (∀ j, j < n → j < m → j < K) := hKall
  have HK : Hid (sm.mn n m = (K : Int)) := hK
  clear hKall hK
  go_enter Try.func36, Try.ntmps36
  go_wp2_with fail
  refine (sm.min16 _ _ _).mono ?_
  rintro e w' ⟨rfl, rfl⟩
  rw [HK.out]
  go_wp2_with fail
  go_loop [8] (fun iv => ∃ k : Nat, iv = .int .i64 k ∧ k ≤ K ∧ Hid (∀ j, j < k → ¬ (F j ≤ r ∧ r ≤ G j))) (fun iv => K - (intOf iv).toNat)
  case atStart => exact ⟨0, rfl, Nat.zero_le _, fun j hj => absurd hj (Nat.not_lt_zero _)⟩
  case round =>
    obtain ⟨k, rfl, hk, HG⟩ := hrel
    by_cases hlt : k < K
    · obtain rfl := h.addr (by omega)
      obtain rfl := h'.addr (by omega)
      have hc := h.cell k (by omega)
      have hc' := h'.cell k (by omega)
      generalize hx : F k = x at hc
      generalize hy : G k = y at hc'
      have HX : Hid (F k = x) := hx
      have HY : Hid (G k = y) := hy
      clear hx hy
      by_cases h1 : x ≤ r
      · by_cases h2 : r ≤ y
        · go_wp2
          go_ret
          exact ⟨⟨true, rfl, by simp only [true_iff]; exact ⟨k, by omega, by omega, by rw [HX.out]; exact h1, by rw [HY.out]; exact h2⟩⟩, rfl⟩
        · go_wp2
          go_round
          case rel =>
            refine ⟨k + 1, by go_num, by omega, ?_⟩
            intro j hj
            by_cases e : j = k
            · rw [e, HX.out, HY.out]; omega
            · exact HG.out j (by omega)
          case measure => simp [intOf]; omega
      · go_wp2
        go_round
        case rel =>
          refine ⟨k + 1, by go_num, by omega, ?_⟩
          intro j hj
          by_cases e : j = k
          · rw [e, HX.out, HY.out]; omega
          · exact HG.out j (by omega)
        case measure => simp [intOf]; omega
    · go_wp2
      go_ret
      refine ⟨⟨false, rfl, ?_⟩, rfl⟩
      simp only [Bool.false_eq_true, false_iff]
      rintro ⟨i, h1, h2, h3, h4⟩
      exact HG.out i (by have := HKALL.out i h1 h2; omega) ⟨h3, h4⟩

/-- ascending, disjoint, not empty: the first N ranges -/
def Asc (N : Nat) (F G : Nat → Int) : Prop := (∀ j, j < N → F j ≤ G j) ∧ ∀ j, j + 1 < N → G j < F (j + 1)

theorem Asc.lt {N : Nat} {F G : Nat → Int} (h : Asc N F G) : ∀ {a b : Nat}, a < b → b < N → G a < F b
  | a, 0, hab, _ => absurd hab (Nat.not_lt_zero _)
  | a, b + 1, hab, hb => by
    have h1 := h.2 b hb
    rcases Nat.lt_succ_iff_lt_or_eq.1 hab with hlt | rfl
    · have := h.lt hlt (by omega)
      have := h.1 b (by omega)
      omega
    · exact h1

theorem Asc.last {N : Nat} {F G : Nat → Int} (h : Asc N F G) {a b : Nat} (hab : a ≤ b) (hb : b < N) : G a ≤ G b := by
  rcases Nat.lt_or_ge a b with hlt | hge
  · have := h.lt hlt hb
    have := h.1 b hb
    omega
  · have : a = b := by omega
    subst this; exact Int.le_refl _

/-- zzspFindCategory -/
def Found (N : Nat) (F G : Nat → Int) (r : Int) (e : Ending) : Prop :=
  (e = .returned (.int .i64 (-1)) ∧ ∀ j, j < N → ¬ (F j ≤ r ∧ r ≤ G j)) ∨ ∃ k : Nat, e = .returned (.int .i64 k) ∧ k < N ∧ F k ≤ r ∧ r ≤ G k

set_option maxHeartbeats 1000000 in
theorem find37 (r : Int) (a a' : Option Addr) (n m c c' b b' off off' N : Nat) (F G : Nat → Int) (w : World) (hNn : N ≤ n) (hNm : N ≤ m) (hN : N ≤ 1048576) (h : Rd .i32 w a n b off F) (h' : Rd .i32 w a' m b' off' G) (hA : Asc N F G) :
    Calls Try.prog 37 #[.int .i32 r, .slice a n c, .slice a' m c', .int .i64 N] w fun e w' => Found N F G r e ∧ w' = w := by
  go_enter Try.func37, Try.ntmps37
  go_wp2
  go_loop [9, 10] (fun lv hv => ∃ lo hi : Nat, lv = .int .i64 lo ∧ hv = .int .i64 hi ∧ lo ≤ hi ∧ hi ≤ N ∧ Hid (∀ j, j < lo → G j < r) ∧ Hid (∀ j, hi ≤ j → j < N → r ≤ G j)) (fun lv hv => (intOf hv).toNat - (intOf lv).toNat)
  case atStart => exact ⟨0, N, rfl, rfl, Nat.zero_le _, Nat.le_refl _, fun j hj => absurd hj (Nat.not_lt_zero _), fun j h1 h2 => absurd h2 (by omega)⟩
  case round =>
    obtain ⟨lo, hi, rfl, rfl, hlh, hhN, HLO, HHI⟩ := hrel
    by_cases hlt : lo < hi
    · obtain rfl := h'.addr (by omega)
      have hc := h'.cell (lo + (hi - lo) / 2) (by omega)
      generalize hx : G (lo + (hi - lo) / 2) = x at hc
      have HX : Hid (G (lo + (hi - lo) / 2) = x) := hx
      clear hx
      by_cases hxr : x < r
      · go_wp2
        go_round
        case rel =>
          refine ⟨lo + (hi - lo) / 2 + 1, hi, congrArg (Value.int .i64) (by omega), rfl, by omega, hhN, ?_, HHI⟩
          intro j hj
          have := hA.last (show j ≤ lo + (hi - lo) / 2 by omega) (by omega)
          rw [HX.out] at this
          omega
        case measure => simp [intOf]; omega
      · go_wp2
        go_round
        case rel =>
          refine ⟨lo, lo + (hi - lo) / 2, rfl, congrArg (Value.int .i64) (by omega), by omega, by omega, HLO, ?_⟩
          intro j h1 h2
          have := hA.last h1 h2
          rw [HX.out] at this
          omega
        case measure => simp [intOf]; omega
    · have hle : lo = hi := by omega
      subst hle
      by_cases hlN : lo < N
      · obtain rfl := h.addr (by omega)
        have hc := h.cell lo (by omega)
        generalize hx : F lo = x at hc
        have HX : Hid (F lo = x) := hx
        clear hx
        by_cases hxr : x ≤ r
        · go_wp2
          go_ret
          exact ⟨Or.inr ⟨lo, rfl, hlN, by rw [HX.out]; exact hxr, HHI.out lo (Nat.le_refl _) hlN⟩, rfl⟩
        · go_wp2
          go_ret
          refine ⟨Or.inl ⟨rfl, ?_⟩, rfl⟩
          rintro j hj ⟨h1, h2⟩
          rcases Nat.lt_trichotomy j lo with hl | rfl | hg
          · have := HLO.out j hl; omega
          · rw [HX.out] at h1; omega
          · have h5 := hA.lt hg hj
            have h6 := hA.1 lo hlN
            rw [HX.out] at h6
            omega
      · go_wp2
        go_ret
        refine ⟨Or.inl ⟨rfl, ?_⟩, rfl⟩
        rintro j hj ⟨h1, h2⟩
        have := HLO.out j (by omega)
        omega

set_option maxHeartbeats 1000000 in
/-- zzspCategoriesAscending -/
theorem asc10 (a a' a'' : Option Addr) (n m p c c' c'' b b' off off' N : Nat) (F G : Nat → Int) (w : World) (hn : n ≤ 1048576) (hm : m ≤ 1048576) (hp : p ≤ 1048576) (h : Rd .i32 w a n b off F) (h' : Rd .i32 w a' m b' off' G)
    (hN : sm.mn (sm.mn n m) p = (N : Int)) :
    Calls Try.prog 10 #[.slice a n c, .slice a' m c', .slice a'' p c''] w fun e w' => non3 (Asc N F G) e ∧ w.grownBy w' none := by
  have q1 := sm.mn_le n m
  have q2 := sm.mn_le (sm.mn n m) p
  have hNn : N ≤ n := by omega
  have hNm : N ≤ m := by omega
  have HN : Hid (sm.mn (sm.mn n m) p = (N : Int)) := hN
  clear q1 q2 hN
  go_enter Try.func10, Try.ntmps10
  go_wp2_with fail
  refine (sm.min32 _ _ _ _).mono ?_
  rintro e w' ⟨rfl, rfl⟩
  rw [HN.out]
  go_wp2_with fail
  go_loopw [8] (fun iv wr => ∃ k : Nat, iv = .int .i64 k ∧ k ≤ N ∧ Hid (Asc k F G) ∧ w'.grownBy wr none) (fun iv _ => N - (intOf iv).toNat)
  case atStart => exact ⟨0, rfl, Nat.zero_le _, ⟨fun j hj => absurd hj (Nat.not_lt_zero _), fun j hj => absurd hj (Nat.not_lt_zero _)⟩, World.grownBy.refl _ _⟩
  case round =>
    obtain ⟨k, rfl, hk, HG, hg⟩ := hrel
    by_cases hlt : k < N
    · obtain rfl := h.addr (by omega)
      obtain rfl := h'.addr (by omega)
      have hc := hg.cell (h.cell k (by omega)) (by simp)
      have hc' := hg.cell (h'.cell k (by omega)) (by simp)
      generalize hx : F k = x at hc
      generalize hy : G k = y at hc'
      have HX : Hid (F k = x) := hx
      have HY : Hid (G k = y) := hy
      clear hx hy
      by_cases h1 : y < x
      · go_wp2
        go_region
        all_goals
          go_wp2
          go_ret
          exact ⟨⟨false, rfl, fun h => by cases h⟩, hg.trans (rw.grown_drew _ _)⟩
      · by_cases hk0 : k = 0
        · have HK0 : Hid (k = 0) := hk0
          have hd : decide (0 < k) = false := by simp [hk0]
          clear hk0
          go_wp2
          go_region
          all_goals
            go_wp2_with fail
            go_quiet (fail)
            go_wp2
            go_roundw
            case rel =>
              have hk0 := HK0.out
              refine ⟨k + 1, by go_num, by omega, ⟨fun j hj => ?_, fun j hj => by omega⟩, hg.trans (rw.grown_drewN wr _ _)⟩
              have : j = k := by omega
              subst this
              rw [HX.out, HY.out]; omega
            case measure => simp [intOf]; omega
        · have hz := hg.cell (h'.cell (k - 1) (by omega)) (by simp)
          generalize hz' : G (k - 1) = z at hz
          have HZ : Hid (G (k - 1) = z) := hz'
          clear hz'
          have hk1 : (0 : Int) < (k : Int) := by omega
          have hk2 : decide (0 < k) = true := by simp; omega
          by_cases h2 : x ≤ z
          · go_wp2
            go_region
            all_goals
              go_wp2_with fail
              go_quiet (fail)
              go_wp2
              go_ret
              exact ⟨⟨false, rfl, fun h => by cases h⟩, (hg.trans (rw.grown_drew _ _)).trans (rw.grown_drewN _ _ _)⟩
          · go_wp2
            go_region
            all_goals
              go_wp2_with fail
              go_quiet (fail)
              go_wp2
              go_roundw
              case rel =>
                refine ⟨k + 1, by go_num, by omega, ⟨fun j hj => ?_, fun j hj => ?_⟩, hg.trans (rw.grown_drewN wr _ _)⟩
                · by_cases e : j = k
                  · rw [e, HX.out, HY.out]; omega
                  · exact HG.out.1 j (by omega)
                · by_cases e : j = k - 1
                  · have e2 : k - 1 + 1 = k := by omega
                    rw [e, e2, HX.out, HZ.out]; omega
                  · exact HG.out.2 j (by omega)
              case measure => simp [intOf]; omega
    · have hkN : k = N := by omega
      subst hkN
      go_wp2
      go_ret
      exact ⟨⟨true, rfl, fun _ => HG.out⟩, hg⟩
end Go.Proofs.Qxb6000886a.msa
