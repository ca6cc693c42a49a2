import Derived.Test.Qxb6000886aCl
namespace Go.Proofs.Qxb6000886a.sm
open Go.RowKit
open Go.Proofs.Qxb6000886a.rw (Row updN)
open Go.Proofs.Qxb6000886a.tb (Sl)
open Go.Proofs.Qxb6000886a.cl (Rd)
open Go.Proofs.Qxb6000886a.mp (W32 W8 Comb Comp)
set_option linter.unusedVariables false
set_option linter.unusedSimpArgs false

def mn (a b : Int) : Int := if a < b then a else b
theorem mn_le (a b : Int) : mn a b ≤ a ∧ mn a b ≤ b ∧ (mn a b = a ∨ mn a b = b) := by unfold mn; split <;> omega

theorem min16 (a b : Int) (w : World) : Calls Try.prog 16 #[.int .i64 a, .int .i64 b] w fun e w' => e = .returned (.int .i64 (mn a b)) ∧ w' = w := by
  by_cases h : a < b
  · go_enter Try.func16, Try.ntmps16
    go_wp2
    go_ret
    exact ⟨by unfold mn; rw [if_pos h]; rfl, rfl⟩
  · go_enter Try.func16, Try.ntmps16
    go_wp2
    go_ret
    exact ⟨by unfold mn; rw [if_neg (by omega)]; rfl, rfl⟩

theorem min32 (a b c : Int) (w : World) : Calls Try.prog 32 #[.int .i64 a, .int .i64 b, .int .i64 c] w fun e w' => e = .returned (.int .i64 (mn (mn a b) c)) ∧ w' = w := by
  go_enter Try.func32, Try.ntmps32
  go_wp2_with (go_at_call 16; refine (min16 _ _ _).mono ?_; rintro e w' ⟨rfl, rfl⟩)
  go_ret
  exact ⟨rfl, rfl⟩

/-- ZZCombining -/
theorem comb31 (tb mb nm : Nat) (f : Int → Int) (r : Int) (w : World) (hm : Comb w mb nm f) (hc1 : w.cell? ⟨tb, 1, none⟩ = some (.map (some mb))) (hr : W32 r) :
    Calls Try.prog 31 #[.pointer (some ⟨tb, 0, none⟩), .int .i32 r] w fun e w' => e = .returned (.int .u8 (f r)) ∧ w' = w := by
  have hl := (hm.look hr).1
  go_enter Try.func31, Try.ntmps31
  go_wp2
  go_ret
  exact ⟨rfl, rfl⟩

/-- zzspRunesEqual -/
def Eq2 (n m : Nat) (F G : Nat → Int) : Prop := n = m ∧ ∀ j, j < n → F j = G j
def Res (p : Prop) (e : Ending) : Prop := ∃ b : Bool, e = .returned (.bool b) ∧ (b = true ↔ p)

set_option maxHeartbeats 1000000 in
theorem eq23 (a a' : Option Addr) (n m c c' b b' off off' : Nat) (F G : Nat → Int) (w : World) (hn : n ≤ 1048576) (hm : m ≤ 1048576) (h : Rd .i32 w a n b off F) (h' : Rd .i32 w a' m b' off' G) :
    Calls Try.prog 23 #[.slice a n c, .slice a' m c'] w fun e w' => Res (Eq2 n m F G) e ∧ w.grownBy w' none := by
  by_cases he : n = m
  · subst he
    have hd : ((n : Int) != (n : Int)) = false := by simp
    go_enter Try.func23, Try.ntmps23
    go_wp2
    go_loopw [5] (fun iv wr => ∃ k : Nat, iv = .int .i64 k ∧ k ≤ n ∧ Hid (∀ j, j < k → F j = G j) ∧ w.grownBy wr none) (fun iv _ => n - (intOf iv).toNat)
    case atStart => exact ⟨0, rfl, Nat.zero_le _, fun j hj => absurd hj (Nat.not_lt_zero _), World.grownBy.refl _ _⟩
    case round =>
      obtain ⟨k, rfl, hk, HG, hg⟩ := hrel
      by_cases hlt : k < n
      · obtain rfl := h.addr (by omega)
        obtain rfl := h'.addr (by omega)
        have hc := hg.cell (h.cell k hlt) (by simp)
        have hc' := hg.cell (h'.cell k hlt) (by simp)
        generalize hx : F k = x at hc
        generalize hy : G k = y at hc'
        have HX : Hid (F k = x) := hx
        have HY : Hid (G k = y) := hy
        clear hx hy
        go_wp2
        go_region
        all_goals
          go_wp2
        · go_ret
          refine ⟨⟨false, rfl, ?_⟩, hg.trans (rw.grown_drew _ _)⟩
          simp only [Bool.false_eq_true, false_iff]
          rintro ⟨_, ha⟩
          have := ha k hlt
          rw [HX.out, HY.out] at this
          subst this
          simp_all
        · go_roundw
          case rel =>
            refine ⟨k + 1, by go_num, by omega, ?_, hg.trans (rw.grown_drew _ _)⟩
            intro j hj
            by_cases e : j = k
            · rw [e, HX.out, HY.out]; simp_all
            · exact HG.out j (by omega)
          case measure => simp [intOf]; omega
      · go_wp2
        go_ret
        exact ⟨⟨true, rfl, by simp only [true_iff]; exact ⟨rfl, fun j hj => HG.out j (by omega)⟩⟩, hg⟩
  · have hd : ((n : Int) != (m : Int)) = true := by simp; omega
    go_enter Try.func23, Try.ntmps23
    go_wp2
    go_ret
    exact ⟨⟨false, rfl, by simp [Eq2, he]⟩, World.grownBy.refl _ _⟩

/-! ### the bounds -/
def Res' (e : Ending) : Prop := ∃ b : Bool, e = .returned (.bool b)
theorem fit27 (a0 a1 a2 a3 a4 a5 : Option Addr) (n0 n1 n2 n3 n4 n5 c0 c1 c2 c3 c4 c5 : Nat) (mx : Int) (w : World)
    (l0 : n0 ≤ 1048576) (l1 : n1 ≤ 1048576) (l2 : n2 ≤ 1048576) (l3 : n3 ≤ 1048576) (l4 : n4 ≤ 1048576) (l5 : n5 ≤ 1048576) :
    Calls Try.prog 27 #[.slice a0 n0 c0, .slice a1 n1 c1, .slice a2 n2 c2, .slice a3 n3 c3, .slice a4 n4 c4, .slice a5 n5 c5, .int .i64 mx] w fun e w' => Res' e ∧ w' = w := by
  go_enter Try.func27, Try.ntmps27
  go_wp2
  all_goals
    go_ret
    exact ⟨⟨_, rfl⟩, rfl⟩
theorem bytes26 (a0 a1 a2 a3 a4 a5 : Option Addr) (n0 n1 n2 n3 n4 n5 c0 c1 c2 c3 c4 c5 : Nat) (w : World)
    (l0 : n0 ≤ maxLen) (l1 : n1 ≤ maxLen) (l2 : n2 ≤ maxLen) (l3 : n3 ≤ maxLen) (l4 : n4 ≤ maxLen) (l5 : n5 ≤ maxLen) :
    Calls Try.prog 26 #[.slice a0 n0 c0, .slice a1 n1 c1, .slice a2 n2 c2, .slice a3 n3 c3, .slice a4 n4 c4, .slice a5 n5 c5] w fun e w' => e = .returned (.bool (decide (n0 + n1 + n2 + n3 + n4 + n5 ≤ 1048576))) ∧ w' = w := by
  unfold maxLen at l0 l1 l2 l3 l4 l5
  go_enter Try.func26, Try.ntmps26
  go_wp2
  all_goals
    go_ret
    exact ⟨by congr 2; simp; omega, rfl⟩
theorem bytes30 (a0 a1 a2 a3 a4 a5 : Option Addr) (n0 n1 n2 n3 n4 n5 c0 c1 c2 c3 c4 c5 : Nat) (w : World)
    (l0 : n0 ≤ maxLen) (l1 : n1 ≤ maxLen) (l2 : n2 ≤ maxLen) (l3 : n3 ≤ maxLen) (l4 : n4 ≤ maxLen) (l5 : n5 ≤ maxLen) :
    Calls Try.prog 30 #[.slice a0 n0 c0, .slice a1 n1 c1, .slice a2 n2 c2, .slice a3 n3 c3, .slice a4 n4 c4, .slice a5 n5 c5] w fun e w' => e = .returned (.bool (decide (n0 + n1 + n2 + n3 + n4 + n5 ≤ 1048576))) ∧ w' = w := by
  unfold maxLen at l0 l1 l2 l3 l4 l5
  go_enter Try.func30, Try.ntmps30
  go_wp2
  all_goals
    go_ret
    exact ⟨by congr 2; simp; omega, rfl⟩
end Go.Proofs.Qxb6000886a.sm
