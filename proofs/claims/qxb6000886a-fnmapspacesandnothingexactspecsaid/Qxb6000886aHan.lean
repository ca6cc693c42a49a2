import Derived.Test.Qxb6000886aProg
import Derived.WalkKit
import Derived.WalkSpells
import Derived.Deep.Light
import Derived.Outline
namespace Go.Proofs.Qxb6000886a.han
open Go.RowKit
set_option linter.unusedVariables false
set_option linter.unusedSimpArgs false

def hgB (a : Int) : Bool := decide (44032 ≤ a ∧ a < 55204)
/-- composeHangul, plainly. -/
def hg (a b : Int) : Option Int :=
  if 4352 ≤ a ∧ a < 4371 ∧ 4449 ≤ b ∧ b < 4470 then some (44032 + ((a - 4352) * 21 + b - 4449) * 28)
  else if 44032 ≤ a ∧ a < 55204 ∧ (a - 44032) % 28 = 0 ∧ 4519 < b ∧ b < 4547 then some (a + b - 4519)
  else none

theorem hgB_iff (a : Int) : hgB a = true ↔ (44032 ≤ a ∧ a < 55204) := by simp [hgB]

theorem is41 (a : Int) (w : World) :
    Calls Try.prog 41 #[.int .i32 a] w fun e w' => e = .returned (.bool (hgB a)) ∧ w' = w := by
  go_enter Try.func41, Try.ntmps41
  go_wp2
  all_goals
    go_ret
    exact ⟨congrArg (fun b => Ending.returned (.bool b)) (by rw [Bool.eq_iff_iff]; simp [hgB]; omega), rfl⟩

theorem hg_no1 {a b : Int} (h1 : ¬ (4352 ≤ a ∧ a < 4371 ∧ 4449 ≤ b ∧ b < 4470)) (h2 : ¬ (44032 ≤ a ∧ a < 55204 ∧ (a - 44032) % 28 = 0 ∧ 4519 < b ∧ b < 4547)) : hg a b = none := by
  unfold hg; rw [if_neg h1, if_neg h2]

set_option maxHeartbeats 1000000 in
theorem c40 (a b : Int) (w : World) :
    Calls Try.prog 40 #[.int .i32 a, .int .i32 b] w fun e w' => e = .returned (.tuple #[.int .i32 ((hg a b).getD 0), .bool (hg a b).isSome]) ∧ w' = w := by
  by_cases h1 : 4352 ≤ a ∧ a < 4371 ∧ 4449 ≤ b ∧ b < 4470
  · have e : hg a b = some (44032 + ((a - 4352) * 21 + b - 4449) * 28) := by unfold hg; rw [if_pos h1]
    rw [e]
    obtain ⟨x1, x2, x3, x4⟩ := h1
    clear e
    go_enter Try.func40, Try.ntmps40
    go_wp2
    go_ret2
    exact ⟨rfl, rfl⟩
  · by_cases hA : 4352 ≤ a ∧ a < 4371
    · have e : hg a b = none := hg_no1 h1 (by omega)
      rw [e]
      have hz : hgB a = false := by rw [Bool.eq_false_iff, ne_eq, hgB_iff]; omega
      obtain ⟨x1, x2⟩ := hA
      clear e
      by_cases x3 : 4449 ≤ b
      all_goals
        go_enter Try.func40, Try.ntmps40
        go_wp2_with (go_at_call 41; refine (is41 _ _).mono ?_; rintro e w' ⟨rfl, rfl⟩)
        go_ret2
        exact ⟨rfl, rfl⟩
    · by_cases hB : 44032 ≤ a ∧ a < 55204
      · have hz : hgB a = true := by rw [hgB_iff]; exact hB
        have x2 : ¬ a < 4371 := by omega
        obtain ⟨y1, y2⟩ := hB
        by_cases h2 : (a - 44032) % 28 = 0 ∧ 4519 < b ∧ b < 4547
        · have e : hg a b = some (a + b - 4519) := by unfold hg; rw [if_neg h1, if_pos ⟨y1, y2, h2⟩]
          rw [e]
          obtain ⟨z1, z2, z3⟩ := h2
          have z1' : ((a - 44032) % 28 == 0) = true := by simp [z1]
          clear e z1
          go_enter Try.func40, Try.ntmps40
          go_wp2_with (go_at_call 41; refine (is41 _ _).mono ?_; rintro e w' ⟨rfl, rfl⟩)
          go_ret2
          exact ⟨rfl, rfl⟩
        · have e : hg a b = none := hg_no1 h1 (by omega)
          rw [e]
          clear e
          by_cases z1 : (a - 44032) % 28 = 0
          · have z1' : ((a - 44032) % 28 == 0) = true := by simp [z1]
            by_cases z2 : 4519 < b
            · have z3 : ¬ b < 4547 := fun h => h2 ⟨z1, z2, h⟩
              clear h1 h2 z1
              go_enter Try.func40, Try.ntmps40
              go_wp2_with (go_at_call 41; refine (is41 _ _).mono ?_; rintro e w' ⟨rfl, rfl⟩)
              go_ret2
              exact ⟨rfl, rfl⟩
            · clear h1 h2 z1
              go_enter Try.func40, Try.ntmps40
              go_wp2_with (go_at_call 41; refine (is41 _ _).mono ?_; rintro e w' ⟨rfl, rfl⟩)
              go_ret2
              exact ⟨rfl, rfl⟩
          · have z1' : ((a - 44032) % 28 == 0) = false := by simp [z1]
            clear h1 h2 z1
            go_enter Try.func40, Try.ntmps40
            go_wp2_with (go_at_call 41; refine (is41 _ _).mono ?_; rintro e w' ⟨rfl, rfl⟩)
            go_ret2
            exact ⟨rfl, rfl⟩
      · have e : hg a b = none := hg_no1 h1 (by omega)
        rw [e]
        have hz : hgB a = false := by rw [Bool.eq_false_iff, ne_eq, hgB_iff]; omega
        clear e h1
        by_cases x1 : 4352 ≤ a
        · have x2 : ¬ a < 4371 := by omega
          go_enter Try.func40, Try.ntmps40
          go_wp2_with (go_at_call 41; refine (is41 _ _).mono ?_; rintro e w' ⟨rfl, rfl⟩)
          go_ret2
          exact ⟨rfl, rfl⟩
        · go_enter Try.func40, Try.ntmps40
          go_wp2_with (go_at_call 41; refine (is41 _ _).mono ?_; rintro e w' ⟨rfl, rfl⟩)
          go_ret2
          exact ⟨rfl, rfl⟩
end Go.Proofs.Qxb6000886a.han
