import Derived.Test.Qxb6000866aProg
import Derived.WalkKit
import Derived.WalkSpells
namespace Go.Proofs.Qxb6000866a.aq
set_option linter.unusedVariables false

/-- the fixed text ahead of the conditions -/
def pre : ByteArray := ⟨#[115, 101, 108, 101, 99, 116, 32, 97, 99, 116, 105, 118, 105, 116, 105, 101, 115, 46, 105, 100, 44, 32, 97, 99, 116, 105, 118, 105, 116, 121, 95, 116, 121, 112, 101, 95, 105, 100, 44, 32, 116, 46, 110, 97, 109, 101, 44, 32, 117, 46, 110, 97, 109, 101, 44, 32, 99, 111, 97, 108, 101, 115, 99, 101, 40, 114, 46, 110, 97, 109, 101, 44, 32, 39, 39, 41, 44, 32, 97, 99, 116, 105, 118, 105, 116, 121, 95, 100, 97, 116, 101, 44, 32, 100, 117, 114, 97, 116, 105, 111, 110, 95, 109, 105, 110, 117, 116, 101, 115, 44, 10, 9, 9, 115, 117, 109, 109, 97, 114, 121, 44, 32, 108, 111, 99, 97, 116, 105, 111, 110, 44, 32, 115, 116, 97, 116, 117, 115, 44, 32, 99, 111, 97, 108, 101, 115, 99, 101, 40, 114, 101, 106, 101, 99, 116, 105, 111, 110, 95, 114, 101, 97, 115, 111, 110, 44, 32, 39, 39, 41, 44, 32, 97, 99, 116, 105, 110, 103, 95, 117, 115, 101, 114, 95, 109, 97, 121, 95, 101, 100, 105, 116, 40, 115, 116, 97, 116, 117, 115, 41, 10, 9, 102, 114, 111, 109, 32, 97, 99, 116, 105, 118, 105, 116, 105, 101, 115, 32, 106, 111, 105, 110, 32, 97, 99, 116, 105, 118, 105, 116, 121, 95, 116, 121, 112, 101, 115, 32, 116, 32, 111, 110, 32, 116, 46, 105, 100, 32, 61, 32, 97, 99, 116, 105, 118, 105, 116, 121, 95, 116, 121, 112, 101, 95, 105, 100, 10, 9, 9, 106, 111, 105, 110, 32, 117, 115, 101, 114, 115, 32, 117, 32, 111, 110, 32, 117, 46, 105, 100, 32, 61, 32, 97, 99, 116, 105, 118, 105, 116, 105, 101, 115, 46, 117, 115, 101, 114, 95, 105, 100, 10, 9, 9, 108, 101, 102, 116, 32, 106, 111, 105, 110, 32, 117, 115, 101, 114, 115, 32, 114, 32, 111, 110, 32, 114, 46, 105, 100, 32, 61, 32, 97, 99, 116, 105, 118, 105, 116, 105, 101, 115, 46, 114, 101, 103, 105, 115, 116, 101, 114, 101, 100, 95, 98, 121, 95, 117, 115, 101, 114, 95, 105, 100, 10, 9, 119, 104, 101, 114, 101, 32, 97, 99, 116, 105, 118, 105, 116, 105, 101, 115, 46, 100, 101, 108, 101, 116, 101, 100, 95, 97, 116, 32, 105, 115, 32, 110, 117, 108, 108, 32, 97, 110, 100, 32, 40]⟩
def cl : ByteArray := ⟨#[41]⟩
theorem pre_size : pre.size = 416 := by decide +kernel
theorem cl_size : cl.size = 1 := by decide +kernel

set_option maxRecDepth 100000 in
set_option maxHeartbeats 400000 in
theorem query (a : ByteArray) (w : World) (ha : a.size ≤ 1048576) :
    Calls Try.prog 30 #[.string a] w fun e w' => e = .returned (.string (pre ++ a ++ cl)) ∧ w' = w := by
  go_enter Try.func30, Try.ntmps30
  go_wp2
  go_ret
  exact ⟨rfl, rfl⟩

set_option maxHeartbeats 400000 in
theorem zquery (a : ByteArray) (w : World) (ha : a.size ≤ 1048576) :
    Calls Try.prog 19 #[.string a] w fun e w' => e = .returned (.string (pre ++ a ++ cl)) ∧ w' = w := by
  go_enter Try.func19, Try.ntmps19
  go_wp2_with (go_at_call 30; refine (query _ _ ha).mono ?_; rintro e w' ⟨rfl, rfl⟩)
  go_ret
  exact ⟨rfl, rfl⟩

theorem bytes18 (a b : ByteArray) (w : World) (ha : a.size ≤ maxLen) (hb : b.size ≤ maxLen) :
    Calls Try.prog 18 #[.string a, .string b] w fun e w' => e = .returned (.bool (decide (a.size + b.size ≤ 1048576))) ∧ w' = w := by
  unfold maxLen at ha hb
  go_enter Try.func18, Try.ntmps18
  go_wp2
  all_goals
    go_ret
    exact ⟨by congr 2; simp; omega, rfl⟩

theorem bytes20 (a b : ByteArray) (w : World) (ha : a.size ≤ maxLen) (hb : b.size ≤ maxLen) :
    Calls Try.prog 20 #[.string a, .string b] w fun e w' => e = .returned (.bool (decide (a.size + b.size ≤ 1048576))) ∧ w' = w := by
  unfold maxLen at ha hb
  go_enter Try.func20, Try.ntmps20
  go_wp2
  all_goals
    go_ret
    exact ⟨by congr 2; simp; omega, rfl⟩

/-! ### plain facts on the query's text -/
theorem q_size (a : ByteArray) : (pre ++ a ++ cl).size = a.size + 417 := by
  simp only [ByteArray.size_append, pre_size, cl_size]; omega

theorem q_list (a : ByteArray) : (pre ++ a ++ cl).data.toList = pre.data.toList ++ a.data.toList ++ cl.data.toList := by
  simp [ByteArray.data_append]

theorem q_inj (a b : ByteArray) : pre ++ a ++ cl = pre ++ b ++ cl ↔ a = b := by
  constructor
  · intro h
    have h1 := congrArg (fun x : ByteArray => x.data.toList) h
    simp only [q_list] at h1
    have h2 := List.append_cancel_right h1
    have h3 := List.append_cancel_left h2
    exact ByteArray.ext (Array.toList_inj.1 h3)
  · rintro rfl; rfl
end Go.Proofs.Qxb6000866a.aq
