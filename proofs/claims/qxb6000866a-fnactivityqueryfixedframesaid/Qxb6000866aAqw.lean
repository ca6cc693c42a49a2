import Derived.Test.Qxb6000866aAq
import Derived.RowKit3
namespace Go.Proofs.Qxb6000866a.aqw
open Go.RowKit
set_option linter.unusedVariables false

theorem inj_eq (a b : ByteArray) : (((aq.pre ++ a ++ aq.cl).toList == (aq.pre ++ b ++ aq.cl).toList) == (a.toList == b.toList)) = true := by
  simp only [ByteArray.toList_eq, aq.q_list]
  rw [beq_iff_eq, Bool.eq_iff_iff, beq_iff_eq, beq_iff_eq]
  simp

set_option maxHeartbeats 400000 in
theorem inj (a0 : ByteArray) (a1 : ByteArray) (w0 : a0.size ≤ maxLen) (w1 : a1.size ≤ maxLen) (w : World) :
    Calls Try.prog 7 #[.string a0, .string a1] w fun e w' => e = .returned (.bool true) ∧ Grown w w' := by
  by_cases hs : a0.size ≤ 524288 ∧ a1.size ≤ 524288
  · obtain ⟨h0, h1⟩ := hs
    have hd : (decide (a0.size + a1.size ≤ 1048576)) = true := by simp; omega
    go_enter Try.func7, Try.ntmps7
    go_wp2_with (first | (go_at_call 20; refine (aq.bytes20 _ _ _ w0 w1).mono ?_; rintro e w' ⟨rfl, rfl⟩) | (go_at_call 19; refine (aq.zquery _ _ (by omega)).mono ?_; rintro e w' ⟨rfl, rfl⟩))
    go_ret
    exact ⟨congrArg (fun b => Ending.returned (.bool b)) (inj_eq a0 a1), Grown.refl _⟩
  · have v0 := w0
    have v1 := w1
    unfold maxLen at v0 v1
    go_enter Try.func7, Try.ntmps7
    go_wp2_with (first | (go_at_call 20; refine (aq.bytes20 _ _ _ w0 w1).mono ?_; rintro e w' ⟨rfl, rfl⟩))
    all_goals
      go_ret
      exact ⟨rfl, Grown.refl _⟩


theorem cl_zero : aq.cl[0]'(by decide) = 41 := by decide +kernel

theorem last_eq (a q : ByteArray) (h : q = aq.pre ++ a ++ aq.cl) (hk : q.size - 1 < q.size) : ((q[q.size - 1]'hk).toNat : Int) = 41 := by
  subst h
  have e : (aq.pre ++ a ++ aq.cl).size - 1 = (aq.pre ++ a).size := by rw [aq.q_size, ByteArray.size_append, aq.pre_size]; omega
  have : (aq.pre ++ a ++ aq.cl)[(aq.pre ++ a ++ aq.cl).size - 1] = 41 := by
    simp only [e]
    rw [ByteArray.getElem_append_right (Nat.le_refl _)]
    simp only [Nat.sub_self]
    exact cl_zero
  rw [this]; rfl

theorem mid_eq (a q : ByteArray) (h : q = aq.pre ++ a ++ aq.cl) (k : Nat) (hk : k = 416) : (q.extract k (k + a.size)).toList = a.toList := by
  subst h; subst hk
  have l : aq.pre.data.toList.length = 416 := by have := aq.pre_size; simpa using this
  simp only [ByteArray.toList_eq, ByteArray.data_extract, Array.toList_extract, aq.q_list, List.extract]
  rw [List.append_assoc, List.drop_left' l, List.take_left']
  simp

theorem head_eq (a q : ByteArray) (h : q = aq.pre ++ a ++ aq.cl) (k : Nat) (hk : k = 416) : (q.extract 0 k).toList = aq.pre.data.toList := by
  subst h; subst hk
  have l : aq.pre.data.toList.length = 416 := by have := aq.pre_size; simpa using this
  simp only [ByteArray.toList_eq, ByteArray.data_extract, Array.toList_extract, aq.q_list, List.extract]
  rw [List.append_assoc, List.drop_zero, List.take_left' (by simpa using l)]

theorem zq (a : ByteArray) (w : World) (ha : a.size ≤ 1048576) :
    Calls Try.prog 19 #[.string a] w fun e w' => ∃ q : ByteArray, e = .returned (.string q) ∧ Hid (q = aq.pre ++ a ++ aq.cl) ∧ q.size ≤ a.size + 417 ∧ a.size + 417 ≤ q.size ∧ w' = w := by
  refine (aq.zquery a w ha).mono ?_
  rintro e w' ⟨rfl, rfl⟩
  exact ⟨_, rfl, (rfl : _ = _), by rw [aq.q_size]; omega, by rw [aq.q_size]; omega, rfl⟩

set_option maxHeartbeats 400000 in
set_option maxRecDepth 20000 in
theorem frame (a0 : ByteArray) (a1 : ByteArray) (w0 : a0.size ≤ maxLen) (w1 : a1.size ≤ maxLen) (w : World) :
    Calls Try.prog 6 #[.string a0, .string a1] w fun e w' => e = .returned (.bool true) ∧ Grown w w' := by
  by_cases hs : a0.size ≤ 524288 ∧ a1.size ≤ 524288
  · obtain ⟨h0, h1⟩ := hs
    have hd : (decide (a0.size + a1.size ≤ 1048576)) = true := by simp; omega
    go_enter Try.func6, Try.ntmps6
    go_wp2_with (first | (go_at_call 18; refine (aq.bytes18 _ _ _ w0 w1).mono ?_; rintro e w' ⟨rfl, rfl⟩))
    refine (zq _ _ (by omega)).mono ?_
    rintro e w' ⟨q0, rfl, H0, z0, y0, rfl⟩
    go_wp2_with fail
    refine (zq _ _ (by omega)).mono ?_
    rintro e w' ⟨q1, rfl, H1, z1, y1, rfl⟩
    have e0 : ((q0[q0.size - 1]'(by omega)).toNat : Int) = 41 := last_eq a0 q0 H0.out _
    have e1 : ((q1[q1.size - 1]'(by omega)).toNat : Int) = 41 := last_eq a1 q1 H1.out _
    have m0 : (q0.extract (q0.size - a0.size - 1) (q0.size - a0.size - 1 + a0.size)).toList = a0.toList := mid_eq a0 q0 H0.out _ (by omega)
    have m1 : (q1.extract (q0.size - a0.size - 1) (q0.size - a0.size - 1 + a1.size)).toList = a1.toList := mid_eq a1 q1 H1.out _ (by omega)
    go_wp2
    go_region
    all_goals
      go_wp2
      go_ret
      exact ⟨congrArg (fun b => Ending.returned (.bool b)) (by rw [head_eq a0 q0 H0.out _ (by omega), head_eq a1 q1 H1.out _ (by omega)]; simp), (Grown.refl _).drew⟩
  · have v0 := w0
    have v1 := w1
    unfold maxLen at v0 v1
    go_enter Try.func6, Try.ntmps6
    go_wp2_with (first | (go_at_call 18; refine (aq.bytes18 _ _ _ w0 w1).mono ?_; rintro e w' ⟨rfl, rfl⟩))
    all_goals
      go_ret
      exact ⟨rfl, Grown.refl _⟩
end Go.Proofs.Qxb6000866a.aqw
