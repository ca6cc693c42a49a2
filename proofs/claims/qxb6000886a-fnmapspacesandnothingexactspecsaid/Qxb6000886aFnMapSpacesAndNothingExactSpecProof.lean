import Derived.Test.Qxb6000886aRows
import Derived.Test.Qxb6000886aMsl
import Derived.WalkKit
import Derived.ProofKit
import Derived.OpenShut
import Derived.ShutString
import Derived.ChangeOld
import Derived.Below
namespace Go.Proofs.Qxb6000886a.fnMapSpacesAndNothingExactSpec
open Go.ChangeShapes Go.WideShapes Go.ChangeAt Go.RowKit
open Go.ChangeMaps (open_string shut_string)
set_option linter.unusedVariables false

theorem own : ownKnob Try.prog.godebug = none := by kernel_rfl
theorem laidOut : laidOutB Try.prog = true := by kernel_rfl

set_option maxRecDepth 100000 in
theorem lifted (os : Os) (started : os.Started) (H : Type) (enc : TypeId × Value → H) :
    ReturnsInHanded {} Try.checked os 3 .any (Rows.fnMapSpacesAndNothingExactSpecSpec.pre6 enc Try.prog Try.f3 Rows.fnMapSpacesAndNothingExactSpecRow.domain false) (Rows.fnMapSpacesAndNothingExactSpecSpec.post enc Try.prog Try.f3 false true false false) := by
  refine returnsInHanded_of_change (C := Try.checked) own started (by kernel_rfl) Try.func3
    (ChangeSpec.witness6 (enc := enc) (C := Try.checked) false ⟨#[], #[.slice none 0 0, .slice none 0 0, .slice none 0 0, .slice none 0 0, .slice none 0 0, .slice none 0 0, .slice none 0 0, .int .i32 0], []⟩ 8 (by kernel_rfl) (by kernel_rfl) (by kernel_rfl) (by kernel_rfl)) ?_
  intro W base args ds gs before hval0 hW hcnd _
  have hval : ∀ (j : Nat) t v, Try.f3.params[j]? = some t → args[j]? = some v → Value.okWide Try.prog W .any base t v := hval0
  have hW' := hW
  obtain ⟨p, q, hA0, hV, rfl, hfz, hnd⟩ := hW
  have hA : DataW.TrodAll enc Try.prog W 0 (fun _ => true) true Try.f3.params.toList args.toList ds p := hA0
  rw [Try.params3] at hA hval
  obtain ⟨v0, vs0, d0, ds0, p0, q0, hargs, rfl, rfl, h0, r0⟩ := trodAll_cons hA
  obtain ⟨v1, vs1, d1, ds1, p1, q1, rfl, rfl, rfl, h1, r1⟩ := trodAll_cons r0
  obtain ⟨v2, vs2, d2, ds2, p2, q2, rfl, rfl, rfl, h2, r2⟩ := trodAll_cons r1
  obtain ⟨v3, vs3, d3, ds3, p3, q3, rfl, rfl, rfl, h3, r3⟩ := trodAll_cons r2
  obtain ⟨v4, vs4, d4, ds4, p4, q4, rfl, rfl, rfl, h4, r4⟩ := trodAll_cons r3
  obtain ⟨v5, vs5, d5, ds5, p5, q5, rfl, rfl, rfl, h5, r5⟩ := trodAll_cons r4
  obtain ⟨v6, vs6, d6, ds6, p6, q6, rfl, rfl, rfl, h6, r6⟩ := trodAll_cons r5
  obtain ⟨v7, vs7, d7, ds7, p7, q7, rfl, rfl, rfl, h7, r7⟩ := trodAll_cons r6
  obtain ⟨rfl, rfl, rfl⟩ := trodAll_nil r7
  obtain rfl : args = #[v0, v1, v2, v3, v4, v5, v6, v7] := by cases args; simp_all
  obtain ⟨rfl, rfl⟩ := trodVars_none hV
  obtain ⟨a0, len0, cap0, rfl⟩ := okWide_slice Try.underlying22 (hval 0 22 v0 rfl rfl)
  have k0 := h0
  have lt0 : ∀ x ∈ p0, x.block < W.heap.size := by obtain ⟨m, hm⟩ := k0; exact DataW.trod_lt m _ _ _ hm
  obtain ⟨b0, o0, F0, w0, m0⟩ : ∃ b off F, cl.Rd .i32 W a0 len0 b off F ∧ len0 ≤ maxLen := by obtain ⟨fuel, hf⟩ := h0; exact msl.rd_ints (by simpa [Value.cells] using hf)
  obtain ⟨a1, len1, cap1, rfl⟩ := okWide_slice Try.underlying22 (hval 1 22 v1 rfl rfl)
  have k1 := h1
  have lt1 : ∀ x ∈ p1, x.block < W.heap.size := by obtain ⟨m, hm⟩ := k1; exact DataW.trod_lt m _ _ _ hm
  obtain ⟨b1, o1, F1, w1, m1⟩ : ∃ b off F, cl.Rd .i32 W a1 len1 b off F ∧ len1 ≤ maxLen := by obtain ⟨fuel, hf⟩ := h1; exact msl.rd_ints (by simpa [Value.cells] using hf)
  obtain ⟨a2, len2, cap2, rfl⟩ := okWide_slice Try.underlying23 (hval 2 23 v2 rfl rfl)
  have k2 := h2
  have lt2 : ∀ x ∈ p2, x.block < W.heap.size := by obtain ⟨m, hm⟩ := k2; exact DataW.trod_lt m _ _ _ hm
  obtain ⟨b2, o2, S2, w2, m2⟩ : ∃ (b off : Nat) (S : Nat → ByteArray), msb.RdV W a2 len2 b off (fun j => .string (S j)) ∧ len2 ≤ maxLen := by obtain ⟨fuel, hf⟩ := h2; exact msl.rd_strs (by simpa [Value.cells] using hf)
  obtain ⟨a3, len3, cap3, rfl⟩ := okWide_slice Try.underlying22 (hval 3 22 v3 rfl rfl)
  have k3 := h3
  have lt3 : ∀ x ∈ p3, x.block < W.heap.size := by obtain ⟨m, hm⟩ := k3; exact DataW.trod_lt m _ _ _ hm
  obtain ⟨b3, o3, F3, w3, m3⟩ : ∃ b off F, cl.Rd .i32 W a3 len3 b off F ∧ len3 ≤ maxLen := by obtain ⟨fuel, hf⟩ := h3; exact msl.rd_ints (by simpa [Value.cells] using hf)
  obtain ⟨a4, len4, cap4, rfl⟩ := okWide_slice Try.underlying24 (hval 4 24 v4 rfl rfl)
  have k4 := h4
  have lt4 : ∀ x ∈ p4, x.block < W.heap.size := by obtain ⟨m, hm⟩ := k4; exact DataW.trod_lt m _ _ _ hm
  obtain ⟨b4, o4, A4, L4, C4, B4, O4, X4, w4, x4, m4⟩ : ∃ (b off : Nat) (A : Nat → Option Addr) (L C B O : Nat → Nat) (X : Nat → Nat → Int), msb.RdV W a4 len4 b off (fun j => .slice (A j) (L j) (C j)) ∧ (∀ j, j < len4 → cl.Rd .i32 W (A j) (L j) (B j) (O j) (X j)) ∧ len4 ≤ maxLen := by obtain ⟨fuel, hf⟩ := h4; exact msl.rd_rows (by simpa [Value.cells] using hf)
  obtain ⟨a5, len5, cap5, rfl⟩ := okWide_slice Try.underlying22 (hval 5 22 v5 rfl rfl)
  have k5 := h5
  have lt5 : ∀ x ∈ p5, x.block < W.heap.size := by obtain ⟨m, hm⟩ := k5; exact DataW.trod_lt m _ _ _ hm
  obtain ⟨b5, o5, F5, w5, m5⟩ : ∃ b off F, cl.Rd .i32 W a5 len5 b off F ∧ len5 ≤ maxLen := by obtain ⟨fuel, hf⟩ := h5; exact msl.rd_ints (by simpa [Value.cells] using hf)
  obtain ⟨a6, len6, cap6, rfl⟩ := okWide_slice Try.underlying22 (hval 6 22 v6 rfl rfl)
  have k6 := h6
  have lt6 : ∀ x ∈ p6, x.block < W.heap.size := by obtain ⟨m, hm⟩ := k6; exact DataW.trod_lt m _ _ _ hm
  obtain ⟨b6, o6, F6, w6, m6⟩ : ∃ b off F, cl.Rd .i32 W a6 len6 b off F ∧ len6 ≤ maxLen := by obtain ⟨fuel, hf⟩ := h6; exact msl.rd_ints (by simpa [Value.cells] using hf)
  obtain ⟨a7, rfl, rfl, rfl, w7⟩ := open_int Try.underlying21 (hval 7 21 v7 rfl rfl) h7
  clear hA0 hval0
  refine (msk.law3 a0 a1 a2 a3 a4 a5 a6 len0 len1 len2 len3 len4 len5 len6 cap0 cap1 cap2 cap3 cap4 cap5 cap6 b0 b1 b2 b3 b4 b5 b6 o0 o1 o2 o3 o4 o5 o6 S2 A4 L4 C4 B4 O4 X4 F0 F1 F3 F5 F6 a7 W w0 w1 w2 w3 w4 x4 w5 w6 w7 m0 m1 m2 m3 m4 m5 m6).mono fun e W' ⟨he, bel⟩ => ?_
  subst he
  exact ⟨_, rfl, _, _, _, [], _, [], hW', trodAll_mk1 (shut_bool Try.underlying4 _), (trodAll_cons_mk (Below.trod laidOut (by kernel_rfl) (of_decide_eq_true (by kernel_rfl)) k0 bel lt0) (trodAll_cons_mk (Below.trod laidOut (by kernel_rfl) (of_decide_eq_true (by kernel_rfl)) k1 bel lt1) (trodAll_cons_mk (Below.trod laidOut (by kernel_rfl) (of_decide_eq_true (by kernel_rfl)) k2 bel lt2) (trodAll_cons_mk (Below.trod laidOut (by kernel_rfl) (of_decide_eq_true (by kernel_rfl)) k3 bel lt3) (trodAll_cons_mk (Below.trod laidOut (by kernel_rfl) (of_decide_eq_true (by kernel_rfl)) k4 bel lt4) (trodAll_cons_mk (Below.trod laidOut (by kernel_rfl) (of_decide_eq_true (by kernel_rfl)) k5 bel lt5) (trodAll_cons_mk (Below.trod laidOut (by kernel_rfl) (of_decide_eq_true (by kernel_rfl)) k6 bel lt6) (trodAll_cons_mk (shut_int Try.underlying21 w7) trodAll_mk0)))))))), rfl, bel.frame _, fun h => by cases h⟩

theorem over : Rows.fnMapSpacesAndNothingExactSpecRow.holds Try.pinned (OpenSpec.ofChange Rows.fnMapSpacesAndNothingExactSpecSpec) :=
  OpenClaim.holds_of_wide 3 Try.f3 rfl rfl rfl rfl rfl rfl rfl ⟨rfl, rfl, rfl, rfl, rfl⟩ rfl rfl rfl rfl rfl (by kernel_rfl) Try.func3 (by kernel_rfl)
    (of_decide_eq_true (by kernel_rfl)) (by unfold Func.isWrapper; first | (rw [if_pos (by decide +kernel)]; kernel_rfl) | (rw [if_neg (by decide +kernel)]; exact ⟨rfl, rfl⟩))
    (fun os started H enc _ => lifted os started H enc)

/-- THE STATEMENT -/
theorem proved : Rows.FnMapSpacesAndNothingExactSpecSaid := over
end Go.Proofs.Qxb6000886a.fnMapSpacesAndNothingExactSpec
