import Derived.Test.Qxb6000886aShr
namespace Go.Proofs.Qxb6000886a.non
open Go.RowKit
open Go.Proofs.Qxb6000886a.mp (W32 W8 Comb Comp cmp)
open Go.Proofs.Qxb6000886a.rw (Row updN join stepC run run_snoc run_inv)
open Go.Proofs.Qxb6000886a.tb (Sl)
open Go.Proofs.Qxb6000886a.cl (Rd)
set_option linter.unusedVariables false
set_option linter.unusedSimpArgs false

/-- x stands first in no pair -/
def Alone (x : Int) (n3 n4 n5 : Nat) (F : Nat → Int) : Prop := ¬ (4352 ≤ x ∧ x < 4371) ∧ ¬ (44032 ≤ x ∧ x < 55204) ∧ ∀ j, j < n3 → j < n4 → j < n5 → F j ≠ x

theorem cmp_none {x : Int} {n3 n4 n5 : Nat} {F : Nat → Int} {g : Int → Int → Option Int} (h : Alone x n3 n4 n5 F) (hg : ∀ x y, g x y ≠ none → ∃ j, j < n3 ∧ j < n4 ∧ j < n5 ∧ x = F j) (r : Int) : cmp g x r = none := by
  obtain ⟨h1, h2, h3⟩ := h
  have hh : han.hg x r = none := han.hg_no1 (by omega) (by omega)
  unfold mp.cmp
  rw [hh]
  by_cases e : g x r = none
  · exact e
  · obtain ⟨j, a, b, c, d⟩ := hg x r e
    exact absurd d.symm (h3 j a b c)

def Res3 (p : Prop) (e : Ending) : Prop := ∃ b : Bool, e = .returned (.bool b) ∧ (b = true → p)

set_option maxHeartbeats 4000000 in
theorem nothing28 (a0 a3 a4 a5 : Option Addr) (n0 n3 n4 n5 c0 c3 c4 c5 b0 b3 o0 o3 : Nat) (F0 F3 : Nat → Int) (w : World) (l0 : n0 ≤ 1048576) (l3 : n3 ≤ 1048576) (l4 : n4 ≤ 1048576) (l5 : n5 ≤ 1048576)
    (h0 : Rd .i32 w a0 n0 b0 o0 F0) (h3 : Rd .i32 w a3 n3 b3 o3 F3) :
    Calls Try.prog 28 #[.slice a0 n0 c0, .slice a3 n3 c3, .slice a4 n4 c4, .slice a5 n5 c5] w fun e w' => Res3 (∀ j, j < n0 → Alone (F0 j) n3 n4 n5 F3) e ∧ w' = w := by
  obtain ⟨M, hM, hM3, hM4, hM5, hMall⟩ : ∃ M : Nat, sm.mn (sm.mn n3 n4) n5 = (M : Int) ∧ M ≤ n3 ∧ M ≤ n4 ∧ M ≤ n5 ∧ ∀ j, j < n3 → j < n4 → j < n5 → j < M := by
    have q1 := sm.mn_le n3 n4
    have q2 := sm.mn_le (sm.mn n3 n4) n5
    exact ⟨(sm.mn (sm.mn n3 n4) n5).toNat, by omega, by omega, by omega, by omega, fun j _ _ _ => by omega⟩
  have HMALL : Hid (∀ j, j < n3 → j < n4 → j < n5 → j < M) := hMall
  clear hMall
  have HM : Hid (sm.mn (sm.mn n3 n4) n5 = (M : Int)) := hM
  clear hM
  go_enter Try.func28, Try.ntmps28
  go_wp2_with fail
  refine (sm.min32 _ _ _ _).mono ?_
  rintro e w' ⟨rfl, rfl⟩
  rw [HM.out]
  go_wp2_with fail
  go_loop [10] (fun iv => ∃ k : Nat, iv = .int .i64 k ∧ k ≤ n0 ∧ Hid (∀ j, j < k → Alone (F0 j) n3 n4 n5 F3)) (fun iv => n0 - (intOf iv).toNat)
  case atStart => exact ⟨0, rfl, Nat.zero_le _, fun j hj => absurd hj (Nat.not_lt_zero _)⟩
  case round =>
    obtain ⟨k, rfl, hk, HK⟩ := hrel
    by_cases hlt : k < n0
    · obtain rfl := h0.addr (by omega)
      have hcell := h0.cell k hlt
      generalize hx : F0 k = x at hcell
      have HX : Hid (F0 k = x) := hx
      clear hx
      by_cases hA : 4352 ≤ x ∧ x < 4371
      · obtain ⟨x1, x2⟩ := hA
        go_wp2
        go_ret
        exact ⟨⟨false, rfl, fun h => by cases h⟩, rfl⟩
      · by_cases hB : 44032 ≤ x ∧ x < 55204
        · obtain ⟨x1, x2⟩ := hB
          have x3 : ¬ x < 4371 := by omega
          go_wp2
          go_ret
          exact ⟨⟨false, rfl, fun h => by cases h⟩, rfl⟩
        · have HA : Hid (¬ (4352 ≤ x ∧ x < 4371)) := hA
          have HB : Hid (¬ (44032 ≤ x ∧ x < 55204)) := hB
          go_wp2
          all_goals
            go_loop [12] (fun iv => ∃ i : Nat, iv = .int .i64 i ∧ i ≤ M ∧ Hid (∀ j, j < i → F3 j ≠ x)) (fun iv => M - (intOf iv).toNat)
            case atStart => exact ⟨0, rfl, Nat.zero_le _, fun j hj => absurd hj (Nat.not_lt_zero _)⟩
            case round =>
              obtain ⟨i, rfl, hi, HI⟩ := hrel
              by_cases hiM : i < M
              · have hx3 := h3.addr (by omega)
                have hc3 := h3.cell i (by omega)
                generalize hy : F3 i = y at hc3
                have HY : Hid (F3 i = y) := hy
                clear hy
                by_cases hxy : y = x
                · have hxy' : (y == x) = true := by simp [hxy]
                  clear hxy
                  try subst hx3
                  go_wp2
                  go_ret
                  exact ⟨⟨false, rfl, fun h => by cases h⟩, rfl⟩
                · have hxy' : (y == x) = false := by simp [hxy]
                  have HXY : Hid (¬ y = x) := hxy
                  clear hxy
                  try subst hx3
                  go_wp2
                  go_round
                  case rel =>
                    refine ⟨i + 1, by go_num, by omega, ?_⟩
                    intro j hj
                    by_cases e : j = i
                    · rw [e, HY.out]; exact HXY.out
                    · exact HI.out j (by omega)
                  case measure => simp [intOf]; omega
              · have hal : Alone x n3 n4 n5 F3 := ⟨HA.out, HB.out, fun j j3 j4 j5 => HI.out j (by have := HMALL.out j j3 j4 j5; omega)⟩
                have HAL : Hid (Alone x n3 n4 n5 F3) := hal
                clear hal
                go_wp2
                go_round
                case rel =>
                  refine ⟨k + 1, by go_num, by omega, ?_⟩
                  intro j hj
                  by_cases e : j = k
                  · rw [e, HX.out]; exact HAL.out
                  · exact HK.out j (by omega)
                case measure => simp [intOf]; omega
    · go_wp2
      go_ret
      exact ⟨⟨true, rfl, fun _ j hj => HK.out j (by omega)⟩, rfl⟩

set_option maxHeartbeats 4000000 in
theorem law6 (a0 a1 a2 a3 a4 a5 : Option Addr) (n0 n1 n2 n3 n4 n5 c0 c1 c2 c3 c4 c5 b0 b1 b2 b3 b4 b5 o0 o1 o2 o3 o4 o5 : Nat) (l : List Int) (F1 F2 F3 F4 F5 : Nat → Int) (w : World) (hL : l.length = n0)
    (h0 : Rd .i32 w a0 n0 b0 o0 (fun j => l.getD j 0)) (h1 : Rd .i32 w a1 n1 b1 o1 F1) (h2 : Rd .u8 w a2 n2 b2 o2 F2) (h3 : Rd .i32 w a3 n3 b3 o3 F3) (h4 : Rd .i32 w a4 n4 b4 o4 F4) (h5 : Rd .i32 w a5 n5 b5 o5 F5)
    (m0 : n0 ≤ maxLen) (m1 : n1 ≤ maxLen) (m2 : n2 ≤ maxLen) (m3 : n3 ≤ maxLen) (m4 : n4 ≤ maxLen) (m5 : n5 ≤ maxLen) :
    Calls Try.prog 6 #[.slice a0 n0 c0, .slice a1 n1 c1, .slice a2 n2 c2, .slice a3 n3 c3, .slice a4 n4 c4, .slice a5 n5 c5] w fun e w' => e = .returned (.bool true) ∧ Below w.heap.size w w' := by
  by_cases hsum : n0 + n1 + n2 + n3 + n4 + n5 ≤ 1048576
  · have hd : decide (n0 + n1 + n2 + n3 + n4 + n5 ≤ 1048576) = true := by simp; omega
    have HL : Hid (l.length = n0) := hL
    clear hL
    go_enter Try.func6, Try.ntmps6
    go_wp2_with fail
    refine (sm.bytes26 _ _ _ _ _ _ _ _ _ _ _ _ _ _ _ _ _ _ w m0 m1 m2 m3 m4 m5).mono ?_
    rintro e w' ⟨rfl, rfl⟩
    clear m0 m1 m2 m3 m4 m5
    go_wp2_with fail
    refine (sm.fit27 _ _ _ _ _ _ _ _ _ _ _ _ _ _ _ _ _ _ _ _ (by omega) (by omega) (by omega) (by omega) (by omega) (by omega)).mono ?_
    rintro e w' ⟨⟨b, rfl⟩, rfl⟩
    cases b
    · go_wp2
      go_ret
      exact ⟨rfl, Below.refl _ _⟩
    · clear hd
      go_wp2_with fail
      refine (non.nothing28 a0 a3 a4 a5 n0 n3 n4 n5 c0 c3 c4 c5 b0 b3 o0 o3 _ _ _ (by omega) (by omega) (by omega) (by omega) h0 h3).mono ?_
      rintro e w' ⟨⟨b, rfl, hb⟩, rfl⟩
      have HB : Hid (b = true → ∀ j, j < n0 → Alone (l.getD j 0) n3 n4 n5 F3) := hb
      clear hb
      cases b
      · go_wp2
        go_ret
        exact ⟨rfl, Below.refl _ _⟩
      have HN : Hid (∀ j, j < n0 → Alone (l.getD j 0) n3 n4 n5 F3) := HB.out rfl
      clear HB
      go_wp2_with fail
      refine (cl.clone11 a0 n0 c0 b0 o0 _ _ (by omega) (shr.nil_of h0) h0).mono ?_
      rintro e w1 ⟨x0, d0, y0, rfl, s0, q0, e0, g1⟩
      go_wp2_with fail
      refine (cl.clone11 a1 n1 c1 b1 o1 _ _ (by omega) (shr.nil_of h1) (h1.kept g1)).mono ?_
      rintro e w2 ⟨x1, d1, y1, rfl, s1, q1, e1, g2⟩
      have t2 := g1.trans g2
      go_wp2_with fail
      refine (cl.clone29 a2 n2 c2 b2 o2 _ _ (by omega) (shr.nil_of h2) (h2.kept t2)).mono ?_
      rintro e w3 ⟨x2, d2, y2, rfl, s2, q2, e2, g3⟩
      have t3 := t2.trans g3
      go_wp2_with fail
      refine (cl.clone11 a3 n3 c3 b3 o3 _ _ (by omega) (shr.nil_of h3) (h3.kept t3)).mono ?_
      rintro e w4 ⟨x3, d3, y3, rfl, s3, q3, e3, g4⟩
      have t4 := t3.trans g4
      go_wp2_with fail
      refine (cl.clone11 a4 n4 c4 b4 o4 _ _ (by omega) (shr.nil_of h4) (h4.kept t4)).mono ?_
      rintro e w5 ⟨x4, d4, y4, rfl, s4, q4, e4, g5⟩
      have t5 := t4.trans g5
      go_wp2_with fail
      refine (cl.clone11 a5 n5 c5 b5 o5 _ _ (by omega) (shr.nil_of h5) (h5.kept t5)).mono ?_
      rintro e w6 ⟨x5, d5, y5, rfl, s5, q5, e5, g6⟩
      have t6 := t5.trans g6
      have u6 := ((((g2.trans g3).trans g4).trans g5).trans g6)
      have s0' := s0.kept u6 (by simp)
      have s1' := s1.kept (((g3.trans g4).trans g5).trans g6) (by simp)
      have s2' := s2.kept ((g4.trans g5).trans g6) (by simp)
      have s3' := s3.kept (g5.trans g6) (by simp)
      have s4' := s4.kept g6 (by simp)
      go_wp2_with fail
      refine (tb.tables x1 x2 x3 x4 x5 n1 n2 n3 n4 n5 d1 d2 d3 d4 d5 y1 y2 y3 y4 y5 _ _ _ _ _ _ s1' s2' s3' s4' s5).mono ?_
      rintro e w7 ⟨tb, mb, cb, nm, nc, f, g, rfl, hcomb, hcomp, hc1, hc3, k1, k2, k3, k4, k5, k6, hf, hgg, g7⟩
      have HG : Hid (∀ x y, g x y ≠ none → ∃ j, j < n3 ∧ j < n4 ∧ j < n5 ∧ x = F3 j) := hgg
      clear hf hgg s1 s2 s3 s4 s5 s1' s2' s3' s4' q1 q2 q3 q4 q5 h0 h1 h2 h3 h4 h5
      have s07 := s0'.kept g7 (by simp)
      go_wp2_with fail
      refine (cl.clone11 x0 n0 d0 y0 0 _ _ (by omega) (shr.nil_of (Rd.of_sl s07)) (Rd.of_sl s07)).mono ?_
      rintro e w8 ⟨x8, d8, y8, rfl, s8, q8, e8, g8⟩
      have t8 := (t6.trans g7).trans g8
      have hcomb8 := hcomb.kept g8 (by simp)
      have hcomp8 := hcomp.kept g8 (by simp)
      have hc18 := g8.cell hc1 (by simp)
      have hc38 := g8.cell hc3 (by simp)
      have s08 := s07.kept g8 (by simp)
      obtain ⟨sb, ssb, qsb, z1, z2, z3, z4, z5⟩ := shr.fresh s08 q0 e0 (Nat.le_trans u6.size k1) (Nat.le_trans u6.size k2) (Nat.le_trans u6.size k3) (Nat.le_trans (Nat.le_trans u6.size g7.size) e8)
      have g68 := t8
      clear s0 s0' s07 s08 q0 g1 g2 g3 g4 g5 g6 g7 g8 t2 t3 t4 t5 t6 t8 u6 hcomb hcomp hc1 hc3 q8 e0 e1 e2 e3 e4 e5 e8 k1 k2 k3 k4 k5 k6
      have halone : (run f (cmp g) l).1 = l := pl.run_alone f (cmp g) l (fun j hj r => cmp_none (HN.out j (by rw [← HL.out]; exact hj)) HG.out r)
      have HAL : Hid ((run f (cmp g) l).1 = l) := halone
      clear halone
      go_wp2_with fail
      refine (pl.compose_any f g l n0 HL.out x0 tb mb cb nm nc sb d0 _ (by omega) z1 z2 z3 qsb ssb.row ssb.wf hc18 hc38 hcomb8 hcomp8).mono ?_
      rintro e w9 ⟨x9, m, cap9, F9, rfl, hm, hx9, hr9, hF9, g9⟩
      rw [HAL.out, HL.out] at hm
      subst hm
      rw [HAL.out] at hF9
      have HF9 : Hid (∀ j, j < m → F9 j = l.getD j 0) := hF9
      clear hF9
      have s9 := s8.kept g9 (by simpa using z4)
      have hrd : Rd .i32 w9 x9 m sb 0 F9 := ⟨hx9, fun j hj => by rw [Nat.zero_add]; exact (hr9 j hj).1, fun j hj => by rw [HF9.out j hj]; exact s8.wf j hj⟩
      go_wp2_with fail
      refine (sm.eq23 x9 x8 m m cap9 d8 sb y8 0 0 F9 _ _ (by omega) (by omega) hrd (Rd.of_sl s9)).mono ?_
      rintro e w10 ⟨⟨b, rfl, hb⟩, g10⟩
      have hbt : b = true := hb.2 ⟨rfl, fun j hj => HF9.out j hj⟩
      subst hbt
      clear hb
      go_wp2
      go_ret
      exact ⟨rfl, ((Below.refl _ _).grown g68 (Nat.le_refl _) (by simp)).trans (((Below.refl _ _).grown g9 g68.size (fun k hk => by cases hk; exact z5)).grown g10 (Nat.le_trans g68.size g9.size) (by simp))⟩
  · have hd : decide (n0 + n1 + n2 + n3 + n4 + n5 ≤ 1048576) = false := by simp; omega
    go_enter Try.func6, Try.ntmps6
    go_wp2_with fail
    refine (sm.bytes26 _ _ _ _ _ _ _ _ _ _ _ _ _ _ _ _ _ _ w m0 m1 m2 m3 m4 m5).mono ?_
    rintro e w' ⟨rfl, rfl⟩
    go_wp2
    go_ret
    exact ⟨rfl, Below.refl _ _⟩
end Go.Proofs.Qxb6000886a.non
