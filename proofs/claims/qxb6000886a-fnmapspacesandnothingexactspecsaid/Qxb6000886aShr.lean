import Derived.Test.Qxb6000886aPl
namespace Go.Proofs.Qxb6000886a.shr
open Go.RowKit
open Go.Proofs.Qxb6000886a.mp (W32 W8 Comb Comp cmp)
open Go.Proofs.Qxb6000886a.rw (Row updN join stepC run run_snoc run_inv)
open Go.Proofs.Qxb6000886a.tb (Sl)
open Go.Proofs.Qxb6000886a.cl (Rd)
set_option linter.unusedVariables false
set_option linter.unusedSimpArgs false

theorem nil_of {q : IntKind} {w : World} {a : Option Addr} {n b off : Nat} {F : Nat → Int} (h : Rd q w a n b off F) : a = none → n = 0 := fun e => by
  rcases Nat.eq_zero_or_pos n with h0 | h0
  · exact h0
  · rw [h.addr h0] at e; cases e

theorem fresh {w w1 w8 : World} {a : Option Addr} {n c y tb mb cb ob : Nat} {F : Nat → Int} (h : Sl .i32 w8 a n y F) (q : (a = none ∧ n = 0 ∧ c = 0) ∨ (a = some ⟨y, 0, none⟩ ∧ c = n ∧ y < w1.heap.size)) (hy : w.heap.size ≤ y)
    (k1 : w1.heap.size ≤ tb) (k2 : w1.heap.size ≤ mb) (k3 : w1.heap.size ≤ cb) (k4 : w1.heap.size ≤ ob) :
    ∃ sb, Sl .i32 w8 a n sb F ∧ ((a = none ∧ n = 0 ∧ c = 0) ∨ (a = some ⟨sb, 0, none⟩ ∧ c = n)) ∧ tb ≠ sb ∧ mb ≠ sb ∧ cb ≠ sb ∧ ob ≠ sb ∧ w.heap.size ≤ sb := by
  rcases q with ⟨h1, h2, h3⟩ | ⟨h1, h2, h3⟩
  · refine ⟨tb + mb + cb + ob + 1 + w.heap.size, ⟨fun h0 => by omega, fun j hj => by omega, fun j hj => by omega, h.le⟩, Or.inl ⟨h1, h2, h3⟩, by omega, by omega, by omega, by omega, by omega⟩
  · exact ⟨y, h, Or.inr ⟨h1, h2⟩, by omega, by omega, by omega, by omega, hy⟩

set_option maxHeartbeats 4000000 in
theorem law7 (a0 a1 a2 a3 a4 a5 : Option Addr) (n0 n1 n2 n3 n4 n5 c0 c1 c2 c3 c4 c5 b0 b1 b2 b3 b4 b5 o0 o1 o2 o3 o4 o5 : Nat) (l : List Int) (F1 F2 F3 F4 F5 : Nat → Int) (w : World) (hL : l.length = n0)
    (h0 : Rd .i32 w a0 n0 b0 o0 (fun j => l.getD j 0)) (h1 : Rd .i32 w a1 n1 b1 o1 F1) (h2 : Rd .u8 w a2 n2 b2 o2 F2) (h3 : Rd .i32 w a3 n3 b3 o3 F3) (h4 : Rd .i32 w a4 n4 b4 o4 F4) (h5 : Rd .i32 w a5 n5 b5 o5 F5)
    (m0 : n0 ≤ maxLen) (m1 : n1 ≤ maxLen) (m2 : n2 ≤ maxLen) (m3 : n3 ≤ maxLen) (m4 : n4 ≤ maxLen) (m5 : n5 ≤ maxLen) :
    Calls Try.prog 7 #[.slice a0 n0 c0, .slice a1 n1 c1, .slice a2 n2 c2, .slice a3 n3 c3, .slice a4 n4 c4, .slice a5 n5 c5] w fun e w' => e = .returned (.bool true) ∧ Below w.heap.size w w' := by
  by_cases hsum : n0 + n1 + n2 + n3 + n4 + n5 ≤ 1048576
  · have hd : decide (n0 + n1 + n2 + n3 + n4 + n5 ≤ 1048576) = true := by simp; omega
    have HL : Hid (l.length = n0) := hL
    clear hL
    go_enter Try.func7, Try.ntmps7
    go_wp2_with fail
    refine (sm.bytes30 _ _ _ _ _ _ _ _ _ _ _ _ _ _ _ _ _ _ w m0 m1 m2 m3 m4 m5).mono ?_
    rintro e w' ⟨rfl, rfl⟩
    clear m0 m1 m2 m3 m4 m5
    go_wp2_with fail
    refine (sm.fit27 _ _ _ _ _ _ _ _ _ _ _ _ _ _ _ _ _ _ _ _ (by omega) (by omega) (by omega) (by omega) (by omega) (by omega)).mono ?_
    rintro e w' ⟨⟨b, rfl⟩, rfl⟩
    cases b
    · go_wp2
      go_ret
      exact ⟨rfl, Below.refl _ _⟩
    · clear hd
      go_wp2_with fail
      refine (cl.clone11 a0 n0 c0 b0 o0 _ _ (by omega) (nil_of h0) h0).mono ?_
      rintro e w1 ⟨x0, d0, y0, rfl, s0, q0, e0, g1⟩
      go_wp2_with fail
      refine (cl.clone11 a1 n1 c1 b1 o1 _ _ (by omega) (nil_of h1) (h1.kept g1)).mono ?_
      rintro e w2 ⟨x1, d1, y1, rfl, s1, q1, e1, g2⟩
      have t2 := g1.trans g2
      go_wp2_with fail
      refine (cl.clone29 a2 n2 c2 b2 o2 _ _ (by omega) (nil_of h2) (h2.kept t2)).mono ?_
      rintro e w3 ⟨x2, d2, y2, rfl, s2, q2, e2, g3⟩
      have t3 := t2.trans g3
      go_wp2_with fail
      refine (cl.clone11 a3 n3 c3 b3 o3 _ _ (by omega) (nil_of h3) (h3.kept t3)).mono ?_
      rintro e w4 ⟨x3, d3, y3, rfl, s3, q3, e3, g4⟩
      have t4 := t3.trans g4
      go_wp2_with fail
      refine (cl.clone11 a4 n4 c4 b4 o4 _ _ (by omega) (nil_of h4) (h4.kept t4)).mono ?_
      rintro e w5 ⟨x4, d4, y4, rfl, s4, q4, e4, g5⟩
      have t5 := t4.trans g5
      go_wp2_with fail
      refine (cl.clone11 a5 n5 c5 b5 o5 _ _ (by omega) (nil_of h5) (h5.kept t5)).mono ?_
      rintro e w6 ⟨x5, d5, y5, rfl, s5, q5, e5, g6⟩
      have t6 := t5.trans g6
      have u6 := ((((g2.trans g3).trans g4).trans g5).trans g6)
      have s0' := s0.kept u6 (by simp)
      have s1' := s1.kept (((g3.trans g4).trans g5).trans g6) (by simp)
      have s2' := s2.kept ((g4.trans g5).trans g6) (by simp)
      have s3' := s3.kept (g5.trans g6) (by simp)
      have s4' := s4.kept g6 (by simp)
      go_wp2_with fail
      refine (tb.tables x1 x2 x3 x4 x5 n1 n2 n3 n4 n5 d1 d2 d3 d4 d5 y1 y2 y3 y4 y5 _ _ _ _ _ _ s1' s2' s3' s4' s5).mono ?_
      rintro e w7 ⟨tb, mb, cb, nm, nc, f, g, rfl, hcomb, hcomp, hc1, hc3, k1, k2, k3, k4, k5, k6, hf, hgg, g7⟩
      clear hf hgg s1 s2 s3 s4 s5 s1' s2' s3' s4' q1 q2 q3 q4 q5 h0 h1 h2 h3 h4 h5
      have s07 := s0'.kept g7 (by simp)
      go_wp2_with fail
      refine (cl.clone11 x0 n0 d0 y0 0 _ _ (by omega) (nil_of (Rd.of_sl s07)) (Rd.of_sl s07)).mono ?_
      rintro e w8 ⟨x8, d8, y8, rfl, s8, q8, e8, g8⟩
      have t8 := (t6.trans g7).trans g8
      have hcomb8 := hcomb.kept g8 (by simp)
      have hcomp8 := hcomp.kept g8 (by simp)
      have hc18 := g8.cell hc1 (by simp)
      have hc38 := g8.cell hc3 (by simp)
      have s08 := s07.kept g8 (by simp)
      obtain ⟨sb, ssb, qsb, z1, z2, z3, z4, z5⟩ := fresh s08 q0 e0 (Nat.le_trans u6.size k1) (Nat.le_trans u6.size k2) (Nat.le_trans u6.size k3) (Nat.le_trans (Nat.le_trans u6.size g7.size) e8)
      have g68 := t8
      clear s0 s0' s07 s08 q0 g1 g2 g3 g4 g5 g6 g7 g8 t2 t3 t4 t5 t6 t8 u6 hcomb hcomp hc1 hc3 q8 e0 e1 e2 e3 e4 e5 e8 k1 k2 k3 k4 k5 k6
      go_wp2_with fail
      go_loop [15] (fun iv => ∃ k : Nat, iv = .int .i64 k ∧ k ≤ n0 ∧ Hid (∀ j, j < k → f (l.getD j 0) ≠ 0)) (fun iv => n0 - (intOf iv).toNat)
      case atStart => exact ⟨0, rfl, Nat.zero_le _, fun j hj => absurd hj (Nat.not_lt_zero _)⟩
      case round =>
        obtain ⟨k, rfl, hk, HK⟩ := hrel
        by_cases hgo : k < n0 ∧ f (l.getD k 0) ≠ 0
        · obtain ⟨hlt, hz0⟩ := hgo
          have hx8 := s8.addr (by omega)
          have hcell := (s8.row k hlt).1
          have hw32 : W32 (l.getD k 0) := s8.wf k hlt
          generalize hr : l.getD k 0 = r at hcell hw32 hz0
          have HR : Hid (l.getD k 0 = r) := hr
          clear hr
          have hz' : (f r != 0) = true := by simp [hz0]
          subst hx8
          go_wp2_with (go_at_call 31; refine (sm.comb31 tb mb nm f r _ hcomb8 hc18 hw32).mono ?_; rintro e w' ⟨rfl, rfl⟩)
          go_round
          case rel =>
            refine ⟨k + 1, by go_num, by omega, ?_⟩
            intro j hj
            by_cases e : j = k
            · rw [e, HR.out]; exact hz0
            · exact HK.out j (by omega)
          case measure => simp [intOf]; omega
        · have HZ : Hid (k < n0 → f (l.getD k 0) = 0) := fun h => Decidable.byContradiction fun h' => hgo ⟨h, h'⟩
          clear hgo
          have hlaw := pl.run_law f (cmp g) l k (by rw [HL.out]; exact hk) HK.out (by rw [HL.out]; exact HZ.out)
          have hemp := pl.run_empty_iff f (cmp g) l
          have hinv := (run_inv f (cmp g) l).1
          rw [HL.out] at hlaw hemp hinv
          have cc := fun W (hW : W = w8) => pl.compose_any f g l n0 HL.out x0 tb mb cb nm nc sb d0 W (by omega) z1 z2 z3 qsb (by rw [hW]; exact ssb.row) ssb.wf (by rw [hW]; exact hc18) (by rw [hW]; exact hc38) (by rw [hW]; exact hcomb8) (by rw [hW]; exact hcomp8)
          have HCC : Hid (∀ W, W = w8 → Calls Try.prog 25 #[.pointer (some ⟨tb, 0, none⟩), .slice x0 n0 d0] W (pl.Composed f g l sb W)) := cc
          have HLAW : Hid _ := hlaw
          have HEMP : Hid _ := hemp
          have HINV : Hid _ := hinv
          clear cc hlaw hemp hinv
          by_cases hlt : k < n0
          · have hx8 := s8.addr (by omega)
            have hcell := (s8.row k hlt).1
            have hw32 : W32 (l.getD k 0) := s8.wf k hlt
            have hz0 := HZ.out hlt
            generalize hr : l.getD k 0 = r at hcell hw32 hz0
            have hz' : (f r != 0) = false := by simp [hz0]
            clear hr hz0
            subst hx8
            go_wp2_with (go_at_call 31; refine (sm.comb31 tb mb nm f r _ hcomb8 hc18 hw32).mono ?_; rintro e w' ⟨rfl, rfl⟩)
            clear hcell hz' hw32
            refine (HCC.out _ rfl).mono ?_
            rintro e w9 ⟨x9, m, cap9, F9, rfl, hm, hx9, hr9, hF9, g9⟩
            have HF9 : Hid (∀ j, j < m → F9 j = (run f (cmp g) l).1.getD j 0) := hF9
            obtain ⟨p1, p2, p3⟩ := HLAW.out
            have p4 := HEMP.out
            have p5 := HINV.out
            rw [← hm] at p1 p2 p4 p5
            have P3 : Hid (∀ j, j < k → (run f (cmp g) l).1.getD j 0 = l.getD j 0) := p3
            have s9 := s8.kept g9 (by simpa using z4)
            have hbb : (!(((m : Int) == 0) == ((n0 : Int) == 0))) = false := by
              by_cases e : m = 0
              · have e' := p4.1 e
                simp [e, e']
              · have e' : ¬ n0 = 0 := fun h => e (p4.2 h)
                have e1 : ((m : Int) == 0) = false := by simp; omega
                have e2 : ((n0 : Int) == 0) = false := by simp; omega
                rw [e1, e2]; rfl
            have HM : Hid (m = (run f (cmp g) l).1.length) := hm
            clear hm hF9 p3 p4 HCC HLAW HEMP HINV s8 ssb
            have f1 : decide (n0 < m) = false := by simp; omega
            have f2 : decide (m < k) = false := by simp; omega
            have f3 : k < n0 → decide ((m : Int) < (k : Int) + 1) = false := fun h => by have := p2 h; simp; omega
            go_wp2
            go_loopw [17] (fun iv wr => ∃ i : Nat, iv = .int .i64 i ∧ i ≤ k ∧ w9.grownBy wr none) (fun iv _ => k - (intOf iv).toNat)
            case atStart => exact ⟨0, rfl, Nat.zero_le _, World.grownBy.refl _ _⟩
            case round =>
              obtain ⟨i, rfl, hi, hgi⟩ := hrel
              by_cases hik : i < k
              · have hx9' := hx9 (by omega)
                have hy9' := s9.addr (by omega)
                have hA := hgi.cell (hr9 i (by omega)).1 (by simp)
                have hB := hgi.cell (s9.row i (by omega)).1 (by simp)
                have hAB : F9 i = l.getD i 0 := (HF9.out i (by omega)).trans (P3.out i hik)
                rw [hAB] at hA
                generalize l.getD i 0 = v at hA hB
                clear hAB
                try simp only [Option.some.injEq] at hy9'
                subst hx9'
                try subst hy9'
                go_wp2
                go_region
                all_goals
                  go_wp2
                  go_roundw
                  case rel =>
                    have hfin : ∃ i' : Nat, (.int .i64 ((i : Int) + 1) : Value) = .int .i64 i' ∧ i' ≤ k ∧ w9.grownBy wr.drew none := ⟨i + 1, by go_num, by omega, hgi.trans (rw.grown_drew _ _)⟩
                    first | exact hfin | ((repeat apply Exists.intro); exact ⟨hfin, rfl⟩)
                  case measure => simp [intOf]; omega
              · go_wp2
                go_ret
                exact ⟨rfl, ((Below.refl _ _).grown g68 (Nat.le_refl _) (by simp)).trans (((Below.refl _ _).grown g9 g68.size (fun k hk => by cases hk; exact z5)).grown hgi (Nat.le_trans g68.size g9.size) (by simp))⟩
          · go_wp2_with fail
            refine (HCC.out _ rfl).mono ?_
            rintro e w9 ⟨x9, m, cap9, F9, rfl, hm, hx9, hr9, hF9, g9⟩
            have HF9 : Hid (∀ j, j < m → F9 j = (run f (cmp g) l).1.getD j 0) := hF9
            obtain ⟨p1, p2, p3⟩ := HLAW.out
            have p4 := HEMP.out
            have p5 := HINV.out
            rw [← hm] at p1 p2 p4 p5
            have P3 : Hid (∀ j, j < k → (run f (cmp g) l).1.getD j 0 = l.getD j 0) := p3
            have s9 := s8.kept g9 (by simpa using z4)
            have hbb : (!(((m : Int) == 0) == ((n0 : Int) == 0))) = false := by
              by_cases e : m = 0
              · have e' := p4.1 e
                simp [e, e']
              · have e' : ¬ n0 = 0 := fun h => e (p4.2 h)
                have e1 : ((m : Int) == 0) = false := by simp; omega
                have e2 : ((n0 : Int) == 0) = false := by simp; omega
                rw [e1, e2]; rfl
            have HM : Hid (m = (run f (cmp g) l).1.length) := hm
            clear hm hF9 p3 p4 HCC HLAW HEMP HINV s8 ssb
            have f1 : decide (n0 < m) = false := by simp; omega
            have f2 : decide (m < k) = false := by simp; omega
            have f3 : k < n0 → decide ((m : Int) < (k : Int) + 1) = false := fun h => by have := p2 h; simp; omega
            go_wp2
            go_loopw [17] (fun iv wr => ∃ i : Nat, iv = .int .i64 i ∧ i ≤ k ∧ w9.grownBy wr none) (fun iv _ => k - (intOf iv).toNat)
            case atStart => exact ⟨0, rfl, Nat.zero_le _, World.grownBy.refl _ _⟩
            case round =>
              obtain ⟨i, rfl, hi, hgi⟩ := hrel
              by_cases hik : i < k
              · have hx9' := hx9 (by omega)
                have hy9' := s9.addr (by omega)
                have hA := hgi.cell (hr9 i (by omega)).1 (by simp)
                have hB := hgi.cell (s9.row i (by omega)).1 (by simp)
                have hAB : F9 i = l.getD i 0 := (HF9.out i (by omega)).trans (P3.out i hik)
                rw [hAB] at hA
                generalize l.getD i 0 = v at hA hB
                clear hAB
                try simp only [Option.some.injEq] at hy9'
                subst hx9'
                try subst hy9'
                go_wp2
                go_region
                all_goals
                  go_wp2
                  go_roundw
                  case rel =>
                    have hfin : ∃ i' : Nat, (.int .i64 ((i : Int) + 1) : Value) = .int .i64 i' ∧ i' ≤ k ∧ w9.grownBy wr.drew none := ⟨i + 1, by go_num, by omega, hgi.trans (rw.grown_drew _ _)⟩
                    first | exact hfin | ((repeat apply Exists.intro); exact ⟨hfin, rfl⟩)
                  case measure => simp [intOf]; omega
              · go_wp2
                go_ret
                exact ⟨rfl, ((Below.refl _ _).grown g68 (Nat.le_refl _) (by simp)).trans (((Below.refl _ _).grown g9 g68.size (fun k hk => by cases hk; exact z5)).grown hgi (Nat.le_trans g68.size g9.size) (by simp))⟩
  · have hd : decide (n0 + n1 + n2 + n3 + n4 + n5 ≤ 1048576) = false := by simp; omega
    go_enter Try.func7, Try.ntmps7
    go_wp2_with fail
    refine (sm.bytes30 _ _ _ _ _ _ _ _ _ _ _ _ _ _ _ _ _ _ w m0 m1 m2 m3 m4 m5).mono ?_
    rintro e w' ⟨rfl, rfl⟩
    go_wp2
    go_ret
    exact ⟨rfl, Below.refl _ _⟩
end Go.Proofs.Qxb6000886a.shr
