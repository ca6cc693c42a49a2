import Derived.Test.Qxb6000886aMsj
namespace Go.Proofs.Qxb6000886a.msk
open Go.RowKit
open Go.Proofs.Qxb6000886a.mp (W32 W8)
open Go.Proofs.Qxb6000886a.rw (Row updN)
open Go.Proofs.Qxb6000886a.tb (Sl)
open Go.Proofs.Qxb6000886a.cl (Rd)
open Go.Proofs.Qxb6000886a.msa (sepB ctlB Asc InSel)
open Go.Proofs.Qxb6000886a.msb (RdV CatOk SelOk Fits)
open Go.Proofs.Qxb6000886a.msc (SlS SlSl RS)
open Go.Proofs.Qxb6000886a.msd (MapS updO Got)
open Go.Proofs.Qxb6000886a.msf (prF lst lst_len lst_get)
open Go.Proofs.Qxb6000886a.msi (fin Exp)
set_option linter.unusedVariables false
set_option linter.unusedSimpArgs false

theorem exp_form {gf : Option (List Int)} {m : Nat} {L : Nat → Nat} {X : Nat → Nat → Int} {e : Ending} (h : Exp gf m L X e) : ∃ kind idx : Int, e = .returned (.tuple #[.int .i64 kind, .int .i64 idx]) ∧ Exp gf m L X (.returned (.tuple #[.int .i64 kind, .int .i64 idx])) := by
  have h0 := h
  rcases h with ⟨rfl, _⟩ | ⟨rfl, _⟩ | ⟨rfl, _⟩ | ⟨j, _, rfl, _⟩
  · exact ⟨_, _, rfl, h0⟩
  · exact ⟨_, _, rfl, h0⟩
  · exact ⟨_, _, rfl, h0⟩
  · exact ⟨_, _, rfl, h0⟩

theorem nilV {w : World} {a : Option Addr} {n b off : Nat} {V : Nat → Value} (h : RdV w a n b off V) : a = none → n = 0 := fun e => by
  rcases Nat.eq_zero_or_pos n with h0 | h0
  · exact h0
  · rw [h.addr h0] at e; cases e

theorem mn3 (a b c : Nat) : sm.mn (sm.mn a b) c = ((min (min a b) c : Nat) : Int) := by unfold sm.mn; split <;> split <;> omega
theorem mn2 (a b : Nat) : sm.mn a b = ((min a b : Nat) : Int) := by unfold sm.mn; split <;> omega

set_option maxRecDepth 100000 in
set_option maxHeartbeats 8000000 in
theorem law3 (a0 a1 a2 a3 a4 a5 a6 : Option Addr) (n0 n1 n2 n3 n4 n5 n6 c0 c1 c2 c3 c4 c5 c6 b0 b1 b2 b3 b4 b5 b6 o0 o1 o2 o3 o4 o5 o6 : Nat) (S : Nat → ByteArray) (A : Nat → Option Addr) (L C B O : Nat → Nat) (X : Nat → Nat → Int) (F G keys P Q : Nat → Int) (p : Int) (w : World)
    (h0 : Rd .i32 w a0 n0 b0 o0 F) (h1 : Rd .i32 w a1 n1 b1 o1 G) (h2 : RdV w a2 n2 b2 o2 (fun j => .string (S j))) (h3 : Rd .i32 w a3 n3 b3 o3 keys) (h4 : RdV w a4 n4 b4 o4 (fun j => .slice (A j) (L j) (C j)))
    (hX : ∀ j, j < n4 → Rd .i32 w (A j) (L j) (B j) (O j) (X j)) (h5 : Rd .i32 w a5 n5 b5 o5 P) (h6 : Rd .i32 w a6 n6 b6 o6 Q) (hp : W32 p)
    (m0 : n0 ≤ maxLen) (m1 : n1 ≤ maxLen) (m2 : n2 ≤ maxLen) (m3 : n3 ≤ maxLen) (m4 : n4 ≤ maxLen) (m5 : n5 ≤ maxLen) (m6 : n6 ≤ maxLen) :
    Calls Try.prog 3 #[.slice a0 n0 c0, .slice a1 n1 c1, .slice a2 n2 c2, .slice a3 n3 c3, .slice a4 n4 c4, .slice a5 n5 c5, .slice a6 n6 c6, .int .i32 p] w fun e w' => e = .returned (.bool true) ∧ Below w.heap.size w w' := by
  obtain ⟨N, hN⟩ : ∃ N, N = min (min n0 n1) n2 := ⟨_, rfl⟩
  obtain ⟨K, hK⟩ : ∃ K, K = min n5 n6 := ⟨_, rfl⟩
  obtain ⟨m, hm⟩ : ∃ m, m = min n3 n4 := ⟨_, rfl⟩
  have HN : Hid (N = min (min n0 n1) n2) := hN
  have HK : Hid (K = min n5 n6) := hK
  have HM : Hid (m = min n3 n4) := hm
  have HXX : Hid (∀ j, j < n4 → Rd .i32 w (A j) (L j) (B j) (O j) (X j)) := hX
  clear hN hK hm hX
  go_enter Try.func3, Try.ntmps3
  go_wp2_with fail
  refine (msb.bytes8 a0 a1 a2 a3 a4 a5 a6 n0 n1 n2 n3 n4 n5 n6 c0 c1 c2 c3 c4 c5 c6 b2 o2 b4 o4 p S A L C w m0 m1 m2 m3 m4 m5 m6 h2 h4).mono ?_
  rintro e wc ⟨⟨b, rfl⟩, hwc⟩
  subst hwc
  cases b
  · go_wp2
    go_ret
    exact ⟨rfl, Below.refl _ _⟩
  go_wp2_with fail
  refine (msb.fit9 a0 a1 a2 a3 a4 a5 a6 n0 n1 n2 n3 n4 n5 n6 c0 c1 c2 c3 c4 c5 c6 b0 o0 b1 o1 b2 o2 b4 o4 b5 o5 b6 o6 N K S A L C F G P Q _ m0 m1 m2 m3 m4 m5 m6 h0 h1 h2 h4 h5 h6 (by rw [HN.out]; exact mn3 _ _ _) (by rw [HK.out]; exact mn2 _ _)).mono ?_
  rintro e wc ⟨⟨b, rfl, hfit⟩, hwc⟩
  subst hwc
  cases b
  · clear hfit
    go_wp2
    go_ret
    exact ⟨rfl, Below.refl _ _⟩
  have HFIT : Hid (Fits n0 n1 n2 n3 n4 n5 n6 N K L S F G P Q) := hfit rfl
  clear hfit m0 m1 m2 m3 m4 m5 m6
  obtain ⟨d0, d1, d2, d3, d4, d5, d6⟩ := HFIT.out.c
  go_wp2_with fail
  refine (msa.asc10 a0 a1 a2 n0 n1 n2 c0 c1 c2 b0 b1 o0 o1 N F G _ (by omega) (by omega) (by omega) h0 h1 (by rw [HN.out]; exact mn3 _ _ _)).mono ?_
  rintro e w1 ⟨⟨b, rfl, hasc⟩, g1⟩
  cases b
  · clear hasc
    go_wp2
    go_ret
    exact ⟨rfl, (Below.refl _ _).grown g1 (Nat.le_refl _) (by simp)⟩
  have HASC : Hid (Asc N F G) := hasc rfl
  clear hasc
  go_wp2_with fail
  refine (cl.clone11 a0 n0 c0 b0 o0 _ _ (by omega) (shr.nil_of h0) (h0.kept g1)).mono ?_
  rintro e w2 ⟨x0, e0, y0, rfl, s0, _, _, g2⟩
  have t2 := g1.trans g2
  go_wp2_with fail
  refine (cl.clone11 a1 n1 c1 b1 o1 _ _ (by omega) (shr.nil_of h1) (h1.kept t2)).mono ?_
  rintro e w3 ⟨x1, e1, y1, rfl, s1, _, _, g3⟩
  have t3 := t2.trans g3
  go_wp2_with fail
  refine (msc.clone12 a2 n2 c2 b2 o2 S _ (by omega) (nilV h2) (h2.kept t3)).mono ?_
  rintro e w4 ⟨x2, e2, y2, rfl, s2, g4⟩
  have t4 := t3.trans g4
  go_wp2_with fail
  refine (cl.clone11 a3 n3 c3 b3 o3 _ _ (by omega) (shr.nil_of h3) (h3.kept t4)).mono ?_
  rintro e w5 ⟨x3, e3, y3, rfl, s3, _, _, g5⟩
  have t5 := t4.trans g5
  go_wp2_with fail
  refine (msc.clone13 a4 n4 c4 b4 o4 A L C B O X _ (by omega) (nilV h4) (h4.kept t5) HFIT.out.vals (fun j hj => (HXX.out j hj).kept t5)).mono ?_
  rintro e w6 ⟨x4, e4, y4, rfl, s4, g6⟩
  have t6 := t5.trans g6
  go_wp2_with fail
  refine (cl.clone11 a5 n5 c5 b5 o5 _ _ (by omega) (shr.nil_of h5) (h5.kept t6)).mono ?_
  rintro e w7 ⟨x5, e5, y5, rfl, s5, _, _, g7⟩
  have t7 := t6.trans g7
  go_wp2_with fail
  refine (cl.clone11 a6 n6 c6 b6 o6 _ _ (by omega) (shr.nil_of h6) (h6.kept t7)).mono ?_
  rintro e w8 ⟨x6, e6, y6, rfl, s6, _, _, g8⟩
  have t8 := t7.trans g8
  have s0' := s0.kept (((((g3.trans g4).trans g5).trans g6).trans g7).trans g8) (by simp)
  have s1' := s1.kept ((((g4.trans g5).trans g6).trans g7).trans g8) (by simp)
  have s2' := s2.kept (((g5.trans g6).trans g7).trans g8)
  have s3' := s3.kept ((g6.trans g7).trans g8) (by simp)
  have s4' := s4.kept (g7.trans g8)
  have s5' := s5.kept g8 (by simp)
  clear s0 s1 s2 s3 s4 s5 h0 h1 h2 h3 h4 h5 h6 HXX g1 g2 g3 g4 g5 g6 g7 g8 t2 t3 t4 t5 t6 t7
  go_wp2_with fail
  refine (msf.tables14 x0 x1 x2 x3 x4 n0 n1 n2 n3 n4 e0 e1 e2 e3 e4 y0 y1 y2 y3 y4 N m S F G keys L X w8 HN.out HM.out d2 d4 s0' s1' s2' s3' s4').mono ?_
  rintro e w9 ⟨tb, mb, cb, rfl, hc0, hc4, hcat, hS, q1, q2, q3, g9⟩
  go_wp2_with fail
  refine (msg.zmap15 tb mb cb N K m x5 x6 n5 n6 e5 e6 y5 y6 S F G P Q _ w9 HK.out (by have := HN.out; omega) d5 (by have := HM.out; omega) hS hc0 hc4 hcat (s5'.kept g9 (by simp)) (s6.kept g9 (by simp)) q1 q2 (fun j hj => s0'.wf j (by have := HN.out; omega)) (fun j hj => s1'.wf j (by have := HN.out; omega)) HFIT.out.cats HFIT.out.sels).mono ?_
  rintro e w10 ⟨rfl, ⟨cnt, hS10⟩, g10⟩
  have g810 : w8.grownBy w10 none := g9.andThen g10 (fun j hj => by cases hj; left; exact q3)
  have hc410 := g10.cell hc4 (by simpa using q1)
  have HS10 : MapS w10 mb cnt (fin N m K S F G P Q keys L X) := hS10
  clear hS10 hS hc0 hc4 hcat g9 g10
  have z0 := s0'.kept g810 (by simp)
  have z1 := s1'.kept g810 (by simp)
  have z2 := s2'.kept g810
  have z3 := s3'.kept g810 (by simp)
  have z4 := s4'.kept g810
  have z5 := s5'.kept g810 (by simp)
  have z6 := s6.kept g810 (by simp)
  have t10 := t8.trans g810
  clear s0' s1' s2' s3' s4' s5' s6 t8 g810
  go_wp2_with fail
  refine (sm.min16 _ _ _).mono ?_
  rintro e wt ⟨rfl, hwt⟩
  subst hwt
  rw [mn2, ← HM.out]
  go_wp2_with fail
  refine (msh.cand17 x0 x1 x2 x3 x5 x6 n0 n1 n2 n3 n5 n6 e0 e1 e2 e3 e5 e6 y0 y1 y2 y3 y5 y6 N K S F G keys P Q p _ hp HN.out HK.out d2 d3 d5 z0 z1 z2 z3 z5 z6 HFIT.out.cats HFIT.out.sels).mono ?_
  rintro e w11 ⟨pb, np, pcap, FF, rfl, hrow, hFF, hnp, hpb, g11⟩
  have HFF : Hid (∀ j, j < np → W32 (FF j)) := hFF
  clear hFF
  go_wp2_with fail
  go_loopw [20] (fun iv wr => ∃ k : Nat, iv = .int .i64 k ∧ k ≤ np ∧ wt.grownBy wr none ∧ w11.grownBy wr none) (fun iv _ => np - (intOf iv).toNat)
  case atStart => exact ⟨0, rfl, Nat.zero_le _, g11, World.grownBy.refl _ _⟩
  case round =>
    rename World => wr
    obtain ⟨k, rfl, hk, hg, hg1⟩ := hrel
    by_cases hlt : k < np
    · have hcell := hg1.cell (hrow k hlt).1 (by simp)
      have hr32 := HFF.out k hlt
      generalize FF k = r at hcell hr32
      have hSr := HS10.kept hg
      have hc4r := hg.cell hc410 (by simp)
      have v0 := z0.kept hg (by simp)
      have v1 := z1.kept hg (by simp)
      have v2 := z2.kept hg
      have v3 := z3.kept hg (by simp)
      have v4 := z4.kept hg
      have v5 := z5.kept hg (by simp)
      have v6 := z6.kept hg (by simp)
      go_wp2_with fail
      refine (msd.map18 tb mb cnt _ r _ hSr hc4r hr32).mono ?_
      rintro e wm ⟨⟨ga, gn, gc, rfl, hgot⟩, hwm⟩
      subst hwm
      have HGOT : Hid (∀ xs, fin N m K S F G P Q keys L X r = some xs → gn = xs.length ∧ ∃ b, Rd .i32 wm ga gn b 0 (fun j => xs.getD j 0)) := hgot
      clear hgot
      go_wp2_with fail
      refine (msi.exp19 r x0 x1 x2 x3 x5 x6 n0 n1 n2 n3 n5 n6 e0 e1 e2 e3 e5 e6 y0 y1 y2 y3 y5 y6 N m K S F G keys P Q L X _ HN.out HK.out (by have := HM.out; omega) d2 v0 v1 v2 v3 v5 v6 HASC.out).mono ?_
      rintro e wd ⟨hexp, hwd⟩
      subst hwd
      obtain ⟨kind, idx, rfl, hexp'⟩ := exp_form hexp
      have HEXP : Hid (Exp (fin N m K S F G P Q keys L X r) m L X (.returned (.tuple #[.int .i64 kind, .int .i64 idx]))) := hexp'
      clear hexp hexp'
      go_wp2_with fail
      refine (msj.match20 _ m L X ga x4 gn gc n4 e4 y4 kind idx _ HEXP.out (by have := HM.out; omega) HGOT.out v4).mono ?_
      rintro e w2 ⟨rfl, g2⟩
      go_wp2
      go_roundw
      case rel =>
        have hfin : ∃ k' : Nat, (.int .i64 ((k : Int) + 1) : Value) = .int .i64 k' ∧ k' ≤ np ∧ wt.grownBy w2 none ∧ w11.grownBy w2 none := ⟨k + 1, by go_num, by omega, hg.trans g2, hg1.trans g2⟩
        first | exact hfin | ((repeat apply Exists.intro); exact ⟨hfin, rfl⟩)
      case measure => simp [intOf]; omega
    · go_wp2
      go_ret
      exact ⟨rfl, (Below.refl _ _).grown (t10.trans hg) (Nat.le_refl _) (by simp)⟩
end Go.Proofs.Qxb6000886a.msk
