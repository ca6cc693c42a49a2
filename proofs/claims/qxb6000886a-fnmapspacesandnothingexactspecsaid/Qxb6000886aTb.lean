import Derived.Test.Qxb6000886aCz
import Derived.WalkLawsBesides
namespace Go.Proofs.Qxb6000886a.tb
open Go.RowKit
open Go.Proofs.Qxb6000886a.mp (W32 W8 Comb Comp cmp upd upd2)
open Go.Proofs.Qxb6000886a.rw (Row updN join stepC run run_snoc run_inv)
set_option linter.unusedVariables false
set_option linter.unusedSimpArgs false

/-- a slice that is nil or lies at its block's head: n cells, the integers F 0, F 1, .. -/
structure Sl (q : IntKind) (w : World) (a : Option Addr) (n b : Nat) (F : Nat → Int) : Prop where
  addr : 0 < n → a = some ⟨b, 0, none⟩
  row : Row q w b n F
  wf : ∀ j, j < n → (Lit.int q (F j)).wf = true
  le : n ≤ 1048576

theorem min_nat (a b : Nat) : ∃ N : Nat, (if b < a then (b : Int) else (a : Int)) = (N : Int) ∧ N ≤ a ∧ N ≤ b := by
  by_cases h : b < a
  · exact ⟨b, by rw [if_pos h], by omega, by omega⟩
  · exact ⟨a, by rw [if_neg h], by omega, by omega⟩

theorem comb_alloc {w : World} {b n : Nat} {f : Int → Int} (h : Comb w b n f) (o : Obj) : Comb (w.alloc o) b n f := h.kept (World.grownBy_alloc w o none) (by simp)
theorem comp_alloc {w : World} {b n : Nat} {g : Int → Int → Option Int} (h : Comp w b n g) (o : Obj) : Comp (w.alloc o) b n g := h.kept (World.grownBy_alloc w o none) (by simp)

theorem start (w : World) (o1 o2 o3 : Obj) (h1 : o1 = .map #[] 0) (h2 : o2 = .map #[] 0) (o5 : Obj) (h5 : o5 = Obj.cells #[Value.slice none 0 0, Value.map (some w.heap.size), Value.map (some (w.heap.size + 1 + 1)), Value.map (some (w.heap.size + 1)), Value.map (some (w.heap.size + 1 + 1 + 1))] 61) :
    Comb (((((w.alloc o1).alloc o2).alloc o3).alloc o3).alloc o5) w.heap.size 0 (fun _ => 0) ∧ Comp (((((w.alloc o1).alloc o2).alloc o3).alloc o3).alloc o5) (w.heap.size + 1) 0 (fun _ _ => none)
      ∧ (((((w.alloc o1).alloc o2).alloc o3).alloc o3).alloc o5).cell? ⟨w.heap.size + 1 + 1 + 1 + 1, 1, none⟩ = some (.map (some w.heap.size)) ∧ (((((w.alloc o1).alloc o2).alloc o3).alloc o3).alloc o5).cell? ⟨w.heap.size + 1 + 1 + 1 + 1, 3, none⟩ = some (.map (some (w.heap.size + 1)))
      ∧ w.heap.size + 1 + 1 + 1 + 1 < (((((w.alloc o1).alloc o2).alloc o3).alloc o3).alloc o5).heap.size ∧ w.grownBy (((((w.alloc o1).alloc o2).alloc o3).alloc o3).alloc o5) none := by
  refine ⟨?_, ?_, ?_, ?_, by simp, ?_⟩
  · subst h1
    exact comb_alloc (comb_alloc (comb_alloc (comb_alloc (Comb.made w) _) _) _) _
  · subst h2
    have := comp_alloc (comp_alloc (comp_alloc (Comp.made (w.alloc o1)) o3) o3) o5
    simpa using this
  · have e := (MapKept.heap_alloc ((((w.alloc o1).alloc o2).alloc o3).alloc o3) o5).1
    have e2 : ((((w.alloc o1).alloc o2).alloc o3).alloc o3).heap.size = w.heap.size + 1 + 1 + 1 + 1 := by simp
    rw [e2] at e
    unfold World.cell?
    simp only [e]
    subst h5
    rfl
  · have e := (MapKept.heap_alloc ((((w.alloc o1).alloc o2).alloc o3).alloc o3) o5).1
    have e2 : ((((w.alloc o1).alloc o2).alloc o3).alloc o3).heap.size = w.heap.size + 1 + 1 + 1 + 1 := by simp
    rw [e2] at e
    unfold World.cell?
    simp only [e]
    subst h5
    rfl
  · exact ((((World.grownBy_alloc _ _ _).trans (World.grownBy_alloc _ _ _)).trans (World.grownBy_alloc _ _ _)).trans (World.grownBy_alloc _ _ _)).trans (World.grownBy_alloc _ _ _)

theorem f_next {f : Int → Int} {n k : Nat} {F : Nat → Int} {x y : Int} (hk : k < n) (hx : F k = x) (h : ∀ r, f r ≠ 0 → ∃ j, j < n ∧ r = F j) : ∀ r, upd f x y r ≠ 0 → ∃ j, j < n ∧ r = F j := by
  intro r hr
  unfold mp.upd at hr
  split at hr
  · rename_i e; exact ⟨k, hk, by rw [hx, e]⟩
  · exact h r hr

theorem g_next {g : Int → Int → Option Int} {n2 n3 n4 k : Nat} {F : Nat → Int} {x y v : Int} (h2 : k < n2) (h3 : k < n3) (h4 : k < n4) (hx : F k = x) (h : ∀ p q, g p q ≠ none → ∃ j, j < n2 ∧ j < n3 ∧ j < n4 ∧ p = F j) :
    ∀ p q, upd2 g x y v p q ≠ none → ∃ j, j < n2 ∧ j < n3 ∧ j < n4 ∧ p = F j := by
  intro p q hr
  unfold mp.upd2 at hr
  split at hr
  · rename_i e; exact ⟨k, h2, h3, h4, by rw [hx, e.1]⟩
  · exact h p q hr

set_option maxHeartbeats 4000000 in
theorem tables (a0 a1 a2 a3 a4 : Option Addr) (n0 n1 n2 n3 n4 c0 c1 c2 c3 c4 b0 b1 b2 b3 b4 : Nat) (F0 F1 F2 F3 F4 : Nat → Int) (w : World)
    (s0 : Sl .i32 w a0 n0 b0 F0) (s1 : Sl .u8 w a1 n1 b1 F1) (s2 : Sl .i32 w a2 n2 b2 F2) (s3 : Sl .i32 w a3 n3 b3 F3) (s4 : Sl .i32 w a4 n4 b4 F4) :
    Calls Try.prog 24 #[.slice a0 n0 c0, .slice a1 n1 c1, .slice a2 n2 c2, .slice a3 n3 c3, .slice a4 n4 c4] w fun e w' =>
      ∃ tb mb cb nm nc f g, e = .returned (.pointer (some ⟨tb, 0, none⟩)) ∧ Comb w' mb nm f ∧ Comp w' cb nc g ∧ w'.cell? ⟨tb, 1, none⟩ = some (.map (some mb)) ∧ w'.cell? ⟨tb, 3, none⟩ = some (.map (some cb))
        ∧ w.heap.size ≤ tb ∧ w.heap.size ≤ mb ∧ w.heap.size ≤ cb ∧ tb < w'.heap.size ∧ mb < w'.heap.size ∧ cb < w'.heap.size
        ∧ (∀ r, f r ≠ 0 → ∃ j, j < n0 ∧ r = F0 j) ∧ (∀ x y, g x y ≠ none → ∃ j, j < n2 ∧ j < n3 ∧ j < n4 ∧ x = F2 j) ∧ w.grownBy w' none := by
  have l0 := s0.le
  have l1 := s1.le
  have l2 := s2.le
  have l3 := s3.le
  have l4 := s4.le
  obtain ⟨N, hN, hN0, hN1⟩ := min_nat n0 n1
  obtain ⟨M1, hM', hM2, hM3⟩ := min_nat n2 n3
  obtain ⟨M, hM, hM1, hM4⟩ := min_nat M1 n4
  have hmm := @run_makeMap Try.prog
  go_enter Try.func24, Try.ntmps24
  go_wp2
  clear hmm
  go_loopw [13] (fun iv wr => ∃ (k : Nat) (f : Int → Int), iv = .int .i64 k ∧ k ≤ N ∧ Comb wr w.heap.size k f ∧ Comp wr (w.heap.size + 1) 0 (fun _ _ => none) ∧ Hid (∀ r, f r ≠ 0 → ∃ j, j < n0 ∧ r = F0 j)
      ∧ wr.cell? ⟨w.heap.size + 1 + 1 + 1 + 1, 1, none⟩ = some (.map (some w.heap.size)) ∧ wr.cell? ⟨w.heap.size + 1 + 1 + 1 + 1, 3, none⟩ = some (.map (some (w.heap.size + 1))) ∧ w.heap.size + 1 + 1 + 1 + 1 < wr.heap.size ∧ w.grownBy wr none) (fun iv _ => N - (intOf iv).toNat)
  case atStart =>
    obtain ⟨q1, q2, q3, q4, q5, q6⟩ := start w _ _ _ rfl rfl _ rfl
    exact ⟨0, fun _ => 0, rfl, Nat.zero_le _, q1, q2, fun r h => absurd rfl h, q3, q4, q5, q6⟩
  case round =>
    obtain ⟨k, f, rfl, hk, hcomb, hcomp, HF, hc1, hc3, hsz, hg⟩ := hrel
    by_cases hlt : k < N
    · obtain rfl := s0.addr (by omega)
      obtain rfl := s1.addr (by omega)
      have r0 := (s0.row.kept hg (by simp) k (by omega)).1
      have r1 := (s1.row.kept hg (by simp) k (by omega)).1
      obtain ⟨w1, hup, hcomb1, hg1⟩ := hcomb.drew.store (by unfold maxLen; omega) (s0.wf k (by omega)) (s1.wf k (by omega))
      generalize hx : F0 k = x at *
      generalize hy : F1 k = y at *
      have HX : Hid (F0 k = x) := hx
      clear hx hy
      go_wp2
      go_region
      all_goals
        go_wp2
        go_roundw
        case rel =>
          exact ⟨k + 1, _, by go_num, by omega, hcomb1, hcomp.drew.kept hg1 (by simp), f_next (by omega) HX.out HF.out, hg1.cell (w := wr.drew) (by exact hc1) (by simp; omega), hg1.cell (w := wr.drew) (by exact hc3) (by simp; omega), Nat.lt_of_lt_of_le hsz hg1.size, (hg.trans (rw.grown_drew _ _)).andThen hg1 (by simp)⟩
        case measure => simp [intOf]; omega
    · have hkN : k = N := by omega
      subst hkN
      have hcm0 : Comb wr w.heap.size k f := hcomb
      clear hlt
      go_wp2
      go_loopw [15] (fun iv wr => ∃ (i : Nat) (g : Int → Int → Option Int), iv = .int .i64 i ∧ i ≤ M ∧ Comb wr w.heap.size k f ∧ Comp wr (w.heap.size + 1) i g ∧ Hid (∀ p q, g p q ≠ none → ∃ j, j < n2 ∧ j < n3 ∧ j < n4 ∧ p = F2 j)
          ∧ wr.cell? ⟨w.heap.size + 1 + 1 + 1 + 1, 1, none⟩ = some (.map (some w.heap.size)) ∧ wr.cell? ⟨w.heap.size + 1 + 1 + 1 + 1, 3, none⟩ = some (.map (some (w.heap.size + 1))) ∧ w.heap.size + 1 + 1 + 1 + 1 < wr.heap.size ∧ w.grownBy wr none) (fun iv _ => M - (intOf iv).toNat)
      case atStart => exact ⟨0, _, rfl, Nat.zero_le _, hcomb, hcomp, fun p q h => absurd rfl h, hc1, hc3, hsz, hg⟩
      case round =>
        clear hcomb hcomp hc1 hc3 hsz hg hcm0
        obtain ⟨i, g, rfl, hi, hcomb, hcomp, HG, hc1, hc3, hsz, hg⟩ := hrel
        by_cases hlt : i < M
        · obtain rfl := s2.addr (by omega)
          obtain rfl := s3.addr (by omega)
          obtain rfl := s4.addr (by omega)
          have r2 := (s2.row.kept hg (by simp) i (by omega)).1
          have r3 := (s3.row.kept hg (by simp) i (by omega)).1
          have r4 := (s4.row.kept hg (by simp) i (by omega)).1
          obtain ⟨w1, hup, hcomp1, hg1⟩ := hcomp.drew.store (by unfold maxLen; omega) (s2.wf i (by omega)) (s3.wf i (by omega)) (s4.wf i (by omega))
          generalize hx : F2 i = x at *
          generalize hy : F3 i = y at *
          generalize hz : F4 i = z at *
          have HX : Hid (F2 i = x) := hx
          clear hx hy hz
          go_wp2
          go_region
          all_goals
            go_wp2
            go_roundw
            case rel =>
              exact ⟨i + 1, _, by go_num, by omega, hcomb.drew.kept hg1 (by simp), hcomp1, g_next (by omega) (by omega) (by omega) HX.out HG.out, hg1.cell (w := wr.drew) (by exact hc1) (by simp; omega), hg1.cell (w := wr.drew) (by exact hc3) (by simp; omega), Nat.lt_of_lt_of_le hsz hg1.size, (hg.trans (rw.grown_drew _ _)).andThen hg1 (by simp)⟩
            case measure => simp [intOf]; omega
        · go_wp2
          go_ret
          exact ⟨_, _, _, _, _, f, g, rfl, hcomb, hcomp, hc1, hc3, by omega, by omega, by omega, by omega, by omega, by omega, HF.out, HG.out, hg⟩
end Go.Proofs.Qxb6000886a.tb
