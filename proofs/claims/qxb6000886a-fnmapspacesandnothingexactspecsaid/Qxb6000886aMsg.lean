import Derived.Test.Qxb6000886aMsf
namespace Go.Proofs.Qxb6000886a.msg
open Go.RowKit
open Go.Proofs.Qxb6000886a.mp (W32 W8)
open Go.Proofs.Qxb6000886a.rw (Row updN)
open Go.Proofs.Qxb6000886a.tb (Sl)
open Go.Proofs.Qxb6000886a.cl (Rd)
open Go.Proofs.Qxb6000886a.msb (CatOk SelOk RdV RelB)
open Go.Proofs.Qxb6000886a.msc (RowV updV SlS SlSl RS)
open Go.Proofs.Qxb6000886a.msd (MapS Put updO)
open Go.Proofs.Qxb6000886a.mse (CatRow SelRow selF fiveF catF)
set_option linter.unusedVariables false
set_option linter.unusedSimpArgs false

theorem info64 : (Try.prog.info? 64).map (fun i => (i.zero, i.size, i.bytes)) = some (some (.agg #[.int .i32 0, .int .i32 0]), 2, 8) := by kernel_rfl

theorem make62 (n : Nat) (hn : n ≤ 1048576) (w : World) : ∃ W V, (Instr.makeSlice 62 (.int .i64 (n : Int)) (.int .i64 (n : Int))).run Try.prog w = .ok (.slice (some ⟨w.heap.size, 0, none⟩) n n) W ∧ RowV W w.heap.size (n * 2) V ∧ w.grownBy W none ∧ w.heap.size < W.heap.size := by
  obtain ⟨i, hi, hzz⟩ := Option.map_eq_some_iff.1 info64
  simp only [Prod.mk.injEq] at hzz
  obtain ⟨hz, hs, hb⟩ := hzz
  have hr := run_make (P := Try.prog) w 62 64 i _ Try.underlying62 hi hz .i64 .i64 (n : Int) (n : Int) (by omega) (Int.le_refl _) (by rw [hb]; omega) (by omega)
  simp only [Int.toNat_natCast, hs] at hr
  refine ⟨_, fun j => #[Value.int .i32 0, .int .i32 0][j % 2]!, hr, ?_, World.grownBy_alloc _ _ _, by simp⟩
  exact msc.rowV_cells (MapKept.heap_alloc w _).1 (fun j hj => by simp [madeCells, hj, Value.cells])

theorem upd2_new (V : Nat → Value) (k : Nat) (x y : Value) : updV (updV V (k * 2) x) (k * 2 + 1) y (k * 2) = x ∧ updV (updV V (k * 2) x) (k * 2 + 1) y (k * 2 + 1) = y := by
  unfold msc.updV
  refine ⟨?_, ?_⟩
  · rw [if_neg (by omega), if_pos rfl]
  · rw [if_pos rfl]

theorem upd2_old (V : Nat → Value) (k : Nat) (x y : Value) (j : Nat) (hj : j < k) : updV (updV V (k * 2) x) (k * 2 + 1) y (j * 2) = V (j * 2) ∧ updV (updV V (k * 2) x) (k * 2 + 1) y (j * 2 + 1) = V (j * 2 + 1) := by
  unfold msc.updV
  refine ⟨?_, ?_⟩
  · rw [if_neg (by omega), if_neg (by omega)]
  · rw [if_neg (by omega), if_neg (by omega)]

def Mapped (w : World) (mb K : Nat) (P Q : Nat → Int) (g2 : Int → Option (List Int)) (e : Ending) (w' : World) : Prop :=
  e = .returned (.tuple #[]) ∧ (∃ cnt', MapS w' mb cnt' (selF P Q g2 K)) ∧ w.grownBy w' (some mb)

set_option maxRecDepth 100000 in
set_option maxHeartbeats 4000000 in
theorem zmap15 (tb mb cb N K cnt : Nat) (a a' : Option Addr) (n n' c c' b b' : Nat) (S : Nat → ByteArray) (F G P Q : Nat → Int) (g : Int → Option (List Int)) (w : World) (hK : K = min n n')
    (hN : N ≤ 4096) (ln : n ≤ 4096) (hcnt : cnt ≤ 4096) (hS : MapS w mb cnt g) (hc0 : w.cell? ⟨tb, 0, none⟩ = some (.slice (some ⟨cb, 0, none⟩) N N)) (hc4 : w.cell? ⟨tb, 4, none⟩ = some (.map (some mb)))
    (hcat : CatRow w cb N S F G) (s : Sl .i32 w a n b P) (s' : Sl .i32 w a' n' b' Q) (h1 : tb ≠ mb) (h2 : cb ≠ mb) (hF : ∀ j, j < N → W32 (F j)) (hG : ∀ j, j < N → W32 (G j))
    (hcats : ∀ j, j < N → CatOk S F G j) (hsels : ∀ j, j < K → SelOk P Q j) :
    Calls Try.prog 15 #[.pointer (some ⟨tb, 0, none⟩), .slice a n c, .slice a' n' c'] w (Mapped w mb K P Q (fiveF (updO (catF S F G g N) 133 [32]) 5)) := by
  have l' := s'.le
  have hC := msf.min_if n n'
  have hK' : ((min n n' : Nat) : Int) = (K : Int) := by rw [hK]
  rw [hK'] at hC
  have hKn : K ≤ n := by omega
  have hKn' : K ≤ n' := by omega
  clear hK hK'
  have HCATS : Hid (∀ j, j < N → CatOk S F G j) := hcats
  have HSELS : Hid (∀ j, j < K → SelOk P Q j) := hsels
  have HF : Hid (∀ j, j < N → W32 (F j)) := hF
  have HG : Hid (∀ j, j < N → W32 (G j)) := hG
  clear hcats hsels hF hG
  obtain ⟨W, V0, hmk, hrow, hgW, hsW⟩ := make62 K (by omega) w
  go_enter Try.func15, Try.ntmps15
  go_wp2
  clear hmk
  go_loopw [8] (fun iv wr => ∃ (k : Nat) (V : Nat → Value), iv = .int .i64 k ∧ k ≤ K ∧ RowV wr w.heap.size (K * 2) V ∧ Hid (∀ j, j < k → V (j * 2) = .int .i32 (P j) ∧ V (j * 2 + 1) = .int .i32 (Q j)) ∧ w.grownBy wr none ∧ w.heap.size < wr.heap.size) (fun iv _ => K - (intOf iv).toNat)
  case atStart => exact ⟨0, V0, rfl, Nat.zero_le _, hrow, fun j hj => absurd hj (Nat.not_lt_zero _), hgW, hsW⟩
  case round =>
    clear hrow hgW hsW
    obtain ⟨k, V, rfl, hk, hrow, HV, hg, hsz⟩ := hrel
    rename World => wq
    by_cases hlt : k < K
    · obtain rfl := s.addr (by omega)
      obtain rfl := s'.addr (by omega)
      have r0 := (s.row.kept hg (by simp) k (by omega)).1
      have r1 := (s'.row.kept hg (by simp) k (by omega)).1
      have q0 := hrow (k * 2) (by omega)
      have q1 := hrow (k * 2 + 1) (by omega)
      have q01 := q0.1
      have q02 := q0.2
      have q11 := q1.1
      have q12 := q1.2
      generalize hx : P k = x at r0
      generalize hy : Q k = y at r1
      have HX : Hid (P k = x) := hx
      have HY : Hid (Q k = y) := hy
      clear hx hy q0 q1
      go_wp2
      go_region
      all_goals
        go_wp2
        go_roundw
        case rel =>
          have gs : wq.grownBy ((wq.setCell ⟨w.heap.size, k * 2, none⟩ (.int .i32 x)).setCell ⟨w.heap.size, k * 2 + 1, none⟩ (.int .i32 y)) (some w.heap.size) := (rw.grown_setCell _ _ _ _).trans (rw.grown_setCell _ _ _ _)
          have hrow3 := (hrow.set (m := k * 2) (by omega) (.int .i32 x)).set (m := k * 2 + 1) (by omega) (.int .i32 y)
          refine ⟨k + 1, _, by go_num, by omega, hrow3, ?_, hg.andThen (gs.trans (rw.grown_drew _ _)) (fun j hj => by cases hj; exact Or.inl (Nat.le_refl _)), Nat.lt_of_lt_of_le hsz gs.size⟩
          refine msb.all_next (fun j hj => ?_) ?_
          · obtain ⟨v1, v2⟩ := HV.out j hj
            obtain ⟨e1, e2⟩ := upd2_old V k (.int .i32 x) (.int .i32 y) j hj
            exact ⟨e1.trans v1, e2.trans v2⟩
          · rw [HX.out, HY.out]
            exact upd2_new V k (.int .i32 x) (.int .i32 y)
        case measure => simp [intOf]; omega
    · have hkK : k = K := by omega
      subst hkK
      have hsel : SelRow wq w.heap.size k P Q := fun j hj => by
        obtain ⟨v1, v2⟩ := HV.out j hj
        exact ⟨v1 ▸ (hrow (j * 2) (by omega)).1, v2 ▸ (hrow (j * 2 + 1) (by omega)).1⟩
      have hmb := hS.lt
      go_wp2_with fail
      refine (mse.map35 tb mb cb w.heap.size N k cnt S F G P Q g wq hN (by omega) hcnt (hS.kept hg) (hg.cell hc0 (by simp)) (hg.cell hc4 (by simp)) (msf.cat_kept hcat hg (by simp)) hsel h1 h2 (by omega) HF.out HG.out (fun j hj => s.wf j (by omega)) (fun j hj => s'.wf j (by omega)) HCATS.out HSELS.out).mono ?_
      rintro e w2 ⟨rfl, hex, hg2⟩
      have HEX : Hid (∃ cnt', MapS w2 mb cnt' (selF P Q (fiveF (updO (catF S F G g N) 133 [32]) 5) k)) := hex
      clear hex
      go_wp2
      go_end0
      exact ⟨rfl, HEX.out, (hg.but (some mb)).trans hg2⟩
end Go.Proofs.Qxb6000886a.msg
