import Derived.Test.Qxb6000886aTb
namespace Go.Proofs.Qxb6000886a.tb
theorem Sl.kept {q : IntKind} {w w' : World} {a : Option Addr} {n b : Nat} {F : Nat → Int} {row : Option Nat} (h : Sl q w a n b F) (hg : w.grownBy w' row) (hne : some b ≠ row) : Sl q w' a n b F :=
  ⟨h.addr, h.row.kept hg hne, h.wf, h.le⟩
end Go.Proofs.Qxb6000886a.tb

namespace Go.Proofs.Qxb6000886a.cl
open Go.RowKit
open Go.Proofs.Qxb6000886a.rw (Row updN)
open Go.Proofs.Qxb6000886a.tb (Sl)
set_option linter.unusedVariables false
set_option linter.unusedSimpArgs false

/-- a slice of integers, read: n cells from offset off of block b on -/
structure Rd (q : IntKind) (w : World) (a : Option Addr) (n b off : Nat) (F : Nat → Int) : Prop where
  addr : 0 < n → a = some ⟨b, off, none⟩
  cell : ∀ j, j < n → w.cell? ⟨b, off + j, none⟩ = some (.int q (F j))
  wf : ∀ j, j < n → (Lit.int q (F j)).wf = true

theorem Rd.kept {q : IntKind} {w w' : World} {a : Option Addr} {n b off : Nat} {F : Nat → Int} (h : Rd q w a n b off F) (hg : w.grownBy w' none) : Rd q w' a n b off F :=
  ⟨h.addr, fun j hj => hg.cell (h.cell j hj) (by simp), h.wf⟩

theorem Rd.of_sl {q : IntKind} {w : World} {a : Option Addr} {n b : Nat} {F : Nat → Int} (h : Sl q w a n b F) : Rd q w a n b 0 F :=
  ⟨h.addr, fun j hj => by rw [Nat.zero_add]; exact (h.row j hj).1, h.wf⟩

theorem row_cells {w : World} {sb : Nat} {cs : Array Value} {t : TypeId} {n : Nat} {F : Nat → Int} {q : IntKind} (hb : w.heap[sb]? = some (.cells cs t)) (h : ∀ j, j < n → cs[j]? = some (.int q (F j))) : Row q w sb n F := fun j hj => by
  have hj' := h j hj
  constructor
  · unfold World.cell?; simp only [hb]; simpa using hj'
  · unfold World.frozen?; simp only [hb]; simp

theorem made_row (q : IntKind) (w : World) (n : Nat) (t : TypeId) : Row q (w.alloc (.cells (madeCells #[.int q 0] n) t)) w.heap.size n (fun _ => 0) :=
  row_cells (MapKept.heap_alloc w _).1 (fun j hj => by simp [madeCells, hj, Nat.mod_one])

/-- what a clone is: nil, or a row of its own -/
def Cloned (q : IntKind) (w : World) (n : Nat) (F : Nat → Int) (e : Ending) (w' : World) : Prop :=
  ∃ a' c' b', e = .returned (.slice a' n c') ∧ Sl q w' a' n b' F ∧ ((a' = none ∧ n = 0 ∧ c' = 0) ∨ (a' = some ⟨b', 0, none⟩ ∧ c' = n ∧ b' < w'.heap.size)) ∧ w.heap.size ≤ b' ∧ w.grownBy w' none

theorem info21 : (Try.prog.info? 21).map (fun i => (i.zero, i.size, i.bytes)) = some (some (.int .i32 0), 1, 4) := by kernel_rfl

theorem make22 (n : Nat) (hn : n ≤ 1048576) (w : World) : ∃ W, (Instr.makeSlice 22 (.int .i64 (n : Int)) (.int .i64 (n : Int))).run Try.prog w = .ok (.slice (some ⟨w.heap.size, 0, none⟩) n n) W ∧ Row .i32 W w.heap.size n (fun _ => 0) ∧ w.grownBy W none ∧ w.heap.size < W.heap.size := by
  obtain ⟨i, hi, hzz⟩ := Option.map_eq_some_iff.1 info21
  simp only [Prod.mk.injEq] at hzz
  obtain ⟨hz, hs, hb⟩ := hzz
  have hr := run_make (P := Try.prog) w 22 21 i _ Try.underlying22 hi hz .i64 .i64 (n : Int) (n : Int) (by omega) (Int.le_refl _) (by rw [hb]; omega) (by omega)
  simp only [Int.toNat_natCast, hs, Nat.mul_one] at hr
  exact ⟨_, hr, made_row .i32 w n 21, World.grownBy_alloc _ _ _, by simp⟩

set_option maxHeartbeats 1000000 in
theorem clone11 (a : Option Addr) (n c b off : Nat) (F : Nat → Int) (w : World) (hn : n ≤ 1048576) (hnil : a = none → n = 0) (h : Rd .i32 w a n b off F) :
    Calls Try.prog 11 #[.slice a n c] w fun e w' => Cloned .i32 w n F e w' := by
  have hq := fun (w : World) => Lib.run_eql_slice_nil (P := Try.prog) w 22 21 a n c 0 0 Try.underlying22
  cases a with
  | none =>
    obtain rfl := hnil rfl
    go_enter Try.func11, Try.ntmps11
    go_wp2
    go_ret
    exact ⟨none, 0, w.heap.size, rfl, ⟨fun h => absurd h (Nat.lt_irrefl _), fun j hj => absurd hj (Nat.not_lt_zero _), fun j hj => absurd hj (Nat.not_lt_zero _), by omega⟩, Or.inl ⟨rfl, rfl, rfl⟩, Nat.le_refl _, World.grownBy.refl _ _⟩
  | some ad =>
    obtain ⟨W, hmk, hrow, hgW, hsW⟩ := make22 n hn w
    go_enter Try.func11, Try.ntmps11
    go_wp2
    clear hmk hq
    go_loopw [4] (fun iv wr => ∃ (k : Nat) (G : Nat → Int), iv = .int .i64 k ∧ k ≤ n ∧ Row .i32 wr w.heap.size n G ∧ Hid (∀ j, j < k → G j = F j) ∧ w.grownBy wr none ∧ w.heap.size < wr.heap.size) (fun iv _ => n - (intOf iv).toNat)
    case atStart => exact ⟨0, _, rfl, Nat.zero_le _, hrow, fun j hj => absurd hj (Nat.not_lt_zero _), hgW, hsW⟩
    case round =>
      clear hrow hgW hsW
      obtain ⟨k, G, rfl, hk, hrow, HG, hg, hsz⟩ := hrel
      by_cases hlt : k < n
      · have had := h.addr (by omega)
        simp only [Option.some.injEq] at had
        subst had
        have hc := hg.cell (h.cell k hlt) (by simp)
        have hh := hrow k hlt
        have hh1 := hh.1
        have hh2 := hh.2
        clear hh
        go_wp2
        go_roundw
        case rel =>
          refine ⟨k + 1, updN G k (F k), by go_num, by omega, hrow.set hlt (F k), ?_, hg.andThen (rw.grown_setCell wr w.heap.size k (.int .i32 (F k))) (fun j hj => by cases hj; exact Or.inl (Nat.le_refl _)), by simpa [World.setCell] using hsz⟩
          intro j hj
          unfold rw.updN
          by_cases e : j = k
          · rw [if_pos e, e]
          · rw [if_neg e]; exact HG.out j (by omega)
        case measure => simp [intOf]; omega
      · have hkn : k = n := by omega
        subst hkn
        go_wp2
        go_ret
        exact ⟨_, _, w.heap.size, rfl, ⟨fun _ => rfl, fun j hj => by rw [← HG.out j hj]; exact hrow j hj, h.wf, hn⟩, Or.inr ⟨rfl, rfl, hsz⟩, Nat.le_refl _, hg⟩
theorem info5 : (Try.prog.info? 5).map (fun i => (i.zero, i.size, i.bytes)) = some (some (.int .u8 0), 1, 1) := by kernel_rfl

theorem make46 (n : Nat) (hn : n ≤ 1048576) (w : World) : ∃ W, (Instr.makeSlice 46 (.int .i64 (n : Int)) (.int .i64 (n : Int))).run Try.prog w = .ok (.slice (some ⟨w.heap.size, 0, none⟩) n n) W ∧ Row .u8 W w.heap.size n (fun _ => 0) ∧ w.grownBy W none ∧ w.heap.size < W.heap.size := by
  obtain ⟨i, hi, hzz⟩ := Option.map_eq_some_iff.1 info5
  simp only [Prod.mk.injEq] at hzz
  obtain ⟨hz, hs, hb⟩ := hzz
  have hr := run_make (P := Try.prog) w 46 5 i _ Try.underlying46 hi hz .i64 .i64 (n : Int) (n : Int) (by omega) (Int.le_refl _) (by rw [hb]; omega) (by omega)
  simp only [Int.toNat_natCast, hs, Nat.mul_one] at hr
  exact ⟨_, hr, made_row .u8 w n 5, World.grownBy_alloc _ _ _, by simp⟩

set_option maxHeartbeats 1000000 in
theorem clone29 (a : Option Addr) (n c b off : Nat) (F : Nat → Int) (w : World) (hn : n ≤ 1048576) (hnil : a = none → n = 0) (h : Rd .u8 w a n b off F) :
    Calls Try.prog 29 #[.slice a n c] w fun e w' => Cloned .u8 w n F e w' := by
  have hq := fun (w : World) => Lib.run_eql_slice_nil (P := Try.prog) w 46 5 a n c 0 0 Try.underlying46
  cases a with
  | none =>
    obtain rfl := hnil rfl
    go_enter Try.func29, Try.ntmps29
    go_wp2
    go_ret
    exact ⟨none, 0, w.heap.size, rfl, ⟨fun h => absurd h (Nat.lt_irrefl _), fun j hj => absurd hj (Nat.not_lt_zero _), fun j hj => absurd hj (Nat.not_lt_zero _), by omega⟩, Or.inl ⟨rfl, rfl, rfl⟩, Nat.le_refl _, World.grownBy.refl _ _⟩
  | some ad =>
    obtain ⟨W, hmk, hrow, hgW, hsW⟩ := make46 n hn w
    go_enter Try.func29, Try.ntmps29
    go_wp2
    clear hmk hq
    go_loopw [4] (fun iv wr => ∃ (k : Nat) (G : Nat → Int), iv = .int .i64 k ∧ k ≤ n ∧ Row .u8 wr w.heap.size n G ∧ Hid (∀ j, j < k → G j = F j) ∧ w.grownBy wr none ∧ w.heap.size < wr.heap.size) (fun iv _ => n - (intOf iv).toNat)
    case atStart => exact ⟨0, _, rfl, Nat.zero_le _, hrow, fun j hj => absurd hj (Nat.not_lt_zero _), hgW, hsW⟩
    case round =>
      clear hrow hgW hsW
      obtain ⟨k, G, rfl, hk, hrow, HG, hg, hsz⟩ := hrel
      by_cases hlt : k < n
      · have had := h.addr (by omega)
        simp only [Option.some.injEq] at had
        subst had
        have hc := hg.cell (h.cell k hlt) (by simp)
        have hh := hrow k hlt
        have hh1 := hh.1
        have hh2 := hh.2
        clear hh
        go_wp2
        go_roundw
        case rel =>
          refine ⟨k + 1, updN G k (F k), by go_num, by omega, hrow.set hlt (F k), ?_, hg.andThen (rw.grown_setCell wr w.heap.size k (.int .u8 (F k))) (fun j hj => by cases hj; exact Or.inl (Nat.le_refl _)), by simpa [World.setCell] using hsz⟩
          intro j hj
          unfold rw.updN
          by_cases e : j = k
          · rw [if_pos e, e]
          · rw [if_neg e]; exact HG.out j (by omega)
        case measure => simp [intOf]; omega
      · have hkn : k = n := by omega
        subst hkn
        go_wp2
        go_ret
        exact ⟨_, _, w.heap.size, rfl, ⟨fun _ => rfl, fun j hj => by rw [← HG.out j hj]; exact hrow j hj, h.wf, hn⟩, Or.inr ⟨rfl, rfl, hsz⟩, Nat.le_refl _, hg⟩
end Go.Proofs.Qxb6000886a.cl
