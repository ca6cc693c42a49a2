import Derived.Test.Qxb6000886aMsb
namespace Go.Proofs.Qxb6000886a.msc
open Go.RowKit
open Go.Proofs.Qxb6000886a.mp (W32 W8)
open Go.Proofs.Qxb6000886a.rw (Row)
open Go.Proofs.Qxb6000886a.tb (Sl)
open Go.Proofs.Qxb6000886a.cl (Rd)
open Go.Proofs.Qxb6000886a.msb (RdV all_next)
set_option linter.unusedVariables false
set_option linter.unusedSimpArgs false

/-- n cells of block sb hold the values V 0, V 1, ..; none is frozen -/
def RowV (w : World) (sb n : Nat) (V : Nat → Value) : Prop := ∀ j, j < n → w.cell? ⟨sb, j, none⟩ = some (V j) ∧ w.frozen? ⟨sb, j, none⟩ = false
def updV (V : Nat → Value) (m : Nat) (r : Value) : Nat → Value := fun j => if j = m then r else V j

theorem RowV.kept {w w' : World} {sb n : Nat} {V : Nat → Value} {row : Option Nat} (h : RowV w sb n V) (hg : w.grownBy w' row) (hne : some sb ≠ row) : RowV w' sb n V := fun j hj => by
  have hb := hg.block sb (World.block_lt_of_cell? _ _ (h j hj).1) hne
  exact ⟨(World.cell?_of_block (w := w) (a := ⟨sb, j, none⟩) hb).trans (h j hj).1, (World.frozen?_of_block (w := w) (a := ⟨sb, j, none⟩) hb).trans (h j hj).2⟩

theorem RowV.set {w : World} {sb n : Nat} {V : Nat → Value} (h : RowV w sb n V) {m : Nat} (hm : m < n) (r : Value) : RowV (w.setCell ⟨sb, m, none⟩ r) sb n (updV V m r) := fun j hj => by
  refine ⟨?_, by rw [World.frozen?_setCell]; exact (h j hj).2⟩
  unfold updV
  by_cases e : j = m
  · subst e
    rw [if_pos rfl]
    exact World.cell?_setCell_same _ _ _ (h j hj).1
  · rw [if_neg e]
    have hne : (⟨sb, m, none⟩ : Addr) ≠ ⟨sb, j, none⟩ := by intro he; apply e; simpa using he.symm
    exact (World.cell?_setCell_other (h := hne) ..).trans (h j hj).1

theorem rowV_cells {w : World} {sb : Nat} {cs : Array Value} {t : TypeId} {n : Nat} {V : Nat → Value} (hb : w.heap[sb]? = some (.cells cs t)) (h : ∀ j, j < n → cs[j]? = some (V j)) : RowV w sb n V := fun j hj => by
  have hj' := h j hj
  constructor
  · unfold World.cell?; simp only [hb]; simpa using hj'
  · unfold World.frozen?; simp only [hb]; simp

theorem made_rowV (z : Value) (w : World) (n : Nat) (t : TypeId) : RowV (w.alloc (.cells (madeCells #[z] n) t)) w.heap.size n (fun _ => z) :=
  rowV_cells (MapKept.heap_alloc w _).1 (fun j hj => by simp [madeCells, hj, Nat.mod_one])

/-- a slice of strings at its block's head -/
structure SlS (w : World) (a : Option Addr) (n b : Nat) (S : Nat → ByteArray) : Prop where
  addr : 0 < n → a = some ⟨b, 0, none⟩
  row : ∀ j, j < n → w.cell? ⟨b, j, none⟩ = some (.string (S j))

theorem SlS.kept {w w' : World} {a : Option Addr} {n b : Nat} {S : Nat → ByteArray} (h : SlS w a n b S) (hg : w.grownBy w' none) : SlS w' a n b S := ⟨h.addr, fun j hj => hg.cell (h.row j hj) (by simp)⟩

/-- an element of a slice of slices: nil or at its block's head -/
def RS (w : World) (h j n : Nat) (X : Nat → Int) : Prop := ∃ a c b, w.cell? ⟨h, j, none⟩ = some (.slice a n c) ∧ Sl .i32 w a n b X ∧ b ≠ h

structure SlSl (w : World) (a : Option Addr) (n b : Nat) (L : Nat → Nat) (X : Nat → Nat → Int) : Prop where
  addr : 0 < n → a = some ⟨b, 0, none⟩
  row : ∀ j, j < n → RS w b j (L j) (X j)

theorem RS.kept {w w' : World} {h j n : Nat} {X : Nat → Int} (r : RS w h j n X) (hg : w.grownBy w' none) : RS w' h j n X := by
  obtain ⟨a, c, b, h1, h2, h3⟩ := r
  exact ⟨a, c, b, hg.cell h1 (by simp), h2.kept hg (by simp), h3⟩

theorem SlSl.kept {w w' : World} {a : Option Addr} {n b : Nat} {L : Nat → Nat} {X : Nat → Nat → Int} (h : SlSl w a n b L X) (hg : w.grownBy w' none) : SlSl w' a n b L X := ⟨h.addr, fun j hj => (h.row j hj).kept hg⟩

theorem info9 : (Try.prog.info? 9).map (fun i => (i.zero, i.size, i.bytes)) = some (some (.string ⟨#[]⟩), 1, 16) := by kernel_rfl
theorem info22 : (Try.prog.info? 22).map (fun i => (i.zero, i.size, i.bytes)) = some (some (.slice none 0 0), 1, 24) := by kernel_rfl

theorem make23 (n : Nat) (hn : n ≤ 1048576) (w : World) : ∃ W V, (Instr.makeSlice 23 (.int .i64 (n : Int)) (.int .i64 (n : Int))).run Try.prog w = .ok (.slice (some ⟨w.heap.size, 0, none⟩) n n) W ∧ RowV W w.heap.size n V ∧ w.grownBy W none ∧ w.heap.size < W.heap.size := by
  obtain ⟨i, hi, hzz⟩ := Option.map_eq_some_iff.1 info9
  simp only [Prod.mk.injEq] at hzz
  obtain ⟨hz, hs, hb⟩ := hzz
  have hr := run_make (P := Try.prog) w 23 9 i _ Try.underlying23 hi hz .i64 .i64 (n : Int) (n : Int) (by omega) (Int.le_refl _) (by rw [hb]; omega) (by omega)
  simp only [Int.toNat_natCast, hs, Nat.mul_one] at hr
  exact ⟨_, _, hr, made_rowV _ w n 9, World.grownBy_alloc _ _ _, by simp⟩

theorem make24 (n : Nat) (hn : n ≤ 1048576) (w : World) : ∃ W V, (Instr.makeSlice 24 (.int .i64 (n : Int)) (.int .i64 (n : Int))).run Try.prog w = .ok (.slice (some ⟨w.heap.size, 0, none⟩) n n) W ∧ RowV W w.heap.size n V ∧ w.grownBy W none ∧ w.heap.size < W.heap.size := by
  obtain ⟨i, hi, hzz⟩ := Option.map_eq_some_iff.1 info22
  simp only [Prod.mk.injEq] at hzz
  obtain ⟨hz, hs, hb⟩ := hzz
  have hr := run_make (P := Try.prog) w 24 22 i _ Try.underlying24 hi hz .i64 .i64 (n : Int) (n : Int) (by omega) (Int.le_refl _) (by rw [hb]; omega) (by omega)
  simp only [Int.toNat_natCast, hs, Nat.mul_one] at hr
  exact ⟨_, _, hr, made_rowV _ w n 22, World.grownBy_alloc _ _ _, by simp⟩

def ClonedS (w : World) (n : Nat) (S : Nat → ByteArray) (e : Ending) (w' : World) : Prop :=
  ∃ a' c' b', e = .returned (.slice a' n c') ∧ SlS w' a' n b' S ∧ w.grownBy w' none

set_option maxHeartbeats 1000000 in
theorem clone12 (a : Option Addr) (n c b off : Nat) (S : Nat → ByteArray) (w : World) (hn : n ≤ 1048576) (hnil : a = none → n = 0) (h : RdV w a n b off (fun j => .string (S j))) :
    Calls Try.prog 12 #[.slice a n c] w fun e w' => ClonedS w n S e w' := by
  have hq := fun (w : World) => Lib.run_eql_slice_nil (P := Try.prog) w 23 9 a n c 0 0 Try.underlying23
  cases a with
  | none =>
    obtain rfl := hnil rfl
    go_enter Try.func12, Try.ntmps12
    go_wp2
    go_ret
    exact ⟨none, 0, w.heap.size, rfl, ⟨fun h => absurd h (Nat.lt_irrefl _), fun j hj => absurd hj (Nat.not_lt_zero _)⟩, World.grownBy.refl _ _⟩
  | some ad =>
    obtain ⟨W, V0, hmk, hrow, hgW, hsW⟩ := make23 n hn w
    go_enter Try.func12, Try.ntmps12
    go_wp2
    clear hmk hq
    go_loopw [4] (fun iv wr => ∃ (k : Nat) (V : Nat → Value), iv = .int .i64 k ∧ k ≤ n ∧ RowV wr w.heap.size n V ∧ Hid (∀ j, j < k → V j = .string (S j)) ∧ w.grownBy wr none) (fun iv _ => n - (intOf iv).toNat)
    case atStart => exact ⟨0, _, rfl, Nat.zero_le _, hrow, fun j hj => absurd hj (Nat.not_lt_zero _), hgW⟩
    case round =>
      clear hrow hgW hsW
      obtain ⟨k, V, rfl, hk, hrow, HG, hg⟩ := hrel
      by_cases hlt : k < n
      · have had := h.addr (by omega)
        simp only [Option.some.injEq] at had
        subst had
        have hc := hg.cell (h.cell k hlt) (by simp)
        have hh := hrow k hlt
        have hh1 := hh.1
        have hh2 := hh.2
        clear hh
        go_wp2
        go_roundw
        case rel =>
          refine ⟨k + 1, updV V k (.string (S k)), by go_num, by omega, hrow.set hlt _, all_next (fun j hj => ?_) ?_, hg.andThen (rw.grown_setCell wr w.heap.size k (.string (S k))) (fun j hj => by cases hj; exact Or.inl (Nat.le_refl _))⟩
          · unfold updV
            rw [if_neg (by omega)]; exact HG.out j hj
          · unfold updV
            rw [if_pos rfl]
        case measure => simp [intOf]; omega
      · have hkn : k = n := by omega
        subst hkn
        go_wp2
        go_ret
        exact ⟨_, _, w.heap.size, rfl, ⟨fun _ => rfl, fun j hj => by rw [← HG.out j hj]; exact (hrow j hj).1⟩, hg⟩

def ClonedSl (w : World) (n : Nat) (L : Nat → Nat) (X : Nat → Nat → Int) (e : Ending) (w' : World) : Prop :=
  ∃ a' c' b', e = .returned (.slice a' n c') ∧ SlSl w' a' n b' L X ∧ w.grownBy w' none

set_option maxHeartbeats 2000000 in
theorem clone13 (a : Option Addr) (n c b off : Nat) (A : Nat → Option Addr) (L C B O : Nat → Nat) (X : Nat → Nat → Int) (w : World) (hn : n ≤ 1048576) (hnil : a = none → n = 0) (h : RdV w a n b off (fun j => .slice (A j) (L j) (C j)))
    (hL : ∀ j, j < n → L j ≤ 1048576) (hX : ∀ j, j < n → Rd .i32 w (A j) (L j) (B j) (O j) (X j)) :
    Calls Try.prog 13 #[.slice a n c] w fun e w' => ClonedSl w n L X e w' := by
  have hq := fun (w : World) => Lib.run_eql_slice_nil (P := Try.prog) w 24 22 a n c 0 0 Try.underlying24
  cases a with
  | none =>
    obtain rfl := hnil rfl
    go_enter Try.func13, Try.ntmps13
    go_wp2
    go_ret
    exact ⟨none, 0, w.heap.size, rfl, ⟨fun h => absurd h (Nat.lt_irrefl _), fun j hj => absurd hj (Nat.not_lt_zero _)⟩, World.grownBy.refl _ _⟩
  | some ad =>
    obtain ⟨W, V0, hmk, hrow, hgW, hsW⟩ := make24 n hn w
    have HLL : Hid (∀ j, j < n → L j ≤ 1048576) := hL
    clear hL
    go_enter Try.func13, Try.ntmps13
    go_wp2
    clear hmk hq
    go_loopw [4] (fun iv wr => ∃ (k : Nat) (V : Nat → Value), iv = .int .i64 k ∧ k ≤ n ∧ RowV wr w.heap.size n V ∧ Hid (∀ j, j < k → RS wr w.heap.size j (L j) (X j)) ∧ w.grownBy wr none ∧ w.heap.size < wr.heap.size) (fun iv _ => n - (intOf iv).toNat)
    case atStart => exact ⟨0, _, rfl, Nat.zero_le _, hrow, fun j hj => absurd hj (Nat.not_lt_zero _), hgW, hsW⟩
    case round =>
      clear hrow hgW hsW
      obtain ⟨k, V, rfl, hk, hrow, HG, hg, hsz⟩ := hrel
      by_cases hlt : k < n
      · have had := h.addr (by omega)
        simp only [Option.some.injEq] at had
        subst had
        have hc := hg.cell (h.cell k hlt) (by simp)
        have hrd := (hX k hlt).kept hg
        have hLk := HLL.out k hlt
        generalize hAA : A k = aa at hc hrd
        generalize hll : L k = ll at hc hrd hLk
        generalize hcc : C k = cc at hc
        have HLk : Hid (L k = ll) := hll
        clear hAA hll hcc
        go_wp2_with fail
        refine (cl.clone11 aa ll cc (B k) (O k) (X k) wr hLk (shr.nil_of hrd) hrd).mono ?_
        rintro e w1 ⟨a1, c1, b1, rfl, s1, q1, e1, g1⟩
        have hrow1 := hrow.kept g1 (by simp)
        have hh1 := (hrow1 k hlt).1
        have hh2 := (hrow1 k hlt).2
        go_wp2
        go_roundw
        case rel =>
          have gs := rw.grown_setCell w1 w.heap.size k (.slice a1 ll c1)
          refine ⟨k + 1, updV V k (.slice a1 ll c1), by go_num, by omega, hrow1.set hlt _, all_next (fun j hj => ?_) ?_, (hg.trans g1).andThen gs (fun j hj => by cases hj; exact Or.inl (Nat.le_refl _)), by have := g1.size; simp [World.setCell]; omega⟩
          · obtain ⟨a2, c2, b2, i1, i2, i3⟩ := (HG.out j hj).kept g1
            have hne : (⟨w.heap.size, k, none⟩ : Addr) ≠ ⟨w.heap.size, j, none⟩ := by intro he; have := congrArg Addr.off he; simp only at this; omega
            exact ⟨a2, c2, b2, (World.cell?_setCell_other (h := hne) ..).trans i1, i2.kept gs (by simpa using i3), i3⟩
          · rw [HLk.out]
            have hb1 : b1 ≠ w.heap.size := by omega
            exact ⟨a1, c1, b1, World.cell?_setCell_same _ _ _ hh1, s1.kept gs (by simpa using hb1), hb1⟩
        case measure => simp [intOf]; omega
      · have hkn : k = n := by omega
        subst hkn
        go_wp2
        go_ret
        exact ⟨_, _, w.heap.size, rfl, ⟨fun _ => rfl, HG.out⟩, hg⟩
end Go.Proofs.Qxb6000886a.msc
