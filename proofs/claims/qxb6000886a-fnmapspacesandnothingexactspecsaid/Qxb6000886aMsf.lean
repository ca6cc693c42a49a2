import Derived.Test.Qxb6000886aMse
import Derived.Laws.IdiomCopy
namespace Go.Proofs.Qxb6000886a.msf
open Go.RowKit
open Go.Proofs.Qxb6000886a.mp (W32 W8)
open Go.Proofs.Qxb6000886a.rw (Row updN)
open Go.Proofs.Qxb6000886a.tb (Sl)
open Go.Proofs.Qxb6000886a.cl (Rd)
open Go.Proofs.Qxb6000886a.msc (RowV updV SlS SlSl RS)
open Go.Proofs.Qxb6000886a.msd (MapS Put updO)
open Go.Proofs.Qxb6000886a.mse (CatRow SelRow)
set_option linter.unusedVariables false
set_option linter.unusedSimpArgs false

/-! ### copy -/
theorem row_setCells (q : IntKind) (sb n : Nat) : ∀ (vs : List Int) (o : Nat) (w : World) (F : Nat → Int), Row q w sb n F → o + vs.length ≤ n → Row q (w.setCells sb o (vs.map (Value.int q))) sb n (fun j => if o ≤ j ∧ j < o + vs.length then vs.getD (j - o) 0 else F j)
  | [], o, w, F, h, _ => fun j hj => by
    have e : (if o ≤ j ∧ j < o + ([] : List Int).length then ([] : List Int).getD (j - o) 0 else F j) = F j := if_neg (by simp)
    show _ = some (Value.int q (if o ≤ j ∧ j < o + ([] : List Int).length then ([] : List Int).getD (j - o) 0 else F j)) ∧ _
    rw [e]
    exact h j hj
  | v :: r, o, w, F, h, hn => by
    simp only [List.length_cons] at hn
    have ih := row_setCells q sb n r (o + 1) (w.setCell ⟨sb, o, none⟩ (.int q v)) (updN F o v) (h.set (by omega) v) (by omega)
    intro j hj
    have h2 := ih j hj
    show ((w.setCell ⟨sb, o, none⟩ (.int q v)).setCells sb (o + 1) (r.map (Value.int q))).cell? _ = _ ∧ ((w.setCell ⟨sb, o, none⟩ (.int q v)).setCells sb (o + 1) (r.map (Value.int q))).frozen? _ = _
    refine ⟨h2.1.trans ?_, h2.2⟩
    congr 2
    simp only [List.length_cons]
    by_cases e : j = o
    · subst e
      rw [if_neg (by omega), if_pos (by omega)]
      unfold rw.updN
      rw [if_pos rfl, Nat.sub_self]
      rfl
    · by_cases h3 : o + 1 ≤ j ∧ j < o + 1 + r.length
      · rw [if_pos h3, if_pos (by omega)]
        have : j - o = (j - (o + 1)) + 1 := by omega
        rw [this]
        rfl
      · rw [if_neg h3, if_neg (by omega)]
        unfold rw.updN
        rw [if_neg e]

theorem grown_setCells (sb : Nat) : ∀ (vs : List Value) (o : Nat) (w : World), w.grownBy (w.setCells sb o vs) (some sb)
  | [], o, w => World.grownBy.refl _ _
  | v :: r, o, w => (rw.grown_setCell w sb o v).trans (grown_setCells sb r (o + 1) _)

theorem size21 : (Try.prog.info? 21).map (·.size) = some 1 := by kernel_rfl

/-- what the elements of a row are, as a list -/
def lst (n : Nat) (X : Nat → Int) : List Int := (List.range n).map X
theorem lst_len (n : Nat) (X : Nat → Int) : (lst n X).length = n := by simp [lst]
theorem lst_get (n : Nat) (X : Nat → Int) {j : Nat} (h : j < n) : (lst n X).getD j 0 = X j := by
  simp [lst, List.getD_eq_getElem?_getD, h]

theorem copy22 (w : World) (h n c : Nat) (F : Nat → Int) (ad : Addr) (b : Nat) (X : Nat → Int) (hd : Row .i32 w h n F) (hs : Sl .i32 w (some ad) n b X) :
    ∃ W, (∀ ty, (Builtin.copy_ #[22, 22] ty #[.slice (some ⟨h, 0, none⟩) n n, .slice (some ad) n c]).run Try.prog w = .ok (goInt n) W) ∧ Row .i32 W h n (fun j => (lst n X).getD j 0) ∧ w.grownBy W (some h) := by
  refine ⟨w.setCells h 0 ((lst n X).map (Value.int .i32)), fun ty => ?_, ?_, grown_setCells _ _ _ _⟩
  · have hr := run_copy_cells (P := Try.prog) w 22 22 ty 21 h 0 n n ad n c ((lst n X).map (Value.int .i32)) Try.underlying22 size21 (by simp [lst_len]) (fun j v hj => by
        have hjn : j < n := by
          have := (List.getElem?_eq_some_iff.1 hj).1
          simpa [lst_len] using this
        have had := hs.addr (by omega)
        simp only [Option.some.injEq] at had
        subst had
        have hv : v = .int .i32 (X j) := by
          rw [List.getElem?_map] at hj
          have := lst_get n X hjn
          rw [List.getD_eq_getElem?_getD] at this
          cases hq : (lst n X)[j]? with
          | none => rw [hq] at hj; simp at hj
          | some y =>
            rw [hq] at hj this
            simp at hj this
            rw [← hj, this]
        rw [hv]
        have := (hs.row j hjn).1
        simpa [Addr.add_lit] using this) (fun j hj => by
        have hjn : j < n := by simpa [lst_len] using hj
        rw [Nat.zero_add, (hd j hjn).1]; rfl) (fun j hj => by
        have hjn : j < n := by simpa [lst_len] using hj
        rw [Nat.zero_add]; exact (hd j hjn).2) (by
        intro v hv
        obtain ⟨x, _, rfl⟩ := List.mem_map.1 hv
        rfl)
    rw [hr]
    simp [lst_len]
  · have := row_setCells .i32 h n (lst n X) 0 w F hd (by rw [lst_len]; omega)
    intro j hj
    have h2 := this j hj
    simp only [lst_len, Nat.zero_add, Nat.sub_zero, Nat.zero_le, true_and, hj, if_true] at h2
    exact h2

theorem info56 : (Try.prog.info? 56).map (fun i => (i.zero, i.size, i.bytes)) = some (some (.agg #[.int .i32 0, .int .i32 0, .string ⟨#[]⟩]), 3, 24) := by kernel_rfl

theorem make54 (n : Nat) (hn : n ≤ 1048576) (w : World) : ∃ W V, (Instr.makeSlice 54 (.int .i64 (n : Int)) (.int .i64 (n : Int))).run Try.prog w = .ok (.slice (some ⟨w.heap.size, 0, none⟩) n n) W ∧ RowV W w.heap.size (n * 3) V ∧ w.grownBy W none ∧ w.heap.size < W.heap.size := by
  obtain ⟨i, hi, hzz⟩ := Option.map_eq_some_iff.1 info56
  simp only [Prod.mk.injEq] at hzz
  obtain ⟨hz, hs, hb⟩ := hzz
  have hr := run_make (P := Try.prog) w 54 56 i _ Try.underlying54 hi hz .i64 .i64 (n : Int) (n : Int) (by omega) (Int.le_refl _) (by rw [hb]; omega) (by omega)
  simp only [Int.toNat_natCast, hs] at hr
  refine ⟨_, fun j => #[Value.int .i32 0, .int .i32 0, .string ⟨#[]⟩][j % 3]!, hr, ?_, World.grownBy_alloc _ _ _, by simp⟩
  exact msc.rowV_cells (MapKept.heap_alloc w _).1 (fun j hj => by simp [madeCells, hj, Value.cells])

theorem upd3_new (V : Nat → Value) (k : Nat) (x y s : Value) : updV (updV (updV V (k * 3) x) (k * 3 + 1) y) (k * 3 + 2) s (k * 3) = x ∧ updV (updV (updV V (k * 3) x) (k * 3 + 1) y) (k * 3 + 2) s (k * 3 + 1) = y ∧ updV (updV (updV V (k * 3) x) (k * 3 + 1) y) (k * 3 + 2) s (k * 3 + 2) = s := by
  unfold msc.updV
  refine ⟨?_, ?_, ?_⟩
  · rw [if_neg (by omega), if_neg (by omega), if_pos rfl]
  · rw [if_neg (by omega), if_pos rfl]
  · rw [if_pos rfl]

theorem upd3_old (V : Nat → Value) (k : Nat) (x y s : Value) (j : Nat) (hj : j < k) : updV (updV (updV V (k * 3) x) (k * 3 + 1) y) (k * 3 + 2) s (j * 3) = V (j * 3) ∧ updV (updV (updV V (k * 3) x) (k * 3 + 1) y) (k * 3 + 2) s (j * 3 + 1) = V (j * 3 + 1) ∧ updV (updV (updV V (k * 3) x) (k * 3 + 1) y) (k * 3 + 2) s (j * 3 + 2) = V (j * 3 + 2) := by
  unfold msc.updV
  refine ⟨?_, ?_, ?_⟩
  · rw [if_neg (by omega), if_neg (by omega), if_neg (by omega)]
  · rw [if_neg (by omega), if_neg (by omega), if_neg (by omega)]
  · rw [if_neg (by omega), if_neg (by omega), if_neg (by omega)]

def prF (keys : Nat → Int) (L : Nat → Nat) (X : Nat → Nat → Int) : Nat → (Int → Option (List Int))
  | 0 => fun _ => none
  | i + 1 => updO (prF keys L X i) (keys i) (lst (L i) (X i))

theorem min_if (a b : Nat) : (if b < a then (b : Int) else (a : Int)) = ((min a b : Nat) : Int) := by split <;> omega

def Tabled (w : World) (N m : Nat) (S : Nat → ByteArray) (F G keys : Nat → Int) (L : Nat → Nat) (X : Nat → Nat → Int) (e : Ending) (w' : World) : Prop :=
  ∃ tb mb cb, e = .returned (.pointer (some ⟨tb, 0, none⟩)) ∧ w'.cell? ⟨tb, 0, none⟩ = some (.slice (some ⟨cb, 0, none⟩) N N) ∧ w'.cell? ⟨tb, 4, none⟩ = some (.map (some mb)) ∧ CatRow w' cb N S F G ∧ MapS w' mb m (prF keys L X m)
    ∧ tb ≠ mb ∧ cb ≠ mb ∧ w.heap.size ≤ mb ∧ w.grownBy w' none

theorem mapS_alloc {w : World} {b n : Nat} {g : Int → Option (List Int)} (h : MapS w b n g) (o : Obj) : MapS (w.alloc o) b n g := h.kept (World.grownBy_alloc w o none)

theorem cat_kept {w w' : World} {cb N : Nat} {S : Nat → ByteArray} {F G : Nat → Int} {row : Option Nat} (h : CatRow w cb N S F G) (hg : w.grownBy w' row) (hne : some cb ≠ row) : CatRow w' cb N S F G := fun k hk =>
  ⟨hg.cell (h k hk).1 hne, hg.cell (h k hk).2.1 hne, hg.cell (h k hk).2.2 hne⟩

theorem start14 (w : World) (cb N : Nat) (o1 o2 o4 : Obj) (h4 : o4 = .map #[] 0) (o5 : Obj) (h5 : o5 = Obj.cells #[Value.slice (some ⟨cb, 0, none⟩) N N, Value.map (some w.heap.size), Value.map (some (w.heap.size + 1 + 1)), Value.map (some (w.heap.size + 1)), Value.map (some (w.heap.size + 1 + 1 + 1))] 61) :
    MapS (((((w.alloc o1).alloc o1).alloc o2).alloc o4).alloc o5) (w.heap.size + 1 + 1 + 1) 0 (fun _ => none)
      ∧ (((((w.alloc o1).alloc o1).alloc o2).alloc o4).alloc o5).cell? ⟨w.heap.size + 1 + 1 + 1 + 1, 0, none⟩ = some (.slice (some ⟨cb, 0, none⟩) N N) ∧ (((((w.alloc o1).alloc o1).alloc o2).alloc o4).alloc o5).cell? ⟨w.heap.size + 1 + 1 + 1 + 1, 4, none⟩ = some (.map (some (w.heap.size + 1 + 1 + 1)))
      ∧ True ∧ w.grownBy (((((w.alloc o1).alloc o1).alloc o2).alloc o4).alloc o5) none := by
  have e := (MapKept.heap_alloc ((((w.alloc o1).alloc o1).alloc o2).alloc o4) o5).1
  have e2 : ((((w.alloc o1).alloc o1).alloc o2).alloc o4).heap.size = w.heap.size + 1 + 1 + 1 + 1 := by simp
  rw [e2] at e
  refine ⟨?_, ?_, ?_, trivial, ?_⟩
  · subst h4
    have := mapS_alloc (MapS.made (((w.alloc o1).alloc o1).alloc o2)) o5
    have e3 : (((w.alloc o1).alloc o1).alloc o2).heap.size = w.heap.size + 1 + 1 + 1 := by simp
    rw [e3] at this
    exact this
  · unfold World.cell?
    simp only [e]
    subst h5
    rfl
  · unfold World.cell?
    simp only [e]
    subst h5
    rfl
  · exact ((((World.grownBy_alloc _ _ _).trans (World.grownBy_alloc _ _ _)).trans (World.grownBy_alloc _ _ _)).trans (World.grownBy_alloc _ _ _)).trans (World.grownBy_alloc _ _ _)

set_option maxRecDepth 100000 in
set_option maxHeartbeats 4000000 in
theorem tables14 (a0 a1 a2 a3 a4 : Option Addr) (n0 n1 n2 n3 n4 c0 c1 c2 c3 c4 b0 b1 b2 b3 b4 N m : Nat) (S : Nat → ByteArray) (F G keys : Nat → Int) (L : Nat → Nat) (X : Nat → Nat → Int) (w : World)
    (hN : N = min (min n0 n1) n2) (hm : m = min n3 n4) (l2 : n2 ≤ 4096) (l4 : n4 ≤ 4096)
    (s0 : Sl .i32 w a0 n0 b0 F) (s1 : Sl .i32 w a1 n1 b1 G) (s2 : SlS w a2 n2 b2 S) (s3 : Sl .i32 w a3 n3 b3 keys) (s4 : SlSl w a4 n4 b4 L X) :
    Calls Try.prog 14 #[.slice a0 n0 c0, .slice a1 n1 c1, .slice a2 n2 c2, .slice a3 n3 c3, .slice a4 n4 c4] w (Tabled w N m S F G keys L X) := by
  have l0 := s0.le
  have l1 := s1.le
  have l3 := s3.le
  obtain ⟨M1, hM1⟩ : ∃ M1 : Nat, M1 = min n0 n1 := ⟨_, rfl⟩
  have hA := min_if n0 n1
  have hB := min_if M1 n2
  have hC := min_if n3 n4
  rw [← hM1] at hA
  have hN' : ((min M1 n2 : Nat) : Int) = (N : Int) := by rw [hM1, hN]
  have hm' : ((min n3 n4 : Nat) : Int) = (m : Int) := by rw [hm]
  rw [hN'] at hB
  rw [hm'] at hC
  have hN0 : N ≤ n0 := by omega
  have hN1 : N ≤ n1 := by omega
  have hN2 : N ≤ n2 := by omega
  have hm3 : m ≤ n3 := by omega
  have hm4 : m ≤ n4 := by omega
  clear hN hm hM1 hN' hm'
  obtain ⟨W, V0, hmk, hrow, hgW, hsW⟩ := make54 N (by omega) w
  have hmm := @run_makeMap Try.prog
  go_enter Try.func14, Try.ntmps14
  go_wp2
  clear hmk
  go_loopw [13] (fun iv wr => ∃ (k : Nat) (V : Nat → Value), iv = .int .i64 k ∧ k ≤ N ∧ RowV wr w.heap.size (N * 3) V ∧ Hid (∀ j, j < k → V (j * 3) = .int .i32 (F j) ∧ V (j * 3 + 1) = .int .i32 (G j) ∧ V (j * 3 + 2) = .string (S j)) ∧ w.grownBy wr none ∧ w.heap.size < wr.heap.size) (fun iv _ => N - (intOf iv).toNat)
  case atStart => exact ⟨0, V0, rfl, Nat.zero_le _, hrow, fun j hj => absurd hj (Nat.not_lt_zero _), hgW, hsW⟩
  case round =>
    clear hrow hgW hsW
    obtain ⟨k, V, rfl, hk, hrow, HV, hg, hsz⟩ := hrel
    rename World => wq
    by_cases hlt : k < N
    · obtain rfl := s0.addr (by omega)
      obtain rfl := s1.addr (by omega)
      obtain rfl := s2.addr (by omega)
      have r0 := (s0.row.kept hg (by simp) k (by omega)).1
      have r1 := (s1.row.kept hg (by simp) k (by omega)).1
      have r2 := hg.cell (s2.row k (by omega)) (by simp)
      have q0 := hrow (k * 3) (by omega)
      have q1 := hrow (k * 3 + 1) (by omega)
      have q2 := hrow (k * 3 + 2) (by omega)
      have q01 := q0.1
      have q02 := q0.2
      have q11 := q1.1
      have q12 := q1.2
      have q21 := q2.1
      have q22 := q2.2
      generalize hx : F k = x at r0
      generalize hy : G k = y at r1
      generalize hs : S k = s at r2
      have HX : Hid (F k = x) := hx
      have HY : Hid (G k = y) := hy
      have HS : Hid (S k = s) := hs
      clear hx hy hs q0 q1 q2
      go_wp2
      go_region
      all_goals
        go_wp2
        go_roundw
        case rel =>
          have gs : wq.grownBy (((wq.setCell ⟨w.heap.size, k * 3, none⟩ (.int .i32 x)).setCell ⟨w.heap.size, k * 3 + 1, none⟩ (.int .i32 y)).setCell ⟨w.heap.size, k * 3 + 2, none⟩ (.string s)) (some w.heap.size) := ((rw.grown_setCell _ _ _ _).trans (rw.grown_setCell _ _ _ _)).trans (rw.grown_setCell _ _ _ _)
          have hrow3 := ((hrow.set (m := k * 3) (by omega) (.int .i32 x)).set (m := k * 3 + 1) (by omega) (.int .i32 y)).set (m := k * 3 + 2) (by omega) (.string s)
          refine ⟨k + 1, _, by go_num, by omega, hrow3, ?_, hg.andThen (gs.trans (rw.grown_drew _ _)) (fun j hj => by cases hj; exact Or.inl (Nat.le_refl _)), Nat.lt_of_lt_of_le hsz gs.size⟩
          refine msb.all_next (fun j hj => ?_) ?_
          · obtain ⟨v1, v2, v3⟩ := HV.out j hj
            obtain ⟨e1, e2, e3⟩ := upd3_old V k (.int .i32 x) (.int .i32 y) (.string s) j hj
            exact ⟨e1.trans v1, e2.trans v2, e3.trans v3⟩
          · rw [HX.out, HY.out, HS.out]
            exact upd3_new V k (.int .i32 x) (.int .i32 y) (.string s)
        case measure => simp [intOf]; omega
    · have hkN : k = N := by omega
      subst hkN
      have hcat : CatRow wq w.heap.size k S F G := fun j hj => by
        obtain ⟨v1, v2, v3⟩ := HV.out j hj
        exact ⟨v1 ▸ (hrow (j * 3) (by omega)).1, v2 ▸ (hrow (j * 3 + 1) (by omega)).1, v3 ▸ (hrow (j * 3 + 2) (by omega)).1⟩
      obtain ⟨p1, p2, p3, p4, p5⟩ := start14 wq w.heap.size k (.map #[] 0) (.map #[] 0) (.map #[] 0) rfl _ rfl
      have hcat5 := cat_kept hcat p5 (by simp)
      go_wp2
      clear hmm
      go_loopw [16] (fun iv wr => ∃ i : Nat, iv = .int .i64 i ∧ i ≤ m ∧ MapS wr (wq.heap.size + 1 + 1 + 1) i (prF keys L X i) ∧ wr.cell? ⟨wq.heap.size + 1 + 1 + 1 + 1, 0, none⟩ = some (.slice (some ⟨w.heap.size, 0, none⟩) k k) ∧ wr.cell? ⟨wq.heap.size + 1 + 1 + 1 + 1, 4, none⟩ = some (.map (some (wq.heap.size + 1 + 1 + 1))) ∧ CatRow wr w.heap.size k S F G ∧ w.grownBy wr none) (fun iv _ => m - (intOf iv).toNat)
      case atStart => exact ⟨0, rfl, Nat.zero_le _, p1, p2, p3, hcat5, hg.trans p5⟩
      case round =>
        clear p1 p2 p3 p4 p5 hcat hcat5 hrow HV
        obtain ⟨i, rfl, hi, hS, hc0, hc4, hcat, hgr⟩ := hrel
        have hgs := hg.size
        clear hg
        rename World => wr
        by_cases hlt : i < m
        · have e3 := s3.addr (by omega)
          have e4 := s4.addr (by omega)
          have rk := (s3.row.kept hgr (by simp) i (by omega)).1
          have kw : W32 (keys i) := s3.wf i (by omega)
          obtain ⟨a, c, b, hcell, hsl, hne⟩ := (s4.row i (by omega)).kept hgr
          generalize hkk : keys i = kk at rk kw
          have HKK : Hid (keys i = kk) := hkk
          generalize hll : L i = ll at hcell hsl
          have HLL : Hid (L i = ll) := hll
          generalize hxx : X i = xx at hsl
          have HXX : Hid (X i = xx) := hxx
          clear hkk hll hxx
          subst e3
          subst e4
          have hnq := fun (w : World) => run_neq_slice_nil_any (P := Try.prog) w 22 21 a ll c 0 0 Try.underlying22
          have hmbs := hS.lt
          have htbs := World.block_lt_of_cell? _ _ hc4
          have hmbne : w.heap.size ≠ wq.heap.size + 1 + 1 + 1 := by omega
          have hb4 := World.block_lt_of_cell? _ _ hcell
          cases a with
          | none =>
            have hll0 : ll = 0 := by
              rcases Nat.eq_zero_or_pos ll with h | h
              · exact h
              · have := hsl.addr h; cases this
            have HL0 : Hid (ll = 0) := hll0
            clear hll0
            obtain ⟨w3, hup, hS3, hg3⟩ := (hS.kept (rw.grown_drew wr none)).store (by unfold maxLen; omega) kw (Or.inl ⟨rfl, rfl, rfl, rfl⟩)
            go_wp2
            go_region
            all_goals
              go_wp2
              go_roundw
              case rel =>
                have hgt := (rw.grown_drew wr (some (wq.heap.size + 1 + 1 + 1))).trans hg3
                have hfin : ∃ i' : Nat, (.int .i64 ((i : Int) + 1) : Value) = .int .i64 i' ∧ i' ≤ m ∧ MapS w3 (wq.heap.size + 1 + 1 + 1) i' (prF keys L X i') ∧ w3.cell? ⟨wq.heap.size + 1 + 1 + 1 + 1, 0, none⟩ = some (.slice (some ⟨w.heap.size, 0, none⟩) k k) ∧ w3.cell? ⟨wq.heap.size + 1 + 1 + 1 + 1, 4, none⟩ = some (.map (some (wq.heap.size + 1 + 1 + 1))) ∧ CatRow w3 w.heap.size k S F G ∧ w.grownBy w3 none :=
                  ⟨i + 1, by go_num, by omega, hS3.congr (fun r => by
                    show _ = updO (prF keys L X i) (keys i) (lst (L i) (X i)) r
                    rw [HKK.out, HLL.out, HL0.out]; rfl), hgt.cell hc0 (by simp), hgt.cell hc4 (by simp), cat_kept hcat hgt (by simpa using hmbne), hgr.andThen hgt (fun j hj => by cases hj; left; omega)⟩
                first | exact hfin | ((repeat apply Exists.intro); exact ⟨hfin, rfl⟩)
              case measure => simp [intOf]; omega
          | some ad =>
            obtain ⟨W1, hmk, hrow1, hgW1, hsW1⟩ := cl.make22 ll hsl.le wr
            obtain ⟨W2, hcp, hrow2, hgW2⟩ := copy22 W1 wr.heap.size ll c _ ad b xx hrow1 (hsl.kept hgW1 (by simp))
            have hgW2' : wr.grownBy W2 none := hgW1.andThen hgW2 (fun j hj => by cases hj; left; exact Nat.le_refl _)
            have hput : Put W2.drew (wq.heap.size + 1 + 1 + 1) (some ⟨wr.heap.size, 0, none⟩) ll ll (lst ll xx) :=
              Or.inr ⟨wr.heap.size, rfl, (lst_len ll xx).symm, by omega, hrow2.drew, fun j hj => by rw [lst_get ll xx hj]; exact hsl.wf j hj⟩
            obtain ⟨w3, hup, hS3, hg3⟩ := ((hS.kept hgW2').kept (rw.grown_drew W2 none)).store (by unfold maxLen; omega) kw hput
            have rk2 := hgW2'.cell rk (by simp)
            have hc42 := hgW2'.cell hc4 (by simp)
            clear hput hrow2 hrow1
            go_wp2
            go_region
            all_goals
              go_wp2
              go_roundw
              case rel =>
                have hgt := ((hgW2'.but (some (wq.heap.size + 1 + 1 + 1))).trans (rw.grown_drew W2 (some (wq.heap.size + 1 + 1 + 1)))).trans hg3
                have hfin : ∃ i' : Nat, (.int .i64 ((i : Int) + 1) : Value) = .int .i64 i' ∧ i' ≤ m ∧ MapS w3 (wq.heap.size + 1 + 1 + 1) i' (prF keys L X i') ∧ w3.cell? ⟨wq.heap.size + 1 + 1 + 1 + 1, 0, none⟩ = some (.slice (some ⟨w.heap.size, 0, none⟩) k k) ∧ w3.cell? ⟨wq.heap.size + 1 + 1 + 1 + 1, 4, none⟩ = some (.map (some (wq.heap.size + 1 + 1 + 1))) ∧ CatRow w3 w.heap.size k S F G ∧ w.grownBy w3 none :=
                  ⟨i + 1, by go_num, by omega, hS3.congr (fun r => by
                    show _ = updO (prF keys L X i) (keys i) (lst (L i) (X i)) r
                    rw [HKK.out, HLL.out, HXX.out]), hgt.cell hc0 (by simp), hgt.cell hc4 (by simp), cat_kept hcat hgt (by simpa using hmbne), hgr.andThen hgt (fun j hj => by cases hj; left; omega)⟩
                first | exact hfin | ((repeat apply Exists.intro); exact ⟨hfin, rfl⟩)
              case measure => simp [intOf]; omega
        · have him : i = m := by omega
          subst him
          go_wp2
          go_ret
          exact ⟨_, _, _, rfl, hc0, hc4, hcat, hS, by omega, by omega, by omega, hgr⟩
end Go.Proofs.Qxb6000886a.msf
