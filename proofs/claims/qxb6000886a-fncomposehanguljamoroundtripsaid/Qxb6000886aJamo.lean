import Derived.Test.Qxb6000886aTb
namespace Go.Proofs.Qxb6000886a.jamo
open Go.RowKit
open Go.Proofs.Qxb6000886a.mp (W32 W8 Comb Comp cmp upd upd2)
open Go.Proofs.Qxb6000886a.rw (Row updN join stepC run run_snoc run_inv)
set_option linter.unusedVariables false
set_option linter.unusedSimpArgs false

theorem hg_lv (l v : Int) (l0 : 0 ≤ l) (l1 : l < 19) (v0 : 0 ≤ v) (v1 : v < 21) : han.hg (4352 + l) (4449 + v) = some (44032 + (l * 21 + v) * 28) := by
  unfold han.hg
  rw [if_pos (by omega)]
  congr 1
  omega

theorem hg_lvt (l v t : Int) (l0 : 0 ≤ l) (l1 : l < 19) (v0 : 0 ≤ v) (v1 : v < 21) (t0 : 0 < t) (t1 : t < 28) : han.hg (44032 + (l * 21 + v) * 28) (4519 + t) = some (44032 + (l * 21 + v) * 28 + t) := by
  unfold han.hg
  rw [if_neg (by omega), if_pos (by omega)]
  congr 1
  omega

theorem step1 (f : Int → Int) (g : Int → Int → Option Int) (hf : ∀ r, f r = 0) (x : Int) : stepC f (cmp g) ([], -1) x = ([x], 0) := by
  unfold rw.stepC rw.join
  simp [hf]

theorem step2 (f : Int → Int) (g : Int → Int → Option Int) (x y p : Int) (h : han.hg x y = some p) : stepC f (cmp g) ([x], 0) y = ([p], 0) := by
  unfold rw.stepC rw.join mp.cmp
  simp [h]

theorem run2 (f : Int → Int) (g : Int → Int → Option Int) (hf : ∀ r, f r = 0) (l v : Int) (l0 : 0 ≤ l) (l1 : l < 19) (v0 : 0 ≤ v) (v1 : v < 21) :
    run f (cmp g) [4352 + l, 4449 + v] = ([44032 + (l * 21 + v) * 28], 0) := by
  unfold rw.run
  rw [List.foldl_cons, step1 f g hf, List.foldl_cons, step2 f g _ _ _ (hg_lv l v l0 l1 v0 v1), List.foldl_nil]

theorem run3 (f : Int → Int) (g : Int → Int → Option Int) (hf : ∀ r, f r = 0) (l v t : Int) (l0 : 0 ≤ l) (l1 : l < 19) (v0 : 0 ≤ v) (v1 : v < 21) (t0 : 0 < t) (t1 : t < 28) :
    run f (cmp g) [4352 + l, 4449 + v, 4519 + t] = ([44032 + (l * 21 + v) * 28 + t], 0) := by
  unfold rw.run
  rw [List.foldl_cons, step1 f g hf, List.foldl_cons, step2 f g _ _ _ (hg_lv l v l0 l1 v0 v1), List.foldl_cons, step2 f g _ _ _ (hg_lvt l v t l0 l1 v0 v1 t0 t1), List.foldl_nil]

theorem sl_nil (q : IntKind) (w : World) : tb.Sl q w none 0 0 (fun _ => 0) := ⟨fun h => absurd h (Nat.lt_irrefl _), fun j hj => absurd hj (Nat.not_lt_zero _), fun j hj => absurd hj (Nat.not_lt_zero _), by omega⟩

theorem row_cells {w : World} {sb : Nat} {cs : Array Value} {t : TypeId} {n : Nat} {F : Nat → Int} {q : IntKind} (hb : w.heap[sb]? = some (.cells cs t)) (h : ∀ j, j < n → cs[j]? = some (.int q (F j))) : Row q w sb n F := fun j hj => by
  have hj' := h j hj
  constructor
  · unfold World.cell?; simp only [hb]; simpa using hj'
  · unfold World.frozen?; simp only [hb]; simp

theorem row2 (w : World) (x y : Int) : Row .i32 (w.alloc (.cells #[.int .i32 x, .int .i32 y] 21)) w.heap.size [x, y].length (fun j => [x, y].getD j 0) :=
  row_cells (MapKept.heap_alloc w _).1 (fun j hj => by
    match j, hj with
    | 0, _ => rfl
    | 1, _ => rfl)

theorem row3 (w : World) (x y z : Int) (o1 o2 : Obj) (C : Nat) (sb : Nat) (hs : sb = w.heap.size + 1 + 1) : Row .i32 (((w.alloc o1).alloc o2).alloc (.cells (#[.int .i32 x, .int .i32 y, .int .i32 z] ++ Builtin.zeroCells #[.int .i32 0] (C - 3)) 21)).drew sb [x, y, z].length (fun j => [x, y, z].getD j 0) := by
  have hb := (MapKept.heap_alloc ((w.alloc o1).alloc o2) (.cells (#[.int .i32 x, .int .i32 y, .int .i32 z] ++ Builtin.zeroCells #[.int .i32 0] (C - 3)) 21)).1
  have e : ((w.alloc o1).alloc o2).heap.size = sb := by rw [hs]; simp
  rw [e] at hb
  exact (row_cells hb (fun j hj => by
    match j, hj with
    | 0, _ => rw [Array.getElem?_append_left (by simp)]; rfl
    | 1, _ => rw [Array.getElem?_append_left (by simp)]; rfl
    | 2, _ => rw [Array.getElem?_append_left (by simp)]; rfl)).drew

theorem wf2 (l v : Int) (l0 : 0 ≤ l) (l1 : l < 19) (v0 : 0 ≤ v) (v1 : v < 21) (j : Nat) (hj : j < [4352 + l, 4449 + v].length) : W32 ([4352 + l, 4449 + v].getD j 0) := by
  match j, hj with
  | 0, _ => exact cm.w32_mk (p := 4352 + l) (by omega) (by omega)
  | 1, _ => exact cm.w32_mk (p := 4449 + v) (by omega) (by omega)

theorem wf3 (l v t : Int) (l0 : 0 ≤ l) (l1 : l < 19) (v0 : 0 ≤ v) (v1 : v < 21) (t0 : 0 ≤ t) (t1 : t < 28) (j : Nat) (hj : j < [4352 + l, 4449 + v, 4519 + t].length) : W32 ([4352 + l, 4449 + v, 4519 + t].getD j 0) := by
  match j, hj with
  | 0, _ => exact cm.w32_mk (p := 4352 + l) (by omega) (by omega)
  | 1, _ => exact cm.w32_mk (p := 4449 + v) (by omega) (by omega)
  | 2, _ => exact cm.w32_mk (p := 4519 + t) (by omega) (by omega)

theorem below2 {w w1 w2 w3 : World} {sb : Nat} (h1 : w.grownBy w1 none) (h2 : w1.grownBy w2 none) (h3 : w2.grownBy w3 (some sb)) (hs : w.heap.size ≤ sb) : Below w.heap.size w w3 :=
  (((Below.refl _ w).grown h1 (Nat.le_refl _) (by simp)).grown h2 h1.size (by simp)).grown h3 (Nat.le_trans h1.size h2.size) (fun k hk => by cases hk; exact hs)

set_option maxHeartbeats 1000000 in
theorem law (l v t : Int) (w : World) :
    Calls Try.prog 5 #[.int .i64 l, .int .i64 v, .int .i64 t] w fun e w' => e = .returned (.bool true) ∧ Below w.heap.size w w' := by
  by_cases hd : 0 ≤ l ∧ l < 19 ∧ 0 ≤ v ∧ v < 21 ∧ 0 ≤ t ∧ t < 28
  · obtain ⟨l0, l1, v0, v1, t0, t1⟩ := hd
    by_cases ht : 0 < t
    · go_enter Try.func5, Try.ntmps5
      go_wp2_with fail
      refine (tb.tables none none none none none 0 0 0 0 0 0 0 0 0 0 0 0 0 0 0 _ _ _ _ _ w (sl_nil _ _) (sl_nil _ _) (sl_nil _ _) (sl_nil _ _) (sl_nil _ _)).mono ?_
      rintro e w1 ⟨tb, mb, cb, nm, nc, f, g, rfl, hcomb, hcomp, hc1, hc3, b1, b2, b3, b4, b5, b6, hf, hg, hgr⟩
      have HF : Hid (∀ r, f r = 0) := fun r => Decidable.byContradiction fun h => by obtain ⟨j, hj, _⟩ := hf r h; omega
      clear hf hg
      go_wp2_with fail
      have hC := grownCap_ge w1 3 2 21
      have hC2 := grownCap_le_maxLen w1 3 2 21 (by decide)
      unfold grownCap at hC hC2
      generalize (Question.appendCap 3 2 21).cut (w1.tape w1.drawn (Question.appendCap 3 2 21)) = C at *
      have hgw : w1.grownBy (((w1.alloc (Obj.cells #[Value.int IntKind.i32 (4352 + l), Value.int IntKind.i32 (4449 + v)] 21)).alloc (Obj.cells #[Value.int IntKind.i32 (4519 + t)] 21)).alloc (Obj.cells (#[Value.int IntKind.i32 (4352 + l), Value.int IntKind.i32 (4449 + v), Value.int IntKind.i32 (4519 + t)] ++ Builtin.zeroCells #[Value.int IntKind.i32 0] (C - 3)) 21)).drew none := (((World.grownBy_alloc _ _ _).trans (World.grownBy_alloc _ _ _)).trans (World.grownBy_alloc _ _ _)).trans (rw.grown_drew _ _)
      refine (cz.zcompose f g [4352 + l, 4449 + v, 4519 + t] tb mb cb nm nc _ _ _ (by simp) ?_ ?_ (by omega) (by omega) (by omega) ?_ ?_ ?_ ?_ ?_ ?_).mono ?_
      case refine_1 => simpa using hC
      case refine_2 => exact hC2
      case refine_3 => exact row3 _ _ _ _ _ _ _ _ rfl
      case refine_4 => intro j hj; exact wf3 l v t l0 l1 v0 v1 t0 t1 j hj
      case refine_5 => exact hgw.cell hc1 (by simp)
      case refine_6 => exact hgw.cell hc3 (by simp)
      case refine_7 => exact hcomb.kept hgw (by simp)
      case refine_8 => exact hcomp.kept hgw (by simp)
      rintro e w2 ⟨out, st, F, ho, rfl, hr, hF, hg2⟩
      rw [jamo.run3 f g HF.out l v t l0 l1 v0 v1 ht t1] at ho
      simp only [Prod.mk.injEq] at ho
      obtain ⟨rfl, rfl⟩ := ho
      have hF0 : F 0 = 44032 + (l * 21 + v) * 28 + t := hF 0 (by simp)
      obtain ⟨p, hp⟩ : ∃ p, p = F 0 := ⟨_, rfl⟩
      have hcell : w2.cell? ⟨w1.heap.size + 1 + 1, 0, none⟩ = some (.int .i32 p) := by rw [hp]; exact (hr 0 (by simp)).1
      have e1 : ((p - 44032) / 588 == l) = true := by rw [beq_iff_eq]; omega
      have e2 : ((p - 44032) / 28 % 21 == v) = true := by rw [beq_iff_eq]; omega
      have e3 : ((p - 44032) % 28 == t) = true := by rw [beq_iff_eq]; omega
      have p0 : 44032 ≤ p := by omega
      have p1 : p < 55204 := by omega
      clear hp hF0 hF hr
      go_wp2
      go_ret
      exact ⟨rfl, below2 hgr hgw hg2 (by have := hgr.size; omega)⟩
    · have hte : t = 0 := by omega
      subst hte
      go_enter Try.func5, Try.ntmps5
      go_wp2_with fail
      refine (tb.tables none none none none none 0 0 0 0 0 0 0 0 0 0 0 0 0 0 0 _ _ _ _ _ w (sl_nil _ _) (sl_nil _ _) (sl_nil _ _) (sl_nil _ _) (sl_nil _ _)).mono ?_
      rintro e w1 ⟨tb, mb, cb, nm, nc, f, g, rfl, hcomb, hcomp, hc1, hc3, b1, b2, b3, b4, b5, b6, hf, hg, hgr⟩
      have HF : Hid (∀ r, f r = 0) := fun r => Decidable.byContradiction fun h => by obtain ⟨j, hj, _⟩ := hf r h; omega
      clear hf hg
      go_wp2_with fail
      have hgw := World.grownBy_alloc w1 (Obj.cells #[Value.int IntKind.i32 (4352 + l), Value.int IntKind.i32 (4449 + v)] 21) none
      refine (cz.zcompose f g [4352 + l, 4449 + v] tb mb cb nm nc _ _ _ (by simp) ?_ ?_ (by omega) (by omega) (by omega) ?_ ?_ ?_ ?_ ?_ ?_).mono ?_
      case refine_1 => simp
      case refine_2 => decide
      case refine_3 => exact row2 _ _ _
      case refine_4 => intro j hj; exact wf2 l v l0 l1 v0 v1 j hj
      case refine_5 => exact hgw.cell hc1 (by simp)
      case refine_6 => exact hgw.cell hc3 (by simp)
      case refine_7 => exact hcomb.kept hgw (by simp)
      case refine_8 => exact hcomp.kept hgw (by simp)
      rintro e w2 ⟨out, st, F, ho, rfl, hr, hF, hg2⟩
      rw [jamo.run2 f g HF.out l v l0 l1 v0 v1] at ho
      simp only [Prod.mk.injEq] at ho
      obtain ⟨rfl, rfl⟩ := ho
      have hF0 : F 0 = 44032 + (l * 21 + v) * 28 := hF 0 (by simp)
      obtain ⟨p, hp⟩ : ∃ p, p = F 0 := ⟨_, rfl⟩
      have hcell : w2.cell? ⟨w1.heap.size, 0, none⟩ = some (.int .i32 p) := by rw [hp]; exact (hr 0 (by simp)).1
      have e1 : ((p - 44032) / 588 == l) = true := by rw [beq_iff_eq]; omega
      have e2 : ((p - 44032) / 28 % 21 == v) = true := by rw [beq_iff_eq]; omega
      have e3 : ((p - 44032) % 28 == 0) = true := by rw [beq_iff_eq]; omega
      have p0 : 44032 ≤ p := by omega
      have p1 : p < 55204 := by omega
      clear hp hF0 hF hr
      go_wp2
      go_ret
      exact ⟨rfl, below2 hgr hgw hg2 hgr.size⟩
  · go_enter Try.func5, Try.ntmps5
    go_wp2_with fail
    all_goals
      go_ret
      exact ⟨rfl, Below.refl _ _⟩
end Go.Proofs.Qxb6000886a.jamo
