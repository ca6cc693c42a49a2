import Derived.Test.Qxb6000886aHan
import Derived.Maps.OwnSet
import Derived.WideKeyPair
import Derived.Deep.Draws
namespace Go.Proofs.Qxb6000886a.mp
open Go.RowKit Go.Maps
open Go.WideMaps (ArrKey keyOf_pair)
set_option linter.unusedVariables false
set_option linter.unusedSimpArgs false

theorem law21 : Keyed Try.prog 21 := int_keyed Try.underlying21
theorem arr68 : ArrKey Try.prog 68 21 2 := ⟨Try.underlying68, by kernel_rfl, by kernel_rfl, by kernel_rfl⟩
theorem law68 : Keyed Try.prog 68 := Keyed.of_law arr68.law
theorem zero5 (w : World) : (zeroValue 5).run Try.prog w = .ok (.int .u8 0) w := by kernel_rfl
theorem zero21 (w : World) : (zeroValue 21).run Try.prog w = .ok (.int .i32 0) w := by kernel_rfl
theorem size_pos : ∃ m, Try.prog.types.size = m + 1 := by
  have h : (decide (0 < Try.prog.types.size)) = true := by kernel_rfl
  have h' := of_decide_eq_true h
  exact ⟨Try.prog.types.size - 1, by omega⟩

def W32 (r : Int) : Prop := (Lit.int .i32 r).wf = true
def W8 (r : Int) : Prop := (Lit.int .u8 r).wf = true
theorem W32.out {r : Int} (h : W32 r) : (Lit.int .i32 r).wf = true := h

def kpair (a b : Int) : Lit := .string (keyBytes [.int .i32 a, .int .i32 b])

theorem key21 {r : Int} (h : W32 r) : keyOf Try.prog 21 (.int .i32 r) = some (.int .i32 r) := keyOf_int_mk Try.underlying21 h
theorem key68 {a b : Int} (ha : W32 a) (hb : W32 b) : keyOf Try.prog 68 (.agg #[.int .i32 a, .int .i32 b]) = some (kpair a b) :=
  keyOf_pair arr68 Try.underlying21 size_pos ha hb

theorem kpair_inj {a b c d : Int} (ha : W32 a) (hb : W32 b) (hc : W32 c) (hd : W32 d) (h : kpair a b = kpair c d) : a = c ∧ b = d := by
  have h1 := key68 ha hb
  rw [h] at h1
  have h2 := law68.inj h1 (key68 hc hd)
  simpa using h2

/-! ### the combining classes -/
def Comb (w : World) (b n : Nat) (f : Int → Int) : Prop :=
  ∃ D : DataW Unit, w.ownsMap Try.prog 21 (plainElem Try.prog 5) b n D ∧ ∀ r, D.atKey (.int .i32 r) (.lit (.int .u8 0)) = .lit (.int .u8 (f r))

def upd (f : Int → Int) (k v : Int) : Int → Int := fun r => if r = k then v else f r

theorem Comb.made (w : World) : Comb (w.alloc (.map #[] 0)) w.heap.size 0 (fun _ => 0) :=
  ⟨.map [], World.ownsMap_made w _ _ _, fun r => rfl⟩

theorem Comb.lt {w : World} {b n : Nat} {f : Int → Int} (h : Comb w b n f) : b < w.heap.size := by
  obtain ⟨D, h, _⟩ := h; exact h.lt

theorem Comb.kept {w w' : World} {b n : Nat} {f : Int → Int} {row : Option Nat} (h : Comb w b n f) (hg : w.grownBy w' row) (hne : some b ≠ row) : Comb w' b n f := by
  obtain ⟨D, h, hf⟩ := h; exact ⟨D, h.kept hg hne, hf⟩

theorem Comb.drew {w : World} {b n : Nat} {f : Int → Int} (h : Comb w b n f) : Comb w.drew b n f := by
  obtain ⟨D, h, hf⟩ := h; exact ⟨D, h.drew, hf⟩

theorem Comb.look {w : World} {b n : Nat} {f : Int → Int} (h : Comb w b n f) {r : Int} (hr : W32 r) :
    (Instr.lookup 57 (.map (some b)) (.int .i32 r) false).run Try.prog w = .ok (.int .u8 (f r)) w ∧ W8 (f r) := by
  obtain ⟨D, h, hf⟩ := h
  obtain ⟨c, hrun, hat, hwc⟩ := h.lookup_int law21 Try.underlying57 Try.underlying5 (zero5 w) (key21 hr)
  rw [hf r] at hat
  simp at hat
  subst hat
  exact ⟨hrun, hwc⟩

theorem Comb.store {w : World} {b n : Nat} {f : Int → Int} (h : Comb w b n f) (hn : n < maxLen) {r v : Int} (hr : W32 r) (hv : W8 v) :
    ∃ w', (Instr.mapUpdate 57 (.map (some b)) (.int .i32 r) (.int .u8 v)).run Try.prog w = .ok () w' ∧ Comb w' b (n + 1) (upd f r v) ∧ w.grownBy w' (some b) := by
  obtain ⟨D, h, hf⟩ := h
  have him := h.isMap
  obtain ⟨w', hrun, hown, hg⟩ := h.update law21 Try.underlying57 hn (key21 hr) (plainElem_int Try.underlying5 hv)
  refine ⟨w', hrun, ⟨_, hown, fun x => ?_⟩, hg⟩
  unfold upd
  by_cases e : x = r
  · subst e
    rw [if_pos rfl]
    exact atKey_put_same him (law21.key (key21 hr)) _ _
  · rw [if_neg e, atKey_put_other (fun h => e (by simpa using h))]
    exact hf x

/-! ### the composites -/
def Comp (w : World) (b n : Nat) (g : Int → Int → Option Int) : Prop :=
  ∃ D : DataW Unit, w.ownsMap Try.prog 68 (plainElem Try.prog 21) b n D ∧
    ∀ x y, W32 x → W32 y → D.atKey (kpair x y) (.lit (.int .i32 0)) = .lit (.int .i32 ((g x y).getD 0)) ∧ Maps.has D (kpair x y) = (g x y).isSome

def upd2 (g : Int → Int → Option Int) (a b v : Int) : Int → Int → Option Int := fun x y => if x = a ∧ y = b then some v else g x y

theorem Comp.made (w : World) : Comp (w.alloc (.map #[] 0)) w.heap.size 0 (fun _ _ => none) :=
  ⟨.map [], World.ownsMap_made w _ _ _, fun x y _ _ => ⟨rfl, rfl⟩⟩

theorem Comp.lt {w : World} {b n : Nat} {g : Int → Int → Option Int} (h : Comp w b n g) : b < w.heap.size := by
  obtain ⟨D, h, _⟩ := h; exact h.lt

theorem Comp.kept {w w' : World} {b n : Nat} {g : Int → Int → Option Int} {row : Option Nat} (h : Comp w b n g) (hg : w.grownBy w' row) (hne : some b ≠ row) : Comp w' b n g := by
  obtain ⟨D, h, hf⟩ := h; exact ⟨D, h.kept hg hne, hf⟩

theorem Comp.drewN {w : World} {b n : Nat} {g : Int → Int → Option Int} (h : Comp w b n g) (k : Nat) : Comp (w.drewN k) b n g := by
  obtain ⟨D, h, hf⟩ := h; exact ⟨D, h, hf⟩

theorem Comp.drew {w : World} {b n : Nat} {g : Int → Int → Option Int} (h : Comp w b n g) : Comp w.drew b n g := by
  obtain ⟨D, h, hf⟩ := h; exact ⟨D, h.drew, hf⟩

theorem Comp.look {w : World} {b n : Nat} {g : Int → Int → Option Int} (h : Comp w b n g) {x y : Int} (hx : W32 x) (hy : W32 y) :
    (Instr.lookup 58 (.map (some b)) (.agg #[.int .i32 x, .int .i32 y]) true).run Try.prog w = .ok (.tuple #[.int .i32 ((g x y).getD 0), .bool (g x y).isSome]) w ∧ W32 ((g x y).getD 0) := by
  obtain ⟨D, h, hf⟩ := h
  obtain ⟨v, ps, hrun, hv⟩ := h.look_ok law68 Try.underlying58 (zero21 w) (plainElem_int (H := Unit) Try.underlying21 (by decide)) (key68 hx hy)
  obtain ⟨c, rfl, hc, hwc⟩ := plainElem_int_inv Try.underlying21 hv
  obtain ⟨h1, h2⟩ := hf x y hx hy
  rw [h1] at hc
  simp at hc
  obtain ⟨rfl, _⟩ := hc
  rw [h2] at hrun
  exact ⟨hrun, hwc⟩

theorem Comp.store {w : World} {b n : Nat} {g : Int → Int → Option Int} (h : Comp w b n g) (hn : n < maxLen) {x y v : Int} (hx : W32 x) (hy : W32 y) (hv : W32 v) :
    ∃ w', (Instr.mapUpdate 58 (.map (some b)) (.agg #[.int .i32 x, .int .i32 y]) (.int .i32 v)).run Try.prog w = .ok () w' ∧ Comp w' b (n + 1) (upd2 g x y v) ∧ w.grownBy w' (some b) := by
  obtain ⟨D, h, hf⟩ := h
  have him := h.isMap
  obtain ⟨w', hrun, hown, hg⟩ := h.update law68 Try.underlying58 hn (key68 hx hy) (plainElem_int Try.underlying21 hv)
  refine ⟨w', hrun, ⟨_, hown, fun p q hp hq => ?_⟩, hg⟩
  unfold upd2
  by_cases e : p = x ∧ q = y
  · obtain ⟨rfl, rfl⟩ := e
    rw [if_pos ⟨rfl, rfl⟩]
    exact ⟨atKey_put_same him (law68.key (key68 hx hy)) _ _, has_put_same him (law68.key (key68 hx hy)) _⟩
  · have hne : kpair p q ≠ kpair x y := fun h => e (kpair_inj hp hq hx hy h)
    rw [if_neg e, atKey_put_other hne, has_put_other hne]
    exact hf p q hp hq

/-! ### composite: 'composeHangul' first, the table behind it -/
def cmp (g : Int → Int → Option Int) (a b : Int) : Option Int := match han.hg a b with | some p => some p | none => g a b

set_option maxHeartbeats 400000 in
theorem c39 (tb cb n : Nat) (g : Int → Int → Option Int) (a b : Int) (w : World) (hc3 : w.cell? ⟨tb, 3, none⟩ = some (.map (some cb))) (hC : Comp w cb n g) (ha : W32 a) (hb : W32 b) :
    Calls Try.prog 39 #[.pointer (some ⟨tb, 0, none⟩), .int .i32 a, .int .i32 b] w fun e w' => e = .returned (.tuple #[.int .i32 ((cmp g a b).getD 0), .bool (cmp g a b).isSome]) ∧ w' = w := by
  cases hh : han.hg a b with
  | some p =>
    have e : cmp g a b = some p := by unfold cmp; rw [hh]
    have c := han.c40 a b w
    rw [hh] at c
    rw [e]
    clear e hh
    have HC := c
    go_enter Try.func39, Try.ntmps39
    go_wp2_with (go_at_call 40; refine HC.mono ?_; rintro e w' ⟨rfl, rfl⟩)
    go_ret2
    exact ⟨rfl, rfl⟩
  | none =>
    have e : cmp g a b = g a b := by unfold cmp; rw [hh]
    have c := han.c40 a b w
    rw [hh] at c
    rw [e]
    clear e hh
    have hl := (hC.look ha hb).1
    go_enter Try.func39, Try.ntmps39
    go_wp2_with (go_at_call 40; refine c.mono ?_; rintro e w' ⟨rfl, rfl⟩)
    go_ret2
    exact ⟨rfl, rfl⟩

end Go.Proofs.Qxb6000886a.mp
