import Derived.Test.Qxb6000886aMp
import Derived.ArgAppend
import Derived.Maps.Range
import Derived.Deep.QuietTactic
import Derived.BigQuiet
namespace Go.Proofs.Qxb6000886a.rw
open Go.RowKit
open Go.Proofs.Qxb6000886a.mp (W32 W8)
set_option linter.unusedVariables false
set_option linter.unusedSimpArgs false

/-- n cells of block sb, from its head on, hold the integers F 0, F 1, .. of kind q; none is frozen. -/
def Row (q : IntKind) (w : World) (sb n : Nat) (F : Nat → Int) : Prop :=
  ∀ j, j < n → w.cell? ⟨sb, j, none⟩ = some (.int q (F j)) ∧ w.frozen? ⟨sb, j, none⟩ = false

def updN (F : Nat → Int) (m : Nat) (r : Int) : Nat → Int := fun j => if j = m then r else F j

variable {q : IntKind} {w w' : World} {sb n : Nat} {F : Nat → Int}

theorem Row.block {j : Nat} (h : Row q w sb n F) (hj : j < n) : sb < w.heap.size := World.block_lt_of_cell? _ _ (h j hj).1

theorem Row.kept {row : Option Nat} (h : Row q w sb n F) (hg : w.grownBy w' row) (hne : some sb ≠ row) : Row q w' sb n F := fun j hj => by
  have hb := hg.block sb (h.block hj) hne
  exact ⟨(World.cell?_of_block (w := w) (a := ⟨sb, j, none⟩) hb).trans (h j hj).1, (World.frozen?_of_block (w := w) (a := ⟨sb, j, none⟩) hb).trans (h j hj).2⟩

theorem Row.drewN (h : Row q w sb n F) (k : Nat) : Row q (w.drewN k) sb n F := h
theorem Row.drew (h : Row q w sb n F) : Row q w.drew sb n F := h

theorem Row.set (h : Row q w sb n F) {m : Nat} (hm : m < n) (r : Int) : Row q (w.setCell ⟨sb, m, none⟩ (.int q r)) sb n (updN F m r) := fun j hj => by
  refine ⟨?_, by rw [World.frozen?_setCell]; exact (h j hj).2⟩
  unfold updN
  by_cases e : j = m
  · subst e
    rw [if_pos rfl]
    exact World.cell?_setCell_same _ _ _ (h j hj).1
  · rw [if_neg e]
    have hne : (⟨sb, m, none⟩ : Addr) ≠ ⟨sb, j, none⟩ := by intro he; apply e; simpa using he.symm
    exact (World.cell?_setCell_other (h := hne) ..).trans (h j hj).1

theorem grown_setCell (w : World) (sb m : Nat) (v : Value) : w.grownBy (w.setCell ⟨sb, m, none⟩ v) (some sb) :=
  ⟨rfl, rfl, rfl, by simp [World.setCell], fun k hk hne => Below.heap_setCell _ _ _ _ (fun e => hne (by rw [e]))⟩

theorem grown_drewN (w : World) (k : Nat) (row : Option Nat) : w.grownBy (w.drewN k) row := ⟨rfl, rfl, rfl, Nat.le_refl _, fun _ _ _ => rfl⟩
theorem grown_drew (w : World) (row : Option Nat) : w.grownBy w.drew row := ⟨rfl, rfl, rfl, Nat.le_refl _, fun _ _ _ => rfl⟩

theorem info21 : (Try.prog.info? 21).map (fun i => (i.zero, i.size, i.bytes)) = some (some (.int .i32 0), 1, 4) := by kernel_rfl

/-- 'append(s, r)', one rune, with room: the store lies in the slice's own row. -/
theorem wpList_append_in (w : World) {ops : Array Oper} {rest : List Oper} {o : Oper} {a : Act} {Q : Exit → Act → World → Prop}
    (hg : o.guard = none) (s x : Operand) (hop : o.op = Op.call { callee := Callee.builtin Builtin.append, args := #[s, x], argTypes := #[22, 22] })
    (sb m cap xb n : Nat) (r : Int) (F : Nat → Int) (hs : a.eval s = .slice (some ⟨sb, 0, none⟩) m cap) (hx : a.eval x = .slice (some ⟨xb, 0, none⟩) 1 1)
    (hxc : w.cell? ⟨xb, 0, none⟩ = some (.int .i32 r)) (hroom : m + 1 ≤ cap) (hr : Row .i32 w sb n F) (hm : m < n)
    (hK : ∀ w', w.grownBy w' (some sb) → Row .i32 w' sb n (updN F m r) → wpList Try.prog ops Q rest (a.put o.dst (.slice (some ⟨sb, 0, none⟩) (m + 1) cap)) w') :
    wpList Try.prog ops Q (o :: rest) a w := by
  refine wpList_plain hg fun K hK' => ?_
  obtain ⟨i, hi, hzz⟩ := Option.map_eq_some_iff.1 info21
  simp only [Prod.mk.injEq] at hzz
  obtain ⟨_, hs1, _⟩ := hzz
  have hc := hr m hm
  have hrun := run_append_room_cells (P := Try.prog) w 22 o.type 21 i Try.underlying22 hi sb 0 m cap ⟨xb, 0, none⟩ 1 1 [.int .i32 r] (by rw [hs1]; rfl)
    (fun j u hj => by
      cases j with
      | zero => simp at hj; subst hj; exact hxc
      | succ j => simp at hj) (by simp [Value.oneCell']) hroom
    (fun j hj => by
      have : j = 0 := by simpa using hj
      subst this
      rw [hs1]; simp only [Nat.mul_one, Nat.zero_add, Nat.add_zero]; rw [hc.1]; rfl)
    (fun j hj => by
      have : j = 0 := by simpa using hj
      subst this
      rw [hs1]; simp only [Nat.mul_one, Nat.zero_add, Nat.add_zero]; exact hc.2)
  rw [hs1] at hrun
  simp only [Nat.mul_one, Nat.zero_add] at hrun
  unfold Oper.wp
  simp [execOp, hop, resolve, invoke, builtin, hs, hx, hrun, Result.andThen]
  exact hK' _ _ (hK _ (grown_setCell w sb m (.int .i32 r)) (hr.set hm r))

/-! ### compose, plainly -/
def join (f : Int → Int) (c : Int → Int → Option Int) (S : List Int × Int) (r : Int) : Option Int :=
  if 0 ≤ S.2 ∧ (S.2 = (S.1.length : Int) - 1 ∨ f (S.1.getD (S.1.length - 1) 0) < f r) then c (S.1.getD S.2.toNat 0) r else none

def stepC (f : Int → Int) (c : Int → Int → Option Int) (S : List Int × Int) (r : Int) : List Int × Int :=
  match join f c S r with
  | some p => (S.1.set S.2.toNat p, S.2)
  | none => (S.1 ++ [r], if f r = 0 then (S.1.length : Int) else S.2)

def run (f : Int → Int) (c : Int → Int → Option Int) (l : List Int) : List Int × Int := l.foldl (stepC f c) ([], -1)

theorem run_snoc (f : Int → Int) (c : Int → Int → Option Int) (l : List Int) (r : Int) : run f c (l ++ [r]) = stepC f c (run f c l) r := by
  simp [run, List.foldl_append]

/-- what holds of the state at every step -/
theorem run_inv (f : Int → Int) (c : Int → Int → Option Int) (l : List Int) : (run f c l).1.length ≤ l.length ∧ -1 ≤ (run f c l).2 ∧ (run f c l).2 < (run f c l).1.length := by
  suffices H : ∀ (k : Nat), k ≤ l.length → (run f c (l.take k)).1.length ≤ k ∧ -1 ≤ (run f c (l.take k)).2 ∧ (run f c (l.take k)).2 < (run f c (l.take k)).1.length by
    have := H l.length (Nat.le_refl _)
    rwa [List.take_length] at this
  intro k
  induction k with
  | zero => intro _; simp [run]
  | succ k ih =>
    intro hk
    obtain ⟨h1, h2, h3⟩ := ih (by omega)
    rw [List.take_succ_eq_append_getElem (by omega), run_snoc]
    unfold stepC
    split
    · simp only [List.length_set]; omega
    · simp only [List.length_append, List.length_singleton]
      split <;> omega

end Go.Proofs.Qxb6000886a.rw
