import Derived.Test.Qxb6000886aMsc
namespace Go.Proofs.Qxb6000886a.msd
open Go.RowKit Go.Maps
open Go.Proofs.Qxb6000886a.mp (W32 W8 law21 key21)
open Go.Proofs.Qxb6000886a.rw (Row)
open Go.Proofs.Qxb6000886a.cl (Rd)
set_option linter.unusedVariables false
set_option linter.unusedSimpArgs false

/-- a slice's own value, as a datum -/
def Rs : Value → Option (DataW Unit × List MemPlace)
  | .slice none 0 0 => some (.nil, [])
  | .slice (some ⟨b, 0, none⟩) n c => some (.agg [.lit (.int .i64 (b : Int)), .lit (.int .i64 (n : Int)), .lit (.int .i64 (c : Int))], [])
  | _ => none

theorem rs_nil {v : Value} {ps : List MemPlace} (h : Rs v = some (.nil, ps)) : v = .slice none 0 0 := by
  unfold Rs at h
  split at h
  · rfl
  · simp at h
  · cases h

theorem rs_some {v : Value} {b n c : Nat} {ps : List MemPlace} (h : Rs v = some (.agg [.lit (.int .i64 (b : Int)), .lit (.int .i64 (n : Int)), .lit (.int .i64 (c : Int))], ps)) : v = .slice (some ⟨b, 0, none⟩) n c := by
  unfold Rs at h
  split at h
  · simp at h
  · simp at h
    obtain ⟨⟨h1, h2, h3⟩, _⟩ := h
    rename_i b' n' c' _
    have e1 : b' = b := by omega
    have e2 : n' = n := by omega
    have e3 : c' = c := by omega
    rw [e1, e2, e3]
  · cases h

theorem zero22 (w : World) : (zeroValue 22).run Try.prog w = .ok (.slice none 0 0) w := by kernel_rfl

/-- what a stored slice holds -/
def Holds (w : World) (mb : Nat) (D : DataW Unit) (xs : List Int) : Prop :=
  (D = .nil ∧ xs = []) ∨ ∃ b n c : Nat, D = .agg [.lit (.int .i64 (b : Int)), .lit (.int .i64 (n : Int)), .lit (.int .i64 (c : Int))] ∧ n = xs.length ∧ b ≠ mb ∧ Row .i32 w b n (fun j => xs.getD j 0) ∧ ∀ j, j < n → W32 (xs.getD j 0)

theorem Holds.kept {w w' : World} {mb : Nat} {D : DataW Unit} {xs : List Int} {row : Option Nat} (h : Holds w mb D xs) (hg : w.grownBy w' row) (hrow : row = none ∨ row = some mb) : Holds w' mb D xs := by
  rcases h with h | ⟨b, n, c, h1, h2, h3, h4, h5⟩
  · exact Or.inl h
  · refine Or.inr ⟨b, n, c, h1, h2, h3, h4.kept hg ?_, h5⟩
    rcases hrow with rfl | rfl
    · simp
    · simpa using h3

/-- the mappings: block mb is a map of at most cnt entries; at rune r it holds what g r says -/
def MapS (w : World) (mb cnt : Nat) (g : Int → Option (List Int)) : Prop :=
  ∃ D : DataW Unit, w.ownsMap Try.prog 21 Rs mb cnt D ∧ ∀ r, (g r = none → Maps.has D (.int .i32 r) = false) ∧ ∀ xs, g r = some xs → Maps.has D (.int .i32 r) = true ∧ Holds w mb (D.atKey (.int .i32 r) .nil) xs

def updO (g : Int → Option (List Int)) (r : Int) (xs : List Int) : Int → Option (List Int) := fun x => if x = r then some xs else g x

theorem MapS.made (w : World) : MapS (w.alloc (.map #[] 0)) w.heap.size 0 (fun _ => none) :=
  ⟨.map [], World.ownsMap_made w _ _ _, fun r => ⟨fun _ => rfl, fun xs h => by cases h⟩⟩

theorem MapS.lt {w : World} {mb cnt : Nat} {g : Int → Option (List Int)} (h : MapS w mb cnt g) : mb < w.heap.size := by obtain ⟨D, h, _⟩ := h; exact h.lt

theorem MapS.kept {w w' : World} {mb cnt : Nat} {g : Int → Option (List Int)} (h : MapS w mb cnt g) (hg : w.grownBy w' none) : MapS w' mb cnt g := by
  obtain ⟨D, h, hf⟩ := h
  exact ⟨D, h.kept hg (by simp), fun r => ⟨(hf r).1, fun xs hx => ⟨((hf r).2 xs hx).1, ((hf r).2 xs hx).2.kept hg (Or.inl rfl)⟩⟩⟩

theorem MapS.congr {w : World} {mb cnt : Nat} {g g' : Int → Option (List Int)} (h : MapS w mb cnt g) (e : ∀ r, g r = g' r) : MapS w mb cnt g' := by
  have : g = g' := funext e
  rw [← this]; exact h

theorem MapS.mono {w : World} {mb cnt cnt' : Nat} {g : Int → Option (List Int)} (h : MapS w mb cnt g) (hn : cnt ≤ cnt') : MapS w mb cnt' g := by
  obtain ⟨D, h, hf⟩ := h
  exact ⟨D, h.mono hn, hf⟩

/-- what may be stored -/
def Put (w : World) (mb : Nat) (a : Option Addr) (n c : Nat) (xs : List Int) : Prop :=
  (a = none ∧ n = 0 ∧ c = 0 ∧ xs = []) ∨ ∃ b, a = some ⟨b, 0, none⟩ ∧ n = xs.length ∧ b ≠ mb ∧ Row .i32 w b n (fun j => xs.getD j 0) ∧ ∀ j, j < n → W32 (xs.getD j 0)

theorem Put.kept {w w' : World} {mb n c : Nat} {a : Option Addr} {xs : List Int} {row : Option Nat} (h : Put w mb a n c xs) (hg : w.grownBy w' row) (hrow : row = none ∨ row = some mb) : Put w' mb a n c xs := by
  rcases h with h | ⟨b, h1, h2, h3, h4, h5⟩
  · exact Or.inl h
  · refine Or.inr ⟨b, h1, h2, h3, h4.kept hg ?_, h5⟩
    rcases hrow with rfl | rfl
    · simp
    · simpa using h3

theorem Put.rs {w : World} {mb n c : Nat} {a : Option Addr} {xs : List Int} (h : Put w mb a n c xs) : ∃ d, Rs (.slice a n c) = some (d, []) ∧ Holds w mb d xs := by
  rcases h with ⟨rfl, rfl, rfl, rfl⟩ | ⟨b, rfl, h2, h3, h4, h5⟩
  · exact ⟨.nil, rfl, Or.inl ⟨rfl, rfl⟩⟩
  · exact ⟨_, rfl, Or.inr ⟨b, n, c, rfl, h2, h3, h4, h5⟩⟩

theorem MapS.store {w : World} {mb cnt : Nat} {g : Int → Option (List Int)} (h : MapS w mb cnt g) (hn : cnt < maxLen) {r : Int} (hr : W32 r) {a : Option Addr} {n c : Nat} {xs : List Int} (hp : Put w mb a n c xs) :
    ∃ w', (Instr.mapUpdate 59 (.map (some mb)) (.int .i32 r) (.slice a n c)).run Try.prog w = .ok () w' ∧ MapS w' mb (cnt + 1) (updO g r xs) ∧ w.grownBy w' (some mb) := by
  obtain ⟨D, h, hf⟩ := h
  have him := h.isMap
  obtain ⟨d, hd, hH⟩ := hp.rs
  obtain ⟨w', hrun, hown, hg⟩ := h.update law21 Try.underlying59 hn (key21 hr) hd
  refine ⟨w', hrun, ⟨_, hown, fun x => ?_⟩, hg⟩
  unfold updO
  by_cases e : x = r
  · subst e
    rw [if_pos rfl]
    refine ⟨fun h => (by cases h), fun ys hy => ?_⟩
    simp only [Option.some.injEq] at hy
    subst hy
    refine ⟨has_put_same him (law21.key (key21 hr)) _, ?_⟩
    rw [atKey_put_same him (law21.key (key21 hr))]
    exact hH.kept hg (Or.inr rfl)
  · have hne : (Lit.int .i32 x) ≠ Lit.int .i32 r := fun h => e (by simpa using h)
    rw [if_neg e, has_put_other hne, atKey_put_other hne]
    exact ⟨(hf x).1, fun ys hy => ⟨((hf x).2 ys hy).1, ((hf x).2 ys hy).2.kept hg (Or.inr rfl)⟩⟩

theorem MapS.look {w : World} {mb cnt : Nat} {g : Int → Option (List Int)} (h : MapS w mb cnt g) {r : Int} (hr : W32 r) :
    ∃ a n c, (Instr.lookup 59 (.map (some mb)) (.int .i32 r) true).run Try.prog w = .ok (.tuple #[.slice a n c, .bool (g r).isSome]) w ∧ ∀ xs, g r = some xs → n = xs.length ∧ ∃ b, Rd .i32 w a n b 0 (fun j => xs.getD j 0) := by
  obtain ⟨D, h, hf⟩ := h
  obtain ⟨v, ps, hrun, hv⟩ := h.look_ok law21 Try.underlying59 (zero22 w) (zd := .nil) (zp := []) rfl (key21 hr)
  cases hgr : g r with
  | none =>
    have hh := (hf r).1 hgr
    rw [atKey_of_not_has hh] at hv
    obtain rfl := rs_nil hv
    rw [hh] at hrun
    exact ⟨none, 0, 0, hrun, fun xs h => by cases h⟩
  | some xs =>
    obtain ⟨hh, hH⟩ := (hf r).2 xs hgr
    rw [hh] at hrun
    rcases hH with ⟨h1, rfl⟩ | ⟨b, n, c, h1, h2, h3, h4, h5⟩
    · rw [h1] at hv
      obtain rfl := rs_nil hv
      exact ⟨none, 0, 0, hrun, fun ys hy => by
        simp only [Option.some.injEq] at hy
        subst hy
        exact ⟨rfl, 0, ⟨fun h => absurd h (Nat.lt_irrefl _), fun j hj => absurd hj (Nat.not_lt_zero _), fun j hj => absurd hj (Nat.not_lt_zero _)⟩⟩⟩
    · rw [h1] at hv
      obtain rfl := rs_some hv
      exact ⟨_, n, c, hrun, fun ys hy => by
        simp only [Option.some.injEq] at hy
        subst hy
        exact ⟨h2, b, ⟨fun _ => rfl, fun j hj => by rw [Nat.zero_add]; exact (h4 j hj).1, h5⟩⟩⟩

/-- ZZMapping -/
def Got (w : World) (g : Int → Option (List Int)) (r : Int) (e : Ending) : Prop :=
  ∃ a n c, e = .returned (.tuple #[.slice a n c, .bool (g r).isSome]) ∧ ∀ xs, g r = some xs → n = xs.length ∧ ∃ b, Rd .i32 w a n b 0 (fun j => xs.getD j 0)

theorem map18 (tb mb cnt : Nat) (g : Int → Option (List Int)) (r : Int) (w : World) (hS : MapS w mb cnt g) (hc4 : w.cell? ⟨tb, 4, none⟩ = some (.map (some mb))) (hr : W32 r) :
    Calls Try.prog 18 #[.pointer (some ⟨tb, 0, none⟩), .int .i32 r] w fun e w' => Got w g r e ∧ w' = w := by
  obtain ⟨a, n, c, hrun, hx⟩ := hS.look hr
  have HX : Hid (∀ xs, g r = some xs → n = xs.length ∧ ∃ b, Rd .i32 w a n b 0 (fun j => xs.getD j 0)) := hx
  clear hx
  go_enter Try.func18, Try.ntmps18
  go_wp2
  go_ret2
  exact ⟨⟨a, n, c, rfl, HX.out⟩, rfl⟩
end Go.Proofs.Qxb6000886a.msd
