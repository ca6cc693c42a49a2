import Derived.Test.Qxb6000886aRw
namespace Go.Proofs.Qxb6000886a.cm
open Go.RowKit
open Go.Proofs.Qxb6000886a.mp (W32 W8 Comb Comp cmp)
open Go.Proofs.Qxb6000886a.rw (Row updN join stepC run run_snoc run_inv)
set_option linter.unusedVariables false
set_option linter.unusedSimpArgs false

/-- the state of 'compose' behind k rounds -/
structure Inv (f : Int → Int) (g : Int → Int → Option Int) (l : List Int) (tb mb cb nm nc sb : Nat) (w wr : World) (k m : Nat) (st : Int) (F : Nat → Int) : Prop where
  state : ∃ out, run f (cmp g) (l.take k) = (out, st) ∧ out.length = m ∧ ∀ j, j < m → F j = out.getD j 0
  row : Row .i32 wr sb l.length F
  rest : ∀ j, k ≤ j → j < l.length → F j = l.getD j 0
  wf : ∀ j, j < l.length → W32 (F j)
  grown : w.grownBy wr (some sb)
  comb : Comb wr mb nm f
  comp : Comp wr cb nc g
  c1 : wr.cell? ⟨tb, 1, none⟩ = some (.map (some mb))
  c3 : wr.cell? ⟨tb, 3, none⟩ = some (.map (some cb))

section
variable {f : Int → Int} {g : Int → Int → Option Int} {l : List Int} {tb mb cb nm nc sb : Nat} {w wr w' : World} {k m : Nat} {st : Int} {F : Nat → Int}

theorem join_eq {out : List Int} {r : Int} (c : Int → Int → Option Int) (ho : out.length = m) (hF : ∀ j, j < m → F j = out.getD j 0) (hst : st < m) :
    join f c (out, st) r = if 0 ≤ st ∧ (st = (m : Int) - 1 ∨ f (F (m - 1)) < f r) then c (F st.toNat) r else none := by
  unfold join
  simp only [ho]
  by_cases h0 : 0 ≤ st
  · rw [hF st.toNat (by omega), hF (m - 1) (by omega)]
  · rw [if_neg (fun h => h0 h.1), if_neg (fun h => h0 h.1)]

theorem take_next (hk : k < l.length) : l.take (k + 1) = l.take k ++ [l.getD k 0] := by
  rw [List.take_succ_eq_append_getElem hk, List.getD_eq_getElem?_getD, List.getElem?_eq_getElem hk]; rfl

theorem Inv.grow (I : Inv f g l tb mb cb nm nc sb w wr k m st F) (h1 : tb ≠ sb) (h2 : mb ≠ sb) (h3 : cb ≠ sb) (hg : wr.grownBy w' (some sb)) :
    w.grownBy w' (some sb) ∧ Comb w' mb nm f ∧ Comp w' cb nc g ∧ w'.cell? ⟨tb, 1, none⟩ = some (.map (some mb)) ∧ w'.cell? ⟨tb, 3, none⟩ = some (.map (some cb)) :=
  ⟨I.grown.trans hg, I.comb.kept hg (by simpa using h2), I.comp.kept hg (by simpa using h3), hg.cell I.c1 (by simpa using h1), hg.cell I.c3 (by simpa using h1)⟩

/-- a rune that joins nothing is appended -/
theorem Inv.app (I : Inv f g l tb mb cb nm nc sb w wr k m st F) (h1 : tb ≠ sb) (h2 : mb ≠ sb) (h3 : cb ≠ sb) (hk : k < l.length) (hm : m ≤ k) (hst : st < m) {r : Int} (hr : r = F k)
    (hj : ¬ (0 ≤ st ∧ (st = (m : Int) - 1 ∨ f (F (m - 1)) < f r)) ∨ cmp g (F st.toNat) r = none) (hg : wr.grownBy w' (some sb)) (hrow : Row .i32 w' sb l.length (updN F m r)) {st' : Int} (hs : st' = if f r = 0 then (m : Int) else st) :
    Inv f g l tb mb cb nm nc sb w w' (k + 1) (m + 1) st' (updN F m r) := by
  obtain ⟨a1, a2, a3, a4, a5⟩ := I.grow h1 h2 h3 hg
  obtain ⟨out, ho, hl, hF⟩ := I.state
  have hr' : r = l.getD k 0 := by rw [hr]; exact I.rest k (Nat.le_refl _) hk
  refine ⟨⟨out ++ [r], ?_, by simp [hl], fun j hjm => ?_⟩, hrow, fun j h hj' => ?_, fun j hj' => ?_, a1, a2, a3, a4, a5⟩
  · rw [take_next hk, run_snoc, ho, ← hr']
    have hn : join f (cmp g) (out, st) r = none := by
      rw [join_eq (cmp g) hl hF hst]
      rcases hj with hj | hj
      · rw [if_neg hj]
      · split
        · exact hj
        · rfl
    unfold stepC
    rw [hn, hs]
    simp only [hl]
  · unfold updN
    by_cases e : j = m
    · subst e
      rw [if_pos rfl, ← hl]
      simp
    · rw [if_neg e, hF j (by omega), List.getD_eq_getElem?_getD, List.getD_eq_getElem?_getD, List.getElem?_append_left (by omega)]
  · unfold updN
    rw [if_neg (by omega)]
    exact I.rest j (by omega) hj'
  · unfold updN
    split
    · rw [hr]; exact I.wf k hk
    · exact I.wf j hj'

/-- a rune that joins: the starter is written over -/
theorem Inv.joined (I : Inv f g l tb mb cb nm nc sb w wr k m st F) (h1 : tb ≠ sb) (h2 : mb ≠ sb) (h3 : cb ≠ sb) (hk : k < l.length) (hm : m ≤ k) (hst : st < m) {r p : Int} (hr : r = F k) (hp : W32 p)
    (h0 : 0 ≤ st) (hj : st = (m : Int) - 1 ∨ f (F (m - 1)) < f r) (hc : cmp g (F st.toNat) r = some p) (hg : wr.grownBy w' (some sb)) (hrow : Row .i32 w' sb l.length (updN F st.toNat p)) :
    Inv f g l tb mb cb nm nc sb w w' (k + 1) m st (updN F st.toNat p) := by
  obtain ⟨a1, a2, a3, a4, a5⟩ := I.grow h1 h2 h3 hg
  obtain ⟨out, ho, hl, hF⟩ := I.state
  have hr' : r = l.getD k 0 := by rw [hr]; exact I.rest k (Nat.le_refl _) hk
  refine ⟨⟨out.set st.toNat p, ?_, by simp [hl], fun j hjm => ?_⟩, hrow, fun j h hj' => ?_, fun j hj' => ?_, a1, a2, a3, a4, a5⟩
  · rw [take_next hk, run_snoc, ho, ← hr']
    have hn : join f (cmp g) (out, st) r = some p := by
      rw [join_eq (cmp g) hl hF hst, if_pos ⟨h0, hj⟩, hc]
    unfold stepC
    rw [hn]
  · unfold updN
    by_cases e : j = st.toNat
    · subst e
      rw [if_pos rfl, List.getD_eq_getElem?_getD, List.getElem?_set_self (by omega)]
      rfl
    · rw [if_neg e, hF j hjm, List.getD_eq_getElem?_getD, List.getD_eq_getElem?_getD, List.getElem?_set_ne (fun h => e h.symm)]
  · unfold updN
    rw [if_neg (by omega)]
    exact I.rest j (by omega) hj'
  · unfold updN
    split
    · exact hp
    · exact I.wf j hj'

theorem Inv.drawn (I : Inv f g l tb mb cb nm nc sb w wr k m st F) (h1 : tb ≠ sb) (h2 : mb ≠ sb) (h3 : cb ≠ sb) (n : Nat) : Inv f g l tb mb cb nm nc sb w (wr.drewN n) k m st F := by
  obtain ⟨a1, a2, a3, a4, a5⟩ := I.grow h1 h2 h3 (rw.grown_drewN wr n _)
  exact ⟨I.state, I.row.drewN n, I.rest, I.wf, a1, a2, a3, a4, a5⟩
end

theorem cell_one (w : World) (r : Int) : (w.alloc (.cells #[.int .i32 r] 21)).cell? ⟨w.heap.size, 0, none⟩ = some (.int .i32 r) := by
  simp

theorem hg_range {a b p : Int} (h : han.hg a b = some p) : 0 ≤ p ∧ p ≤ 1000000 := by
  unfold han.hg at h
  split at h
  · simp at h; omega
  · split at h
    · simp at h; omega
    · cases h

theorem w32_mk {p : Int} (h0 : -2147483648 ≤ p) (h1 : p ≤ 2147483647) : W32 p := by
  exact WalkArith.wf_i32 ⟨h0, h1⟩

theorem cmp_wf {w : World} {cb nc : Nat} {g : Int → Int → Option Int} (hC : Comp w cb nc g) {x r p : Int} (hx : W32 x) (hr : W32 r) (h : cmp g x r = some p) : W32 p := by
  unfold mp.cmp at h
  split at h
  · rename_i q hq
    simp at h
    subst h
    have := hg_range hq
    exact w32_mk (by omega) (by omega)
  · have := (hC.look hx hr).2
    rw [h] at this
    exact this

set_option maxHeartbeats 4000000 in
theorem compose (f : Int → Int) (g : Int → Int → Option Int) (l : List Int) (tb mb cb nm nc sb cap : Nat) (w : World)
    (hn : l.length ≤ 1048576) (hcap : l.length ≤ cap) (hcm : cap ≤ maxLen) (h1 : tb ≠ sb) (h2 : mb ≠ sb) (h3 : cb ≠ sb)
    (hrow : Row .i32 w sb l.length (fun j => l.getD j 0)) (hwf : ∀ j, j < l.length → W32 (l.getD j 0))
    (hc1 : w.cell? ⟨tb, 1, none⟩ = some (.map (some mb))) (hc3 : w.cell? ⟨tb, 3, none⟩ = some (.map (some cb)))
    (hm : Comb w mb nm f) (hc : Comp w cb nc g) :
    Calls Try.prog 38 #[.pointer (some ⟨tb, 0, none⟩), .slice (some ⟨sb, 0, none⟩) l.length cap] w fun e w' =>
      ∃ out st F, run f (cmp g) l = (out, st) ∧ e = .returned (.slice (some ⟨sb, 0, none⟩) out.length cap) ∧ Row .i32 w' sb l.length F ∧ (∀ j, j < out.length → F j = out.getD j 0) ∧ w.grownBy w' (some sb) := by
  unfold maxLen at hcm
  generalize hL : l.length = n at *
  have HL := hL
  have HHL : Hid (l.length = n) := hL
  clear hL HL
  go_enter Try.func38, Try.ntmps38
  go_wp2
  go_loopw [5, 6, 17] (fun co sv iv wr => ∃ (k m : Nat) (st : Int) (F : Nat → Int), iv = .int .i64 k ∧ co = .slice (some ⟨sb, 0, none⟩) m cap ∧ sv = .int .i64 st ∧ k ≤ n ∧ m ≤ k ∧ -1 ≤ st ∧ st < m ∧ Inv f g l tb mb cb nm nc sb w wr k m st F) (fun _ _ iv _ => n - (intOf iv).toNat)
  case atStart =>
    exact ⟨0, 0, -1, fun j => l.getD j 0, rfl, rfl, rfl, Nat.zero_le _, Nat.le_refl _, by omega, by omega, ⟨[], by simp [run], rfl, fun j hj => by omega⟩, by rw [HHL.out]; exact hrow, fun j _ _ => rfl, by rw [HHL.out]; exact hwf, World.grownBy.refl _ _, hm, hc, hc1, hc3⟩
  case round =>
    obtain ⟨k, m, st, F, rfl, rfl, rfl, hk, hmk, hst0, hst1, I⟩ := hrel
    by_cases hlt : k < n
    · obtain ⟨r, hr⟩ : ∃ r, r = F k := ⟨_, rfl⟩
      have hrow := I.row
      have hck : wr.cell? ⟨sb, k, none⟩ = some (.int .i32 r) := by rw [hr]; exact (I.row k (by rw [HHL.out]; exact hlt)).1
      have hWr : W32 r := by rw [hr]; exact I.wf k (by rw [HHL.out]; exact hlt)
      have Hr : Hid (r = F k) := hr
      clear hr
      obtain ⟨hlk, hw8⟩ := I.comb.look hWr
      have hc1 := I.c1
      have HI : Hid (Inv f g l tb mb cb nm nc sb w wr k m st F) := I
      clear I hrow
      by_cases hs : st = -1
      · subst hs
        go_wp2_with (at_builtin; refine rw.wpList_append_in _ rfl _ _ rfl sb m cap wr.heap.size n r F rfl rfl ?_ ?_ ?_ ?_ ?_; (exact cell_one _ _); omega; (have := HI.out.row; rw [HHL.out] at this; exact this.kept (World.grownBy_alloc _ _ none) (by simp)); omega; intro w2 hg2 hr2)
        all_goals
          go_roundw
          case rel =>
            exact ⟨k + 1, m + 1, _, _, by go_num, rfl, rfl, by omega, by omega, by omega, by omega, HI.out.app h1 h2 h3 (by rw [HHL.out]; exact hlt) hmk hst1 Hr.out (Or.inl (by omega)) ((World.grownBy_alloc _ _ _).trans hg2) (by rw [HHL.out]; exact hr2) (by simp_all)⟩
          case measure => simp [intOf]; omega
      · obtain ⟨q, rfl⟩ : ∃ q : Nat, st = q := ⟨st.toNat, by omega⟩
        have hqm : q < m := by omega
        obtain ⟨x, hx⟩ : ∃ x, x = F q := ⟨_, rfl⟩
        have hcq : wr.cell? ⟨sb, q, none⟩ = some (.int .i32 x) := by rw [hx]; exact (HI.out.row q (by rw [HHL.out]; omega)).1
        have hWx : W32 x := by rw [hx]; exact HI.out.wf q (by rw [HHL.out]; omega)
        have Hx : Hid (x = F q) := hx
        clear hx
        have hfq : wr.frozen? ⟨sb, q, none⟩ = false := (HI.out.row q (by rw [HHL.out]; omega)).2
        have hc3' := HI.out.c3
        have hcomp := HI.out.comp
        have HROW : Hid (Row .i32 wr sb n F) := by have := HI.out.row; rw [HHL.out] at this; exact this
        by_cases hqe : q = m - 1
        · have hd : ((q : Int) == (m : Int) - 1) = true := by simp; omega
          have hqe' : (q : Int) = (m : Int) - 1 := by omega
          have HQ : Hid ((q : Int) = (m : Int) - 1) := hqe'
          clear hqe hs hqe'
          go_wp2_with (at_builtin; fail)
          go_quiet (fail)
          go_wp2_with fail
          cases hj : cmp g x r with
          | none =>
            have HJ : Hid (cmp g x r = none) := hj
            have c := mp.c39 tb cb nc g x r (wr.drewN nq) hc3' (hcomp.drewN nq) hWx hWr
            rw [hj] at c
            clear hj
            refine c.mono ?_
            rintro e w' ⟨rfl, rfl⟩
            clear c
            go_wp2_with (at_builtin; refine rw.wpList_append_in _ rfl _ _ rfl sb m cap wr.heap.size n r F rfl rfl ?_ ?_ ?_ ?_ ?_; (first | exact cell_one _ _ | simp); omega; (first | exact (HROW.out.kept (World.grownBy_alloc _ _ none) (by simp)).drewN _ | exact HROW.out.kept (World.grownBy_alloc _ _ none) (by simp)); omega; intro w2 hg2 hr2)
            all_goals
              go_roundw
              case rel =>
                exact ⟨k + 1, m + 1, _, _, by go_num, rfl, rfl, by omega, by omega, by omega, by omega, (HI.out.drawn h1 h2 h3 nq).app h1 h2 h3 (by rw [HHL.out]; exact hlt) hmk hst1 Hr.out (Or.inr (by rw [Int.toNat_natCast, ← Hx.out]; exact HJ.out)) (((World.grownBy_alloc _ _ _)).trans hg2) (by rw [HHL.out]; exact hr2) (by simp_all)⟩
              case measure => simp [intOf]; omega
          | some p =>
            have HJ : Hid (cmp g x r = some p) := hj
            have hWp : W32 p := cmp_wf HI.out.comp hWx hWr hj
            have c := mp.c39 tb cb nc g x r (wr.drewN nq) hc3' (hcomp.drewN nq) hWx hWr
            rw [hj] at c
            clear hj
            refine c.mono ?_
            rintro e w' ⟨rfl, rfl⟩
            clear c
            go_wp2
            go_roundw
            case rel =>
              exact ⟨k + 1, m, _, _, by go_num, rfl, rfl, by omega, by omega, by omega, by omega, (HI.out.drawn h1 h2 h3 nq).joined h1 h2 h3 (by rw [HHL.out]; exact hlt) hmk hst1 Hr.out hWp (by omega) (Or.inl HQ.out) (by rw [Int.toNat_natCast, ← Hx.out]; exact HJ.out) (rw.grown_setCell _ sb q (.int .i32 p)) ((HI.out.row.drewN nq).set (by rw [HHL.out]; omega) p)⟩
            case measure => simp [intOf]; omega
        · have hd : ((q : Int) == (m : Int) - 1) = false := by simp; omega
          obtain ⟨y, hy⟩ : ∃ y, y = F (m - 1) := ⟨_, rfl⟩
          have hcy : wr.cell? ⟨sb, m - 1, none⟩ = some (.int .i32 y) := by rw [hy]; exact (HI.out.row (m - 1) (by rw [HHL.out]; omega)).1
          have hWy : W32 y := by rw [hy]; exact HI.out.wf (m - 1) (by rw [HHL.out]; omega)
          have Hy : Hid (y = F (m - 1)) := hy
          clear hy
          have hly : ∀ nq, (Instr.lookup 57 (.map (some mb)) (.int .i32 y) false).run Try.prog (wr.drewN nq) = .ok (.int .u8 (f y)) (wr.drewN nq) := fun nq => ((HI.out.drawn h1 h2 h3 nq).comb.look hWy).1
          have hneq : ¬ (q : Int) = (m : Int) - 1 := by omega
          clear hqe hs
          by_cases hlt2 : f y < f r
          · go_wp2_with (at_builtin; fail)
            go_quiet (fail)
            go_wp2_with fail
            cases hj : cmp g x r with
            | none =>
              have HJ : Hid (cmp g x r = none) := hj
              have c := mp.c39 tb cb nc g x r (wr.drewN nq) hc3' (hcomp.drewN nq) hWx hWr
              rw [hj] at c
              clear hj
              refine c.mono ?_
              rintro e w' ⟨rfl, rfl⟩
              clear c
              go_wp2_with (at_builtin; refine rw.wpList_append_in _ rfl _ _ rfl sb m cap wr.heap.size n r F rfl rfl ?_ ?_ ?_ ?_ ?_; (first | exact cell_one _ _ | simp); omega; (first | exact (HROW.out.kept (World.grownBy_alloc _ _ none) (by simp)).drewN _ | exact HROW.out.kept (World.grownBy_alloc _ _ none) (by simp)); omega; intro w2 hg2 hr2)
              all_goals
                go_roundw
                case rel =>
                  exact ⟨k + 1, m + 1, _, _, by go_num, rfl, rfl, by omega, by omega, by omega, by omega, (HI.out.drawn h1 h2 h3 nq).app h1 h2 h3 (by rw [HHL.out]; exact hlt) hmk hst1 Hr.out (Or.inr (by rw [Int.toNat_natCast, ← Hx.out]; exact HJ.out)) (((World.grownBy_alloc _ _ _)).trans hg2) (by rw [HHL.out]; exact hr2) (by simp_all)⟩
                case measure => simp [intOf]; omega
            | some p =>
              have HJ : Hid (cmp g x r = some p) := hj
              have hWp : W32 p := cmp_wf HI.out.comp hWx hWr hj
              have c := mp.c39 tb cb nc g x r (wr.drewN nq) hc3' (hcomp.drewN nq) hWx hWr
              rw [hj] at c
              clear hj
              refine c.mono ?_
              rintro e w' ⟨rfl, rfl⟩
              clear c
              go_wp2
              go_roundw
              case rel =>
                exact ⟨k + 1, m, _, _, by go_num, rfl, rfl, by omega, by omega, by omega, by omega, (HI.out.drawn h1 h2 h3 nq).joined h1 h2 h3 (by rw [HHL.out]; exact hlt) hmk hst1 Hr.out hWp (by omega) (Or.inr (by rw [← Hy.out]; exact hlt2)) (by rw [Int.toNat_natCast, ← Hx.out]; exact HJ.out) (rw.grown_setCell _ sb q (.int .i32 p)) ((HI.out.row.drewN nq).set (by rw [HHL.out]; omega) p)⟩
              case measure => simp [intOf]; omega
          · go_wp2_with (at_builtin; fail)
            go_quiet (fail)
            go_wp2_with (at_builtin; refine rw.wpList_append_in _ rfl _ _ rfl sb m cap wr.heap.size n r F rfl rfl ?_ ?_ ?_ ?_ ?_; (first | exact cell_one _ _ | simp); omega; (first | exact (HROW.out.kept (World.grownBy_alloc _ _ none) (by simp)).drewN _ | exact HROW.out.kept (World.grownBy_alloc _ _ none) (by simp)); omega; intro w2 hg2 hr2)
            all_goals
              go_roundw
              case rel =>
                exact ⟨k + 1, m + 1, _, _, by go_num, rfl, rfl, by omega, by omega, by omega, by omega, (HI.out.drawn h1 h2 h3 nq).app h1 h2 h3 (by rw [HHL.out]; exact hlt) hmk hst1 Hr.out (Or.inl (by rw [← Hy.out]; rintro ⟨_, h | h⟩ <;> omega)) (((World.grownBy_alloc _ _ _)).trans hg2) (by rw [HHL.out]; exact hr2) (by simp_all)⟩
              case measure => simp [intOf]; omega
    · have hkn : k = n := by omega
      subst hkn
      go_wp2
      go_ret
      obtain ⟨out, ho, hl, hF⟩ := I.state
      rw [← HHL.out, List.take_length] at ho
      exact ⟨out, st, F, ho, by simp [hl], by have := I.row; rw [HHL.out] at this; exact this, by rw [hl]; exact hF, I.grown⟩
end Go.Proofs.Qxb6000886a.cm
