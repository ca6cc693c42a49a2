import Derived.Test.Qxb6000886aMsg
namespace Go.Proofs.Qxb6000886a.msh
open Go.RowKit
open Go.Proofs.Qxb6000886a.mp (W32 W8)
open Go.Proofs.Qxb6000886a.rw (Row updN)
open Go.Proofs.Qxb6000886a.tb (Sl)
open Go.Proofs.Qxb6000886a.msa (sepB ctlB)
open Go.Proofs.Qxb6000886a.msb (CatOk SelOk RelB)
open Go.Proofs.Qxb6000886a.msc (SlS)
set_option linter.unusedVariables false
set_option linter.unusedSimpArgs false

/-- a slice of runes in a row of the call's own -/
def Pts (w : World) (base g n cap : Nat) : Prop :=
  base ≤ g ∧ ∃ cur, w.heap[g]? = some (.cells cur 21) ∧ n ≤ cap ∧ cap ≤ maxLen ∧ cur.size = cap ∧ ∃ l : List Int, cur.toList.take n = l.map (Value.int .i32) ∧ ∀ x ∈ l, W32 x

theorem Pts.kept {w w' : World} {base g n cap : Nat} (h : Pts w base g n cap) (hg : w.grownBy w' none) : Pts w' base g n cap := by
  obtain ⟨h1, cur, h2, r⟩ := h
  exact ⟨h1, cur, (hg.block g (Array.getElem?_eq_some_iff.1 h2).1 (by simp)).trans h2, r⟩

theorem Pts.row {w : World} {base g n cap : Nat} (h : Pts w base g n cap) : ∃ F, Row .i32 w g n F ∧ ∀ j, j < n → W32 (F j) := by
  obtain ⟨h1, cur, h2, h3, h4, h5, l, h6, h7⟩ := h
  have hl : l.length = n := by
    have := congrArg List.length h6
    simp at this
    omega
  refine ⟨fun j => l.getD j 0, cl.row_cells h2 (fun j hj => ?_), fun j hj => ?_⟩
  · have e : (cur.toList.take n)[j]? = some (Value.int .i32 (l.getD j 0)) := by
      rw [h6, List.getElem?_map, List.getD_eq_getElem?_getD, List.getElem?_eq_getElem (by omega)]
      rfl
    rw [List.getElem?_take, if_pos hj] at e
    simpa using e
  · show W32 (l.getD j 0)
    rw [List.getD_eq_getElem?_getD, List.getElem?_eq_getElem (by omega)]
    exact h7 _ (List.getElem_mem _)

theorem wpList_append_pts (w : World) {ops : Array Oper} {rest : List Oper} {o : Oper} {a : Act} {Q : Exit → Act → World → Prop}
    (hg : o.guard = none) (s x : Operand) (hop : o.op = Op.call { callee := Callee.builtin Builtin.append, args := #[s, x], argTypes := #[22, 22] })
    (base g n cap xb : Nat) (r : Int) (hs : a.eval s = .slice (some ⟨g, 0, none⟩) n cap) (hx : a.eval x = .slice (some ⟨xb, 0, none⟩) 1 1)
    (hxc : w.cell? ⟨xb, 0, none⟩ = some (.int .i32 r)) (hr : W32 r) (hown : Pts w base g n cap) (hn : n ≤ 1099511627776) (hbase : base ≤ w.heap.size)
    (hK : ∀ g' cap' w', Pts w' base g' (n + 1) cap' → w.grownBy w' (some g) → wpList Try.prog ops Q rest (a.put o.dst (.slice (some ⟨g', 0, none⟩) (n + 1) cap')) w') :
    wpList Try.prog ops Q (o :: rest) a w := by
  obtain ⟨h1, cur, h2, h3, h4, h5, l, h6, h7⟩ := hown
  obtain ⟨i, hi, hzz⟩ := Option.map_eq_some_iff.1 rw.info21
  simp only [Prod.mk.injEq] at hzz
  obtain ⟨hz, hs1, hby⟩ := hzz
  have hl : l.length = n := by
    have := congrArg List.length h6
    simp at this
    omega
  have hrow : w.ownsRow base 21 1 (.slice (some ⟨g, 0, none⟩) n cap) n (l.map (Value.int .i32)) :=
    ⟨by simp [hl], Or.inr ⟨g, cap, cur, rfl, h1, h2, h3, h4, by omega, by rw [Nat.mul_one]; exact h6⟩⟩
  refine wpList_append_own (P := Try.prog) (w := w) hg s x 22 hop base 21 i (.int .i32 0) 1 4 Try.underlying22 hi hz hs1 hby rfl (by decide) _ n _ hs hrow ⟨xb, 0, none⟩ 1 1 [.int .i32 r] hx rfl
    (fun j u hj => by
      cases j with
      | zero => simp at hj; subst hj; exact hxc
      | succ j => simp at hj) (by simp [Value.oneCell']) (by unfold maxLen; omega) (by omega) hbase (fun v' w' hown' hgrow hnil => ?_)
  obtain ⟨hlen, hv | ⟨g', cap', cur', rfl, k1, k2, k3, k4, k5, k6⟩⟩ := hown'
  · omega
  · refine hK g' cap' w' ⟨k1, cur', k2, k3, k4, by omega, l ++ [r], ?_, ?_⟩ hgrow
    · rw [Nat.mul_one] at k6
      rw [k6]; simp
    · intro x hx
      rcases List.mem_append.1 hx with h | h
      · exact h7 x h
      · simp at h; subst h; exact hr

theorem start7 (w : World) (p : Int) (hp : W32 p) : Pts (w.alloc (.cells #[.int .i32 p, .int .i32 133, .int .i32 173, .int .i32 847, .int .i32 6150, .int .i32 8203, .int .i32 65532] 21)) w.heap.size w.heap.size 7 7 := by
  refine ⟨Nat.le_refl _, _, (MapKept.heap_alloc w _).1, Nat.le_refl _, by decide, rfl, [p, 133, 173, 847, 6150, 8203, 65532], rfl, ?_⟩
  intro x hx
  simp only [List.mem_cons, List.not_mem_nil, or_false] at hx
  rcases hx with rfl | rfl | rfl | rfl | rfl | rfl | rfl
  · exact hp
  all_goals exact cm.w32_mk (by omega) (by omega)

def Cands (w : World) (e : Ending) (w' : World) : Prop := ∃ g n cap F, e = .returned (.slice (some ⟨g, 0, none⟩) n cap) ∧ Row .i32 w' g n F ∧ (∀ j, j < n → W32 (F j)) ∧ n ≤ 1073741824 ∧ w.heap.size ≤ g ∧ w.grownBy w' none

set_option maxRecDepth 100000 in
set_option maxHeartbeats 8000000 in
theorem cand17 (a0 a1 a2 a3 a5 a6 : Option Addr) (n0 n1 n2 n3 n5 n6 c0 c1 c2 c3 c5 c6 b0 b1 b2 b3 b5 b6 N K : Nat) (S : Nat → ByteArray) (F G keys P Q : Nat → Int) (p : Int) (w : World) (hp : W32 p)
    (hN : N = min (min n0 n1) n2) (hKK : K = min n5 n6) (l2 : n2 ≤ 4096) (l3 : n3 ≤ 4096) (l5 : n5 ≤ 4096)
    (s0 : Sl .i32 w a0 n0 b0 F) (s1 : Sl .i32 w a1 n1 b1 G) (s2 : SlS w a2 n2 b2 S) (s3 : Sl .i32 w a3 n3 b3 keys) (s5 : Sl .i32 w a5 n5 b5 P) (s6 : Sl .i32 w a6 n6 b6 Q)
    (hcats : ∀ j, j < N → CatOk S F G j) (hsels : ∀ j, j < K → SelOk P Q j) :
    Calls Try.prog 17 #[.slice a0 n0 c0, .slice a1 n1 c1, .slice a2 n2 c2, .slice a3 n3 c3, .slice a5 n5 c5, .slice a6 n6 c6, .int .i32 p] w (Cands w) := by
  have hN0 : N ≤ n0 := by omega
  have hN1 : N ≤ n1 := by omega
  have hN2 : N ≤ n2 := by omega
  have hK5 : K ≤ n5 := by omega
  have hK6 : K ≤ n6 := by omega
  have l0 := s0.le
  have l1 := s1.le
  have l6 := s6.le
  have HN : Hid (sm.mn (sm.mn n0 n1) n2 = (N : Int)) := by show _ = _; unfold sm.mn; rw [hN]; split <;> split <;> omega
  have HK : Hid (sm.mn n5 n6 = (K : Int)) := by show _ = _; unfold sm.mn; rw [hKK]; split <;> omega
  have HCATS : Hid (∀ j, j < N → CatOk S F G j) := hcats
  have HSELS : Hid (∀ j, j < K → SelOk P Q j) := hsels
  clear hN hKK hcats hsels
  have hst := start7 w p hp
  have HST : Hid (Pts (w.alloc (.cells #[.int .i32 p, .int .i32 133, .int .i32 173, .int .i32 847, .int .i32 6150, .int .i32 8203, .int .i32 65532] 21)) w.heap.size w.heap.size 7 7) := hst
  clear hst
  go_enter Try.func17, Try.ntmps17
  go_wp2_with fail
  refine (sm.min32 _ _ _ _).mono ?_
  rintro e wc ⟨rfl, hwc⟩
  subst hwc
  rw [HN.out]
  go_wp2_with fail
  go_loopw [15, 17] (fun pv iv wr => ∃ (k g n cap : Nat), iv = .int .i64 k ∧ k ≤ N ∧ pv = .slice (some ⟨g, 0, none⟩) n cap ∧ n ≤ 7 + 16384 * k ∧ Pts wr w.heap.size g n cap ∧ w.grownBy wr none) (fun _ iv _ => N - (intOf iv).toNat)
  case atStart => exact ⟨0, w.heap.size, 7, 7, rfl, Nat.zero_le _, rfl, by omega, HST.out, World.grownBy_alloc _ _ _⟩
  case round =>
    obtain ⟨k, g, n, cap, rfl, hk, rfl, hn, hpts, hg⟩ := hrel
    rename World => wq
    by_cases hlt : k < N
    · have e0 := s0.addr (by omega)
      have e1 := s1.addr (by omega)
      have e2 := s2.addr (by omega)
      have r0 := (s0.row.kept hg (by simp) k (by omega)).1
      have r1 := (s1.row.kept hg (by simp) k (by omega)).1
      have r2 := hg.cell (s2.row k (by omega)) (by simp)
      have bx := bounds_i32 (s0.wf k (by omega))
      have bY := bounds_i32 (s1.wf k (by omega))
      have hok := HCATS.out k hlt
      unfold msb.CatOk at hok
      generalize hx : F k = x at r0 bx hok
      generalize hy : G k = y at r1 bY hok
      generalize hs : S k = s at r2 hok
      have HOK : Hid (RelB s = true → y ≤ 1114111 ∧ (y - x < 16384 ∨ y - 128 < 16384)) := hok
      obtain ⟨bx1, bx2⟩ := bx
      obtain ⟨by1, by2⟩ := bY
      clear hx hy hs hok
      subst e0
      subst e1
      subst e2
      have hgsz := hg.size
      cases hsep : sepB s
      · cases hctl : ctlB s
        · go_wp2_with (first | (go_at_call 33; refine (msa.sep33 _ _).mono ?_; rintro e w' ⟨rfl, rfl⟩) | (go_at_call 34; refine (msa.ctl34 _ _).mono ?_; rintro e w' ⟨rfl, rfl⟩))
          go_roundw
          case rel => exact ⟨k + 1, g, n, cap, by go_num, by omega, rfl, by omega, hpts, hg⟩
          case measure => simp [intOf]; omega
        · obtain ⟨hy1, hy2⟩ := HOK.out (by unfold msb.RelB; rw [hsep, hctl]; rfl)
          by_cases hx128 : x < 128
          · go_wp2_with (first | (go_at_call 33; refine (msa.sep33 _ _).mono ?_; rintro e w' ⟨rfl, rfl⟩) | (go_at_call 34; refine (msa.ctl34 _ _).mono ?_; rintro e w' ⟨rfl, rfl⟩))
            go_loopw [15, 20] (fun pv rv wr => ∃ (z : Int) (g' n' cap' : Nat), rv = .int .i32 z ∧ pv = .slice (some ⟨g', 0, none⟩) n' cap' ∧ 128 ≤ z ∧ (z ≤ y + 1 ∨ z = 128) ∧ (n' : Int) ≤ n + (z - 128) ∧ Pts wr w.heap.size g' n' cap' ∧ w.grownBy wr none) (fun _ rv _ => (y + 1 - intOf rv).toNat)
            case atStart => exact ⟨128, g, n, cap, rfl, rfl, Int.le_refl _, Or.inr rfl, by omega, hpts, hg⟩
            case round =>
              rename World => wz
              obtain ⟨z, g', n', cap', rfl, rfl, hz0, hz1, hn', hpts', hg'⟩ := hrel
              have hgsz' := hg'.size
              by_cases hzy : z ≤ y
              · have hwz : W32 z := cm.w32_mk (p := z) (by omega) (by omega)
                go_wp2_with (at_builtin; refine wpList_append_pts _ rfl _ _ rfl w.heap.size g' n' cap' wz.heap.size z rfl rfl ?_ ?_ ?_ ?_ ?_ ?_; exact cm.cell_one _ _; exact hwz; exact hpts'.kept (World.grownBy_alloc _ _ _); omega; (simp; omega); intro g2 cap2 w2 hp2 hg2)
                go_roundw
                case rel =>
                  have hfin : ∃ (z' : Int) (g' n'' cap' : Nat), (.int .i32 (z + 1) : Value) = .int .i32 z' ∧ (.slice (some ⟨g2, 0, none⟩) (n' + 1) cap2 : Value) = .slice (some ⟨g', 0, none⟩) n'' cap' ∧ 128 ≤ z' ∧ (z' ≤ y + 1 ∨ z' = 128) ∧ (n'' : Int) ≤ n + (z' - 128) ∧ Pts w2 w.heap.size g' n'' cap' ∧ w.grownBy w2 none :=
                    ⟨z + 1, g2, n' + 1, cap2, rfl, rfl, by omega, Or.inl (by omega), by omega, hp2, hg'.andThen ((World.grownBy_alloc wz _ (some g')).trans hg2) (fun j hj => by cases hj; left; exact hpts'.1)⟩
                  first | exact hfin | ((repeat apply Exists.intro); exact ⟨hfin, rfl⟩)
                case measure => simp [intOf]; omega
              · go_wp2_with fail
                go_roundw
                case rel =>
                  have hfin : ∃ (k' g2 n'' cap'' : Nat), (.int .i64 ((k : Int) + 1) : Value) = .int .i64 k' ∧ k' ≤ N ∧ (.slice (some ⟨g', 0, none⟩) n' cap' : Value) = .slice (some ⟨g2, 0, none⟩) n'' cap'' ∧ n'' ≤ 7 + 16384 * k' ∧ Pts wz w.heap.size g2 n'' cap'' ∧ w.grownBy wz none :=
                    ⟨k + 1, g', n', cap', by go_num, by omega, rfl, by omega, hpts', hg'⟩
                  first | exact hfin | ((repeat apply Exists.intro); exact ⟨hfin, rfl⟩)
                case measure => simp [intOf]; omega
          · go_wp2_with (first | (go_at_call 33; refine (msa.sep33 _ _).mono ?_; rintro e w' ⟨rfl, rfl⟩) | (go_at_call 34; refine (msa.ctl34 _ _).mono ?_; rintro e w' ⟨rfl, rfl⟩))
            go_loopw [15, 20] (fun pv rv wr => ∃ (z : Int) (g' n' cap' : Nat), rv = .int .i32 z ∧ pv = .slice (some ⟨g', 0, none⟩) n' cap' ∧ x ≤ z ∧ (z ≤ y + 1 ∨ z = x) ∧ (n' : Int) ≤ n + (z - x) ∧ Pts wr w.heap.size g' n' cap' ∧ w.grownBy wr none) (fun _ rv _ => (y + 1 - intOf rv).toNat)
            case atStart => exact ⟨x, g, n, cap, rfl, rfl, Int.le_refl _, Or.inr rfl, by omega, hpts, hg⟩
            case round =>
              rename World => wz
              obtain ⟨z, g', n', cap', rfl, rfl, hz0, hz1, hn', hpts', hg'⟩ := hrel
              have hgsz' := hg'.size
              by_cases hzy : z ≤ y
              · have hwz : W32 z := cm.w32_mk (p := z) (by omega) (by omega)
                go_wp2_with (at_builtin; refine wpList_append_pts _ rfl _ _ rfl w.heap.size g' n' cap' wz.heap.size z rfl rfl ?_ ?_ ?_ ?_ ?_ ?_; exact cm.cell_one _ _; exact hwz; exact hpts'.kept (World.grownBy_alloc _ _ _); omega; (simp; omega); intro g2 cap2 w2 hp2 hg2)
                go_roundw
                case rel =>
                  have hfin : ∃ (z' : Int) (g' n'' cap' : Nat), (.int .i32 (z + 1) : Value) = .int .i32 z' ∧ (.slice (some ⟨g2, 0, none⟩) (n' + 1) cap2 : Value) = .slice (some ⟨g', 0, none⟩) n'' cap' ∧ x ≤ z' ∧ (z' ≤ y + 1 ∨ z' = x) ∧ (n'' : Int) ≤ n + (z' - x) ∧ Pts w2 w.heap.size g' n'' cap' ∧ w.grownBy w2 none :=
                    ⟨z + 1, g2, n' + 1, cap2, rfl, rfl, by omega, Or.inl (by omega), by omega, hp2, hg'.andThen ((World.grownBy_alloc wz _ (some g')).trans hg2) (fun j hj => by cases hj; left; exact hpts'.1)⟩
                  first | exact hfin | ((repeat apply Exists.intro); exact ⟨hfin, rfl⟩)
                case measure => simp [intOf]; omega
              · go_wp2_with fail
                go_roundw
                case rel =>
                  have hfin : ∃ (k' g2 n'' cap'' : Nat), (.int .i64 ((k : Int) + 1) : Value) = .int .i64 k' ∧ k' ≤ N ∧ (.slice (some ⟨g', 0, none⟩) n' cap' : Value) = .slice (some ⟨g2, 0, none⟩) n'' cap'' ∧ n'' ≤ 7 + 16384 * k' ∧ Pts wz w.heap.size g2 n'' cap'' ∧ w.grownBy wz none :=
                    ⟨k + 1, g', n', cap', by go_num, by omega, rfl, by omega, hpts', hg'⟩
                  first | exact hfin | ((repeat apply Exists.intro); exact ⟨hfin, rfl⟩)
                case measure => simp [intOf]; omega
      · obtain ⟨hy1, hy2⟩ := HOK.out (by unfold msb.RelB; rw [hsep]; rfl)
        by_cases hx128 : x < 128
        · go_wp2_with (first | (go_at_call 33; refine (msa.sep33 _ _).mono ?_; rintro e w' ⟨rfl, rfl⟩) | (go_at_call 34; refine (msa.ctl34 _ _).mono ?_; rintro e w' ⟨rfl, rfl⟩))
          go_loopw [15, 20] (fun pv rv wr => ∃ (z : Int) (g' n' cap' : Nat), rv = .int .i32 z ∧ pv = .slice (some ⟨g', 0, none⟩) n' cap' ∧ 128 ≤ z ∧ (z ≤ y + 1 ∨ z = 128) ∧ (n' : Int) ≤ n + (z - 128) ∧ Pts wr w.heap.size g' n' cap' ∧ w.grownBy wr none) (fun _ rv _ => (y + 1 - intOf rv).toNat)
          case atStart => exact ⟨128, g, n, cap, rfl, rfl, Int.le_refl _, Or.inr rfl, by omega, hpts, hg⟩
          case round =>
            rename World => wz
            obtain ⟨z, g', n', cap', rfl, rfl, hz0, hz1, hn', hpts', hg'⟩ := hrel
            have hgsz' := hg'.size
            by_cases hzy : z ≤ y
            · have hwz : W32 z := cm.w32_mk (p := z) (by omega) (by omega)
              go_wp2_with (at_builtin; refine wpList_append_pts _ rfl _ _ rfl w.heap.size g' n' cap' wz.heap.size z rfl rfl ?_ ?_ ?_ ?_ ?_ ?_; exact cm.cell_one _ _; exact hwz; exact hpts'.kept (World.grownBy_alloc _ _ _); omega; (simp; omega); intro g2 cap2 w2 hp2 hg2)
              go_roundw
              case rel =>
                have hfin : ∃ (z' : Int) (g' n'' cap' : Nat), (.int .i32 (z + 1) : Value) = .int .i32 z' ∧ (.slice (some ⟨g2, 0, none⟩) (n' + 1) cap2 : Value) = .slice (some ⟨g', 0, none⟩) n'' cap' ∧ 128 ≤ z' ∧ (z' ≤ y + 1 ∨ z' = 128) ∧ (n'' : Int) ≤ n + (z' - 128) ∧ Pts w2 w.heap.size g' n'' cap' ∧ w.grownBy w2 none :=
                  ⟨z + 1, g2, n' + 1, cap2, rfl, rfl, by omega, Or.inl (by omega), by omega, hp2, hg'.andThen ((World.grownBy_alloc wz _ (some g')).trans hg2) (fun j hj => by cases hj; left; exact hpts'.1)⟩
                first | exact hfin | ((repeat apply Exists.intro); exact ⟨hfin, rfl⟩)
              case measure => simp [intOf]; omega
            · go_wp2_with fail
              go_roundw
              case rel =>
                have hfin : ∃ (k' g2 n'' cap'' : Nat), (.int .i64 ((k : Int) + 1) : Value) = .int .i64 k' ∧ k' ≤ N ∧ (.slice (some ⟨g', 0, none⟩) n' cap' : Value) = .slice (some ⟨g2, 0, none⟩) n'' cap'' ∧ n'' ≤ 7 + 16384 * k' ∧ Pts wz w.heap.size g2 n'' cap'' ∧ w.grownBy wz none :=
                  ⟨k + 1, g', n', cap', by go_num, by omega, rfl, by omega, hpts', hg'⟩
                first | exact hfin | ((repeat apply Exists.intro); exact ⟨hfin, rfl⟩)
              case measure => simp [intOf]; omega
        · go_wp2_with (first | (go_at_call 33; refine (msa.sep33 _ _).mono ?_; rintro e w' ⟨rfl, rfl⟩) | (go_at_call 34; refine (msa.ctl34 _ _).mono ?_; rintro e w' ⟨rfl, rfl⟩))
          go_loopw [15, 20] (fun pv rv wr => ∃ (z : Int) (g' n' cap' : Nat), rv = .int .i32 z ∧ pv = .slice (some ⟨g', 0, none⟩) n' cap' ∧ x ≤ z ∧ (z ≤ y + 1 ∨ z = x) ∧ (n' : Int) ≤ n + (z - x) ∧ Pts wr w.heap.size g' n' cap' ∧ w.grownBy wr none) (fun _ rv _ => (y + 1 - intOf rv).toNat)
          case atStart => exact ⟨x, g, n, cap, rfl, rfl, Int.le_refl _, Or.inr rfl, by omega, hpts, hg⟩
          case round =>
            rename World => wz
            obtain ⟨z, g', n', cap', rfl, rfl, hz0, hz1, hn', hpts', hg'⟩ := hrel
            have hgsz' := hg'.size
            by_cases hzy : z ≤ y
            · have hwz : W32 z := cm.w32_mk (p := z) (by omega) (by omega)
              go_wp2_with (at_builtin; refine wpList_append_pts _ rfl _ _ rfl w.heap.size g' n' cap' wz.heap.size z rfl rfl ?_ ?_ ?_ ?_ ?_ ?_; exact cm.cell_one _ _; exact hwz; exact hpts'.kept (World.grownBy_alloc _ _ _); omega; (simp; omega); intro g2 cap2 w2 hp2 hg2)
              go_roundw
              case rel =>
                have hfin : ∃ (z' : Int) (g' n'' cap' : Nat), (.int .i32 (z + 1) : Value) = .int .i32 z' ∧ (.slice (some ⟨g2, 0, none⟩) (n' + 1) cap2 : Value) = .slice (some ⟨g', 0, none⟩) n'' cap' ∧ x ≤ z' ∧ (z' ≤ y + 1 ∨ z' = x) ∧ (n'' : Int) ≤ n + (z' - x) ∧ Pts w2 w.heap.size g' n'' cap' ∧ w.grownBy w2 none :=
                  ⟨z + 1, g2, n' + 1, cap2, rfl, rfl, by omega, Or.inl (by omega), by omega, hp2, hg'.andThen ((World.grownBy_alloc wz _ (some g')).trans hg2) (fun j hj => by cases hj; left; exact hpts'.1)⟩
                first | exact hfin | ((repeat apply Exists.intro); exact ⟨hfin, rfl⟩)
              case measure => simp [intOf]; omega
            · go_wp2_with fail
              go_roundw
              case rel =>
                have hfin : ∃ (k' g2 n'' cap'' : Nat), (.int .i64 ((k : Int) + 1) : Value) = .int .i64 k' ∧ k' ≤ N ∧ (.slice (some ⟨g', 0, none⟩) n' cap' : Value) = .slice (some ⟨g2, 0, none⟩) n'' cap'' ∧ n'' ≤ 7 + 16384 * k' ∧ Pts wz w.heap.size g2 n'' cap'' ∧ w.grownBy wz none :=
                  ⟨k + 1, g', n', cap', by go_num, by omega, rfl, by omega, hpts', hg'⟩
                first | exact hfin | ((repeat apply Exists.intro); exact ⟨hfin, rfl⟩)
              case measure => simp [intOf]; omega
    · have hn1 : n ≤ 67108871 := by omega
      go_wp2_with fail
      refine (sm.min16 _ _ _).mono ?_
      rintro e wc ⟨rfl, hwc⟩
      subst hwc
      rw [HK.out]
      go_wp2_with fail
      go_loopw [15, 22] (fun pv iv wr => ∃ (i g n cap : Nat), iv = .int .i64 i ∧ i ≤ K ∧ pv = .slice (some ⟨g, 0, none⟩) n cap ∧ n ≤ 67108871 + 16384 * i ∧ Pts wr w.heap.size g n cap ∧ w.grownBy wr none) (fun _ iv _ => K - (intOf iv).toNat)
      case atStart => exact ⟨0, g, n, cap, rfl, Nat.zero_le _, rfl, by omega, hpts, hg⟩
      case round =>
        clear hpts hg hn hn1
        rename World => wv
        obtain ⟨i, g, n, cap, rfl, hi, rfl, hn, hpts, hg⟩ := hrel
        by_cases hiK : i < K
        · have e5 := s5.addr (by omega)
          have e6 := s6.addr (by omega)
          have r5 := (s5.row.kept hg (by simp) i (by omega)).1
          have r6 := (s6.row.kept hg (by simp) i (by omega)).1
          have bx := bounds_i32 (s5.wf i (by omega))
          have bY := bounds_i32 (s6.wf i (by omega))
          have hok := HSELS.out i hiK
          unfold msb.SelOk at hok
          generalize hx : P i = x at r5 bx hok
          generalize hy : Q i = y at r6 bY hok
          obtain ⟨hy1, hy2⟩ := hok
          obtain ⟨bx1, bx2⟩ := bx
          obtain ⟨by1, by2⟩ := bY
          clear hx hy
          subst e5
          subst e6
          have hgsz := hg.size
          go_wp2_with fail
          go_loopw [15, 24] (fun pv rv wr => ∃ (z : Int) (g' n' cap' : Nat), rv = .int .i32 z ∧ pv = .slice (some ⟨g', 0, none⟩) n' cap' ∧ x ≤ z ∧ (z ≤ y + 1 ∨ z = x) ∧ (n' : Int) ≤ n + (z - x) ∧ Pts wr w.heap.size g' n' cap' ∧ w.grownBy wr none) (fun _ rv _ => (y + 1 - intOf rv).toNat)
          case atStart => exact ⟨x, g, n, cap, rfl, rfl, Int.le_refl _, Or.inr rfl, by omega, hpts, hg⟩
          case round =>
            rename World => wz
            obtain ⟨z, g', n', cap', rfl, rfl, hz0, hz1, hn', hpts', hg'⟩ := hrel
            have hgsz' := hg'.size
            by_cases hzy : z ≤ y
            · have hwz : W32 z := cm.w32_mk (p := z) (by omega) (by omega)
              go_wp2_with (at_builtin; refine wpList_append_pts _ rfl _ _ rfl w.heap.size g' n' cap' wz.heap.size z rfl rfl ?_ ?_ ?_ ?_ ?_ ?_; exact cm.cell_one _ _; exact hwz; exact hpts'.kept (World.grownBy_alloc _ _ _); omega; (simp; omega); intro g2 cap2 w2 hp2 hg2)
              go_roundw
              case rel =>
                have hfin : ∃ (z' : Int) (g' n'' cap' : Nat), (.int .i32 (z + 1) : Value) = .int .i32 z' ∧ (.slice (some ⟨g2, 0, none⟩) (n' + 1) cap2 : Value) = .slice (some ⟨g', 0, none⟩) n'' cap' ∧ x ≤ z' ∧ (z' ≤ y + 1 ∨ z' = x) ∧ (n'' : Int) ≤ n + (z' - x) ∧ Pts w2 w.heap.size g' n'' cap' ∧ w.grownBy w2 none :=
                  ⟨z + 1, g2, n' + 1, cap2, rfl, rfl, by omega, Or.inl (by omega), by omega, hp2, hg'.andThen ((World.grownBy_alloc wz _ (some g')).trans hg2) (fun j hj => by cases hj; left; exact hpts'.1)⟩
                first | exact hfin | ((repeat apply Exists.intro); exact ⟨hfin, rfl⟩)
              case measure => simp [intOf]; omega
            · go_wp2_with fail
              go_roundw
              case rel =>
                have hfin : ∃ (k' g2 n'' cap'' : Nat), (.int .i64 ((i : Int) + 1) : Value) = .int .i64 k' ∧ k' ≤ K ∧ (.slice (some ⟨g', 0, none⟩) n' cap' : Value) = .slice (some ⟨g2, 0, none⟩) n'' cap'' ∧ n'' ≤ 67108871 + 16384 * k' ∧ Pts wz w.heap.size g2 n'' cap'' ∧ w.grownBy wz none :=
                  ⟨i + 1, g', n', cap', by go_num, by omega, rfl, by omega, hpts', hg'⟩
                first | exact hfin | ((repeat apply Exists.intro); exact ⟨hfin, rfl⟩)
              case measure => simp [intOf]; omega
        · have hn2 : n ≤ 134217735 := by omega
          go_wp2_with fail
          go_loopw [15, 25] (fun pv iv wr => ∃ (m g n cap : Nat), iv = .int .i64 m ∧ m ≤ n3 ∧ pv = .slice (some ⟨g, 0, none⟩) n cap ∧ n ≤ 134217735 + m ∧ Pts wr w.heap.size g n cap ∧ w.grownBy wr none) (fun _ iv _ => n3 - (intOf iv).toNat)
          case atStart => exact ⟨0, g, n, cap, rfl, Nat.zero_le _, rfl, by omega, hpts, hg⟩
          case round =>
            clear hpts hg hn hn2
            rename World => wu
            obtain ⟨m, g, n, cap, rfl, hm, rfl, hn, hpts, hg⟩ := hrel
            by_cases hmn : m < n3
            · have e3 := s3.addr (by omega)
              have r3 := (s3.row.kept hg (by simp) m (by omega)).1
              have hw3 : W32 (keys m) := s3.wf m hmn
              generalize keys m = kk at r3 hw3
              subst e3
              have hgsz := hg.size
              go_wp2_with (at_builtin; refine wpList_append_pts _ rfl _ _ rfl w.heap.size g n cap wu.heap.size kk rfl rfl ?_ ?_ ?_ ?_ ?_ ?_; exact cm.cell_one _ _; exact hw3; exact hpts.kept (World.grownBy_alloc _ _ _); omega; (simp; omega); intro g2 cap2 w2 hp2 hg2)
              go_roundw
              case rel =>
                have hfin : ∃ (m' g' n' cap' : Nat), (.int .i64 ((m : Int) + 1) : Value) = .int .i64 m' ∧ m' ≤ n3 ∧ (.slice (some ⟨g2, 0, none⟩) (n + 1) cap2 : Value) = .slice (some ⟨g', 0, none⟩) n' cap' ∧ n' ≤ 134217735 + m' ∧ Pts w2 w.heap.size g' n' cap' ∧ w.grownBy w2 none :=
                  ⟨m + 1, g2, n + 1, cap2, by go_num, by omega, rfl, by omega, hp2, hg.andThen ((World.grownBy_alloc wu _ (some g)).trans hg2) (fun j hj => by cases hj; left; exact hpts.1)⟩
                first | exact hfin | ((repeat apply Exists.intro); exact ⟨hfin, rfl⟩)
              case measure => simp [intOf]; omega
            · obtain ⟨FF, hF1, hF2⟩ := hpts.row
              go_wp2
              go_ret
              exact ⟨g, n, cap, FF, rfl, hF1, hF2, by omega, hpts.1, hg⟩
end Go.Proofs.Qxb6000886a.msh
