import Derived.Test.Qxb6000886aMsd
namespace Go.Proofs.Qxb6000886a.mse
open Go.RowKit
open Go.Proofs.Qxb6000886a.mp (W32 W8)
open Go.Proofs.Qxb6000886a.rw (Row)
open Go.Proofs.Qxb6000886a.msa (sepB ctlB)
open Go.Proofs.Qxb6000886a.msb (RelB CatOk SelOk)
open Go.Proofs.Qxb6000886a.msd (MapS Put updO)
set_option linter.unusedVariables false
set_option linter.unusedSimpArgs false

def setR (g : Int → Option (List Int)) (lo hi : Int) (xs : List Int) : Int → Option (List Int) := fun r => if lo ≤ r ∧ r ≤ hi then some xs else g r
def mx (a : Int) : Int := if a < 128 then 128 else a
def catStep (S : Nat → ByteArray) (F G : Nat → Int) (k : Nat) (g : Int → Option (List Int)) : Int → Option (List Int) :=
  if sepB (S k) = true then setR g (mx (F k)) (G k) [32] else if ctlB (S k) = true then setR g (mx (F k)) (G k) [] else g
def catF (S : Nat → ByteArray) (F G : Nat → Int) (g : Int → Option (List Int)) : Nat → (Int → Option (List Int))
  | 0 => g
  | k + 1 => catStep S F G k (catF S F G g k)
def fives : List Int := [173, 847, 6150, 8203, 65532]
def fiveF (g : Int → Option (List Int)) : Nat → (Int → Option (List Int))
  | 0 => g
  | k + 1 => updO (fiveF g k) (fives.getD k 0) []
def selF (F G : Nat → Int) (g : Int → Option (List Int)) : Nat → (Int → Option (List Int))
  | 0 => g
  | k + 1 => setR (selF F G g k) (F k) (G k) []

/-- the categories, three cells each -/
def CatRow (w : World) (cb N : Nat) (S : Nat → ByteArray) (F G : Nat → Int) : Prop := ∀ k, k < N → w.cell? ⟨cb, k * 3, none⟩ = some (.int .i32 (F k)) ∧ w.cell? ⟨cb, k * 3 + 1, none⟩ = some (.int .i32 (G k)) ∧ w.cell? ⟨cb, k * 3 + 2, none⟩ = some (.string (S k))
def SelRow (w : World) (sb K : Nat) (F G : Nat → Int) : Prop := ∀ k, k < K → w.cell? ⟨sb, k * 2, none⟩ = some (.int .i32 (F k)) ∧ w.cell? ⟨sb, k * 2 + 1, none⟩ = some (.int .i32 (G k))

theorem put1 (w : World) (o : Obj) (mb n : Nat) (h : mb < w.heap.size) (hb : n = w.heap.size + 1) : Put ((w.alloc o).alloc (.cells #[.int .i32 32] 21)) mb (some ⟨n, 0, none⟩) 1 1 [32] := by
  subst hb
  refine Or.inr ⟨w.heap.size + 1, rfl, rfl, by omega, ?_, fun j hj => ?_⟩
  · have hb := (MapKept.heap_alloc (w.alloc o) (.cells #[.int .i32 32] 21)).1
    have e : (w.alloc o).heap.size = w.heap.size + 1 := by simp
    rw [e] at hb
    exact cl.row_cells hb (fun j hj => by
      have : j = 0 := by omega
      subst this; rfl)
  · have : j = 0 := by omega
    subst this
    exact cm.w32_mk (p := 32) (by omega) (by omega)

theorem put1' (w : World) (mb : Nat) (h : mb < w.heap.size) : Put (w.alloc (.cells #[.int .i32 32] 21)) mb (some ⟨w.heap.size, 0, none⟩) 1 1 [32] := by
  refine Or.inr ⟨w.heap.size, rfl, rfl, by omega, ?_, fun j hj => ?_⟩
  · exact cl.row_cells (MapKept.heap_alloc w (.cells #[.int .i32 32] 21)).1 (fun j hj => by
      have : j = 0 := by omega
      subst this; rfl)
  · have : j = 0 := by omega
    subst this
    exact cm.w32_mk (p := 32) (by omega) (by omega)

theorem five_cells (w : World) : ∀ j, j < 5 → (w.alloc (.cells #[.int .i32 173, .int .i32 847, .int .i32 6150, .int .i32 8203, .int .i32 65532] 21)).cell? ⟨w.heap.size, j, none⟩ = some (.int .i32 (fives.getD j 0)) := fun j hj => by
  have hr : Row .i32 (w.alloc (.cells #[.int .i32 173, .int .i32 847, .int .i32 6150, .int .i32 8203, .int .i32 65532] 21)) w.heap.size 5 (fun j => fives.getD j 0) :=
    cl.row_cells (MapKept.heap_alloc w _).1 (fun j hj => by
      match j, hj with
      | 0, _ => rfl
      | 1, _ => rfl
      | 2, _ => rfl
      | 3, _ => rfl
      | 4, _ => rfl)
  exact (hr j hj).1

theorem five_wf (i : Nat) : W32 (fives.getD i 0) := by
  match i with
  | 0 => exact cm.w32_mk (p := 173) (by omega) (by omega)
  | 1 => exact cm.w32_mk (p := 847) (by omega) (by omega)
  | 2 => exact cm.w32_mk (p := 6150) (by omega) (by omega)
  | 3 => exact cm.w32_mk (p := 8203) (by omega) (by omega)
  | 4 => exact cm.w32_mk (p := 65532) (by omega) (by omega)
  | k + 5 => exact cm.w32_mk (p := 0) (by omega) (by omega)

theorem put0 (w : World) (mb b : Nat) (h : b ≠ mb) : Put w mb (some ⟨b, 0, none⟩) 0 0 [] :=
  Or.inr ⟨b, rfl, rfl, h, fun j hj => absurd hj (Nat.not_lt_zero _), fun j hj => absurd hj (Nat.not_lt_zero _)⟩

theorem range_end (g : Int → Option (List Int)) (xs : List Int) {lo z y : Int} (h0 : lo ≤ z) (h1 : z ≤ y + 1 ∨ z = lo) (h2 : ¬ z ≤ y) (r : Int) : setR g lo y xs r = if lo ≤ r ∧ r < z then some xs else g r := by
  unfold setR
  by_cases h : lo ≤ r ∧ r ≤ y
  · rw [if_pos h, if_pos (by omega)]
  · rw [if_neg h, if_neg (by omega)]

theorem cat_sep {S : Nat → ByteArray} {F G : Nat → Int} {k : Nat} {g : Int → Option (List Int)} {r : Int} {v : Option (List Int)} (h1 : sepB (S k) = true) (h2 : ctlB (S k) = false) (h : setR g (mx (F k)) (G k) [32] r = v) : catStep S F G k g r = v := by
  unfold catStep
  rw [if_pos h1]; exact h

theorem cat_ctl {S : Nat → ByteArray} {F G : Nat → Int} {k : Nat} {g : Int → Option (List Int)} {r : Int} {v : Option (List Int)} (h1 : sepB (S k) = false) (h2 : ctlB (S k) = true) (h : setR g (mx (F k)) (G k) [] r = v) : catStep S F G k g r = v := by
  unfold catStep
  rw [if_neg (by rw [h1]; decide), if_pos h2]; exact h

theorem upd_range (g : Int → Option (List Int)) (xs : List Int) (lo z r : Int) (h : lo ≤ z) : updO (fun r => if lo ≤ r ∧ r < z then some xs else g r) z xs r = if lo ≤ r ∧ r < z + 1 then some xs else g r := by
  unfold msd.updO
  by_cases e : r = z
  · rw [if_pos e, if_pos (by omega)]
  · rw [if_neg e]
    show (if lo ≤ r ∧ r < z then some xs else g r) = _
    by_cases h1 : lo ≤ r ∧ r < z
    · rw [if_pos h1, if_pos (by omega)]
    · rw [if_neg h1, if_neg (by omega)]

set_option maxRecDepth 100000 in
set_option maxHeartbeats 8000000 in
theorem map35 (tb mb cb sb N K cnt : Nat) (S : Nat → ByteArray) (F G P Q : Nat → Int) (g : Int → Option (List Int)) (w : World)
    (hN : N ≤ 4096) (hK : K ≤ 4096) (hcnt : cnt ≤ 4096) (hS : MapS w mb cnt g) (hc0 : w.cell? ⟨tb, 0, none⟩ = some (.slice (some ⟨cb, 0, none⟩) N N)) (hc4 : w.cell? ⟨tb, 4, none⟩ = some (.map (some mb)))
    (hcat : CatRow w cb N S F G) (hsel : SelRow w sb K P Q) (h1 : tb ≠ mb) (h2 : cb ≠ mb) (h3 : sb ≠ mb) (hF : ∀ j, j < N → W32 (F j)) (hG : ∀ j, j < N → W32 (G j)) (hP : ∀ j, j < K → W32 (P j)) (hQ : ∀ j, j < K → W32 (Q j))
    (hcats : ∀ j, j < N → CatOk S F G j) (hsels : ∀ j, j < K → SelOk P Q j) :
    Calls Try.prog 35 #[.pointer (some ⟨tb, 0, none⟩), .slice (some ⟨sb, 0, none⟩) K K] w fun e w' => e = .returned (.tuple #[]) ∧ (∃ cnt', MapS w' mb cnt' (selF P Q (fiveF (updO (catF S F G g N) 133 [32]) 5) K)) ∧ w.grownBy w' (some mb) := by
  go_enter Try.func35, Try.ntmps35
  go_wp2
  go_loopw [18] (fun iv wr => ∃ (k c : Nat), iv = .int .i64 k ∧ k ≤ N ∧ c ≤ 4096 + 16384 * k ∧ MapS wr mb c (catF S F G g k) ∧ w.grownBy wr (some mb)) (fun iv _ => N - (intOf iv).toNat)
  case atStart => exact ⟨0, cnt, rfl, Nat.zero_le _, by omega, hS, World.grownBy.refl _ _⟩
  case round =>
    obtain ⟨k, c, rfl, hk, hc, hSk, hg⟩ := hrel
    by_cases hlt : k < N
    · have r0 := hg.cell (hcat k hlt).1 (by simpa using h2)
      have r1 := hg.cell (hcat k hlt).2.1 (by simpa using h2)
      have r2 := hg.cell (hcat k hlt).2.2 (by simpa using h2)
      have hc4' := hg.cell hc4 (by simpa using h1)
      generalize hx : F k = x at r0
      generalize hy : G k = y at r1
      generalize hs : S k = s at r2
      have HX : Hid (F k = x) := hx
      have HY : Hid (G k = y) := hy
      have HS : Hid (S k = s) := hs
      clear hx hy hs
      rename World => wq
      obtain ⟨lo, hlo⟩ : ∃ lo, lo = mx x := ⟨_, rfl⟩
      have hl1 : 128 ≤ lo := by rw [hlo]; unfold mx; split <;> omega
      have hl2 : x ≤ lo := by rw [hlo]; unfold mx; split <;> omega
      have HLO : Hid (lo = mx (F k)) := by rw [HX.out]; exact hlo
      have hmx : (if x < 128 then (128 : Int) else x) = lo := by rw [hlo]; rfl
      clear hlo
      have hmbs := hSk.lt
      have hyW := bounds_i32 (hG k hlt)
      have hok := hcats k hlt
      rw [HY.out] at hyW
      have HOK : Hid (RelB s = true → y ≤ 1114111 ∧ (y - x < 16384 ∨ y - 128 < 16384)) := by
        have := hok
        unfold msb.CatOk at this
        rw [HS.out, HX.out, HY.out] at this
        exact this
      clear hok
      by_cases h0s : s.toList = ([90, 115] : List UInt8)
      case pos =>
        have hs := h0s
        have t0 : (s.toList == ([90, 115] : List UInt8)) = true := by rw [hs]; decide
        have t1 : (s.toList == ([90, 108] : List UInt8)) = false := by rw [hs]; decide
        have t2 : (s.toList == ([90, 112] : List UInt8)) = false := by rw [hs]; decide
        have t3 : (s.toList == ([67, 99] : List UInt8)) = false := by rw [hs]; decide
        have t4 : (s.toList == ([67, 102] : List UInt8)) = false := by rw [hs]; decide
        have hsep : sepB s = true := by unfold msa.sepB; rw [hs]; decide
        have hctl : ctlB s = false := by unfold msa.ctlB; rw [hs]; decide
        obtain ⟨hy1, hy2⟩ := HOK.out (by unfold msb.RelB; rw [hsep, hctl]; rfl)
        have HSEP : Hid (sepB s = true) := hsep
        have HCTL : Hid (ctlB s = false) := hctl
        clear hs h0s hsep hctl
        go_wp2_with fail
        go_loopw [7] (fun rv w2 => ∃ (z : Int) (c2 : Nat), rv = .int .i32 z ∧ lo ≤ z ∧ (z ≤ y + 1 ∨ z = lo) ∧ (c2 : Int) ≤ c + (z - lo) ∧ MapS w2 mb c2 (fun r => if lo ≤ r ∧ r < z then some [32] else catF S F G g k r) ∧ w.grownBy w2 (some mb) ∧ w2.cell? ⟨wq.heap.size, 1, none⟩ = some (.int .i32 y) ∧ Put w2 mb (some ⟨wq.heap.size + 1, 0, none⟩) 1 1 [32]) (fun rv _ => (y + 1 - intOf rv).toNat)
        case atStart =>
          exact ⟨lo, c, rfl, Int.le_refl _, Or.inr rfl, by omega, (hSk.kept ((World.grownBy_alloc wq _ none).trans (World.grownBy_alloc _ _ none))).congr (fun r => by rw [if_neg (by omega)]), hg.trans ((World.grownBy_alloc wq _ _).trans (World.grownBy_alloc _ _ _)), by simp, put1 _ _ _ _ (by omega) (by simp)⟩
        case round =>
          obtain ⟨z, c2, rfl, hz0, hz1, hc2, hS2, hg2, hbox, hput⟩ := hrel
          have hc42 := hg2.cell hc4 (by simpa using h1)
          by_cases hzy : z ≤ y
          · obtain ⟨w3, hup, hS3, hg3⟩ := hS2.store (by unfold maxLen; omega) (cm.w32_mk (p := z) (by omega) (by omega)) hput
            go_wp2
            go_roundw
            case rel =>
              have hfin : ∃ (z' : Int) (c2 : Nat), (.int .i32 (z + 1) : Value) = .int .i32 z' ∧ lo ≤ z' ∧ (z' ≤ y + 1 ∨ z' = lo) ∧ (c2 : Int) ≤ c + (z' - lo) ∧ MapS w3 mb c2 (fun r => if lo ≤ r ∧ r < z' then some [32] else catF S F G g k r) ∧ w.grownBy w3 (some mb) ∧ w3.cell? ⟨wq.heap.size, 1, none⟩ = some (.int .i32 y) ∧ Put w3 mb (some ⟨wq.heap.size + 1, 0, none⟩) 1 1 [32] :=
                ⟨z + 1, c2 + 1, rfl, by omega, Or.inl (by omega), by omega, hS3.congr (fun r => upd_range _ _ lo z r hz0), hg2.trans hg3, hg3.cell hbox (by simp; omega), hput.kept hg3 (Or.inr rfl)⟩
              first | exact hfin | ((repeat apply Exists.intro); exact ⟨hfin, rfl⟩)
            case measure => simp [intOf]; omega
          · go_wp2
            go_roundw
            case rel =>
              have hfin : ∃ (k' c' : Nat), (.int .i64 ((k : Int) + 1) : Value) = .int .i64 k' ∧ k' ≤ N ∧ c' ≤ 4096 + 16384 * k' ∧ MapS wr mb c' (catF S F G g k') ∧ w.grownBy wr (some mb) :=
                ⟨k + 1, c2, by go_num, by omega, by omega, hS2.congr (fun r => by
                  show _ = catStep S F G k (catF S F G g k) r
                  exact (cat_sep (by rw [HS.out]; exact HSEP.out) (by rw [HS.out]; exact HCTL.out) (by rw [← HLO.out, HY.out]; exact range_end _ _ hz0 hz1 hzy r)).symm), hg2⟩
              first | exact hfin | ((repeat apply Exists.intro); exact ⟨hfin, rfl⟩)
            case measure => simp [intOf]; omega
      by_cases h1s : s.toList = ([90, 108] : List UInt8)
      case pos =>
        have hs := h1s
        have t0 : (s.toList == ([90, 115] : List UInt8)) = false := by rw [hs]; decide
        have t1 : (s.toList == ([90, 108] : List UInt8)) = true := by rw [hs]; decide
        have t2 : (s.toList == ([90, 112] : List UInt8)) = false := by rw [hs]; decide
        have t3 : (s.toList == ([67, 99] : List UInt8)) = false := by rw [hs]; decide
        have t4 : (s.toList == ([67, 102] : List UInt8)) = false := by rw [hs]; decide
        have hsep : sepB s = true := by unfold msa.sepB; rw [hs]; decide
        have hctl : ctlB s = false := by unfold msa.ctlB; rw [hs]; decide
        obtain ⟨hy1, hy2⟩ := HOK.out (by unfold msb.RelB; rw [hsep, hctl]; rfl)
        have HSEP : Hid (sepB s = true) := hsep
        have HCTL : Hid (ctlB s = false) := hctl
        clear hs h1s hsep hctl h0s
        go_wp2_with fail
        go_loopw [7] (fun rv w2 => ∃ (z : Int) (c2 : Nat), rv = .int .i32 z ∧ lo ≤ z ∧ (z ≤ y + 1 ∨ z = lo) ∧ (c2 : Int) ≤ c + (z - lo) ∧ MapS w2 mb c2 (fun r => if lo ≤ r ∧ r < z then some [32] else catF S F G g k r) ∧ w.grownBy w2 (some mb) ∧ w2.cell? ⟨wq.heap.size, 1, none⟩ = some (.int .i32 y) ∧ Put w2 mb (some ⟨wq.heap.size + 1, 0, none⟩) 1 1 [32]) (fun rv _ => (y + 1 - intOf rv).toNat)
        case atStart =>
          exact ⟨lo, c, rfl, Int.le_refl _, Or.inr rfl, by omega, (hSk.kept ((World.grownBy_alloc wq _ none).trans (World.grownBy_alloc _ _ none))).congr (fun r => by rw [if_neg (by omega)]), hg.trans ((World.grownBy_alloc wq _ _).trans (World.grownBy_alloc _ _ _)), by simp, put1 _ _ _ _ (by omega) (by simp)⟩
        case round =>
          obtain ⟨z, c2, rfl, hz0, hz1, hc2, hS2, hg2, hbox, hput⟩ := hrel
          have hc42 := hg2.cell hc4 (by simpa using h1)
          by_cases hzy : z ≤ y
          · obtain ⟨w3, hup, hS3, hg3⟩ := hS2.store (by unfold maxLen; omega) (cm.w32_mk (p := z) (by omega) (by omega)) hput
            go_wp2
            go_roundw
            case rel =>
              have hfin : ∃ (z' : Int) (c2 : Nat), (.int .i32 (z + 1) : Value) = .int .i32 z' ∧ lo ≤ z' ∧ (z' ≤ y + 1 ∨ z' = lo) ∧ (c2 : Int) ≤ c + (z' - lo) ∧ MapS w3 mb c2 (fun r => if lo ≤ r ∧ r < z' then some [32] else catF S F G g k r) ∧ w.grownBy w3 (some mb) ∧ w3.cell? ⟨wq.heap.size, 1, none⟩ = some (.int .i32 y) ∧ Put w3 mb (some ⟨wq.heap.size + 1, 0, none⟩) 1 1 [32] :=
                ⟨z + 1, c2 + 1, rfl, by omega, Or.inl (by omega), by omega, hS3.congr (fun r => upd_range _ _ lo z r hz0), hg2.trans hg3, hg3.cell hbox (by simp; omega), hput.kept hg3 (Or.inr rfl)⟩
              first | exact hfin | ((repeat apply Exists.intro); exact ⟨hfin, rfl⟩)
            case measure => simp [intOf]; omega
          · go_wp2
            go_roundw
            case rel =>
              have hfin : ∃ (k' c' : Nat), (.int .i64 ((k : Int) + 1) : Value) = .int .i64 k' ∧ k' ≤ N ∧ c' ≤ 4096 + 16384 * k' ∧ MapS wr mb c' (catF S F G g k') ∧ w.grownBy wr (some mb) :=
                ⟨k + 1, c2, by go_num, by omega, by omega, hS2.congr (fun r => by
                  show _ = catStep S F G k (catF S F G g k) r
                  exact (cat_sep (by rw [HS.out]; exact HSEP.out) (by rw [HS.out]; exact HCTL.out) (by rw [← HLO.out, HY.out]; exact range_end _ _ hz0 hz1 hzy r)).symm), hg2⟩
              first | exact hfin | ((repeat apply Exists.intro); exact ⟨hfin, rfl⟩)
            case measure => simp [intOf]; omega
      by_cases h2s : s.toList = ([90, 112] : List UInt8)
      case pos =>
        have hs := h2s
        have t0 : (s.toList == ([90, 115] : List UInt8)) = false := by rw [hs]; decide
        have t1 : (s.toList == ([90, 108] : List UInt8)) = false := by rw [hs]; decide
        have t2 : (s.toList == ([90, 112] : List UInt8)) = true := by rw [hs]; decide
        have t3 : (s.toList == ([67, 99] : List UInt8)) = false := by rw [hs]; decide
        have t4 : (s.toList == ([67, 102] : List UInt8)) = false := by rw [hs]; decide
        have hsep : sepB s = true := by unfold msa.sepB; rw [hs]; decide
        have hctl : ctlB s = false := by unfold msa.ctlB; rw [hs]; decide
        obtain ⟨hy1, hy2⟩ := HOK.out (by unfold msb.RelB; rw [hsep, hctl]; rfl)
        have HSEP : Hid (sepB s = true) := hsep
        have HCTL : Hid (ctlB s = false) := hctl
        clear hs h2s hsep hctl h0s h1s
        go_wp2_with fail
        go_loopw [7] (fun rv w2 => ∃ (z : Int) (c2 : Nat), rv = .int .i32 z ∧ lo ≤ z ∧ (z ≤ y + 1 ∨ z = lo) ∧ (c2 : Int) ≤ c + (z - lo) ∧ MapS w2 mb c2 (fun r => if lo ≤ r ∧ r < z then some [32] else catF S F G g k r) ∧ w.grownBy w2 (some mb) ∧ w2.cell? ⟨wq.heap.size, 1, none⟩ = some (.int .i32 y) ∧ Put w2 mb (some ⟨wq.heap.size + 1, 0, none⟩) 1 1 [32]) (fun rv _ => (y + 1 - intOf rv).toNat)
        case atStart =>
          exact ⟨lo, c, rfl, Int.le_refl _, Or.inr rfl, by omega, (hSk.kept ((World.grownBy_alloc wq _ none).trans (World.grownBy_alloc _ _ none))).congr (fun r => by rw [if_neg (by omega)]), hg.trans ((World.grownBy_alloc wq _ _).trans (World.grownBy_alloc _ _ _)), by simp, put1 _ _ _ _ (by omega) (by simp)⟩
        case round =>
          obtain ⟨z, c2, rfl, hz0, hz1, hc2, hS2, hg2, hbox, hput⟩ := hrel
          have hc42 := hg2.cell hc4 (by simpa using h1)
          by_cases hzy : z ≤ y
          · obtain ⟨w3, hup, hS3, hg3⟩ := hS2.store (by unfold maxLen; omega) (cm.w32_mk (p := z) (by omega) (by omega)) hput
            go_wp2
            go_roundw
            case rel =>
              have hfin : ∃ (z' : Int) (c2 : Nat), (.int .i32 (z + 1) : Value) = .int .i32 z' ∧ lo ≤ z' ∧ (z' ≤ y + 1 ∨ z' = lo) ∧ (c2 : Int) ≤ c + (z' - lo) ∧ MapS w3 mb c2 (fun r => if lo ≤ r ∧ r < z' then some [32] else catF S F G g k r) ∧ w.grownBy w3 (some mb) ∧ w3.cell? ⟨wq.heap.size, 1, none⟩ = some (.int .i32 y) ∧ Put w3 mb (some ⟨wq.heap.size + 1, 0, none⟩) 1 1 [32] :=
                ⟨z + 1, c2 + 1, rfl, by omega, Or.inl (by omega), by omega, hS3.congr (fun r => upd_range _ _ lo z r hz0), hg2.trans hg3, hg3.cell hbox (by simp; omega), hput.kept hg3 (Or.inr rfl)⟩
              first | exact hfin | ((repeat apply Exists.intro); exact ⟨hfin, rfl⟩)
            case measure => simp [intOf]; omega
          · go_wp2
            go_roundw
            case rel =>
              have hfin : ∃ (k' c' : Nat), (.int .i64 ((k : Int) + 1) : Value) = .int .i64 k' ∧ k' ≤ N ∧ c' ≤ 4096 + 16384 * k' ∧ MapS wr mb c' (catF S F G g k') ∧ w.grownBy wr (some mb) :=
                ⟨k + 1, c2, by go_num, by omega, by omega, hS2.congr (fun r => by
                  show _ = catStep S F G k (catF S F G g k) r
                  exact (cat_sep (by rw [HS.out]; exact HSEP.out) (by rw [HS.out]; exact HCTL.out) (by rw [← HLO.out, HY.out]; exact range_end _ _ hz0 hz1 hzy r)).symm), hg2⟩
              first | exact hfin | ((repeat apply Exists.intro); exact ⟨hfin, rfl⟩)
            case measure => simp [intOf]; omega
      by_cases h3s : s.toList = ([67, 99] : List UInt8)
      case pos =>
        have hs := h3s
        have t0 : (s.toList == ([90, 115] : List UInt8)) = false := by rw [hs]; decide
        have t1 : (s.toList == ([90, 108] : List UInt8)) = false := by rw [hs]; decide
        have t2 : (s.toList == ([90, 112] : List UInt8)) = false := by rw [hs]; decide
        have t3 : (s.toList == ([67, 99] : List UInt8)) = true := by rw [hs]; decide
        have t4 : (s.toList == ([67, 102] : List UInt8)) = false := by rw [hs]; decide
        have hsep : sepB s = false := by unfold msa.sepB; rw [hs]; decide
        have hctl : ctlB s = true := by unfold msa.ctlB; rw [hs]; decide
        obtain ⟨hy1, hy2⟩ := HOK.out (by unfold msb.RelB; rw [hsep, hctl]; rfl)
        have HSEP : Hid (sepB s = false) := hsep
        have HCTL : Hid (ctlB s = true) := hctl
        clear hs h3s hsep hctl h0s h1s h2s
        go_wp2_with fail
        go_loopw [7] (fun rv w2 => ∃ (z : Int) (c2 : Nat), rv = .int .i32 z ∧ lo ≤ z ∧ (z ≤ y + 1 ∨ z = lo) ∧ (c2 : Int) ≤ c + (z - lo) ∧ MapS w2 mb c2 (fun r => if lo ≤ r ∧ r < z then some [] else catF S F G g k r) ∧ w.grownBy w2 (some mb) ∧ w2.cell? ⟨wq.heap.size, 1, none⟩ = some (.int .i32 y) ∧ Put w2 mb (some ⟨wq.heap.size + 1, 0, none⟩) 0 0 []) (fun rv _ => (y + 1 - intOf rv).toNat)
        case atStart =>
          exact ⟨lo, c, rfl, Int.le_refl _, Or.inr rfl, by omega, (hSk.kept ((World.grownBy_alloc wq _ none).trans (World.grownBy_alloc _ _ none))).congr (fun r => by rw [if_neg (by omega)]), hg.trans ((World.grownBy_alloc wq _ _).trans (World.grownBy_alloc _ _ _)), by simp, put0 _ _ _ (by omega)⟩
        case round =>
          obtain ⟨z, c2, rfl, hz0, hz1, hc2, hS2, hg2, hbox, hput⟩ := hrel
          have hc42 := hg2.cell hc4 (by simpa using h1)
          by_cases hzy : z ≤ y
          · obtain ⟨w3, hup, hS3, hg3⟩ := hS2.store (by unfold maxLen; omega) (cm.w32_mk (p := z) (by omega) (by omega)) hput
            go_wp2
            go_roundw
            case rel =>
              have hfin : ∃ (z' : Int) (c2 : Nat), (.int .i32 (z + 1) : Value) = .int .i32 z' ∧ lo ≤ z' ∧ (z' ≤ y + 1 ∨ z' = lo) ∧ (c2 : Int) ≤ c + (z' - lo) ∧ MapS w3 mb c2 (fun r => if lo ≤ r ∧ r < z' then some [] else catF S F G g k r) ∧ w.grownBy w3 (some mb) ∧ w3.cell? ⟨wq.heap.size, 1, none⟩ = some (.int .i32 y) ∧ Put w3 mb (some ⟨wq.heap.size + 1, 0, none⟩) 0 0 [] :=
                ⟨z + 1, c2 + 1, rfl, by omega, Or.inl (by omega), by omega, hS3.congr (fun r => upd_range _ _ lo z r hz0), hg2.trans hg3, hg3.cell hbox (by simp; omega), hput.kept hg3 (Or.inr rfl)⟩
              first | exact hfin | ((repeat apply Exists.intro); exact ⟨hfin, rfl⟩)
            case measure => simp [intOf]; omega
          · go_wp2
            go_roundw
            case rel =>
              have hfin : ∃ (k' c' : Nat), (.int .i64 ((k : Int) + 1) : Value) = .int .i64 k' ∧ k' ≤ N ∧ c' ≤ 4096 + 16384 * k' ∧ MapS wr mb c' (catF S F G g k') ∧ w.grownBy wr (some mb) :=
                ⟨k + 1, c2, by go_num, by omega, by omega, hS2.congr (fun r => by
                  show _ = catStep S F G k (catF S F G g k) r
                  exact (cat_ctl (by rw [HS.out]; exact HSEP.out) (by rw [HS.out]; exact HCTL.out) (by rw [← HLO.out, HY.out]; exact range_end _ _ hz0 hz1 hzy r)).symm), hg2⟩
              first | exact hfin | ((repeat apply Exists.intro); exact ⟨hfin, rfl⟩)
            case measure => simp [intOf]; omega
      by_cases h4s : s.toList = ([67, 102] : List UInt8)
      case pos =>
        have hs := h4s
        have t0 : (s.toList == ([90, 115] : List UInt8)) = false := by rw [hs]; decide
        have t1 : (s.toList == ([90, 108] : List UInt8)) = false := by rw [hs]; decide
        have t2 : (s.toList == ([90, 112] : List UInt8)) = false := by rw [hs]; decide
        have t3 : (s.toList == ([67, 99] : List UInt8)) = false := by rw [hs]; decide
        have t4 : (s.toList == ([67, 102] : List UInt8)) = true := by rw [hs]; decide
        have hsep : sepB s = false := by unfold msa.sepB; rw [hs]; decide
        have hctl : ctlB s = true := by unfold msa.ctlB; rw [hs]; decide
        obtain ⟨hy1, hy2⟩ := HOK.out (by unfold msb.RelB; rw [hsep, hctl]; rfl)
        have HSEP : Hid (sepB s = false) := hsep
        have HCTL : Hid (ctlB s = true) := hctl
        clear hs h4s hsep hctl h0s h1s h2s h3s
        go_wp2_with fail
        go_loopw [7] (fun rv w2 => ∃ (z : Int) (c2 : Nat), rv = .int .i32 z ∧ lo ≤ z ∧ (z ≤ y + 1 ∨ z = lo) ∧ (c2 : Int) ≤ c + (z - lo) ∧ MapS w2 mb c2 (fun r => if lo ≤ r ∧ r < z then some [] else catF S F G g k r) ∧ w.grownBy w2 (some mb) ∧ w2.cell? ⟨wq.heap.size, 1, none⟩ = some (.int .i32 y) ∧ Put w2 mb (some ⟨wq.heap.size + 1, 0, none⟩) 0 0 []) (fun rv _ => (y + 1 - intOf rv).toNat)
        case atStart =>
          exact ⟨lo, c, rfl, Int.le_refl _, Or.inr rfl, by omega, (hSk.kept ((World.grownBy_alloc wq _ none).trans (World.grownBy_alloc _ _ none))).congr (fun r => by rw [if_neg (by omega)]), hg.trans ((World.grownBy_alloc wq _ _).trans (World.grownBy_alloc _ _ _)), by simp, put0 _ _ _ (by omega)⟩
        case round =>
          obtain ⟨z, c2, rfl, hz0, hz1, hc2, hS2, hg2, hbox, hput⟩ := hrel
          have hc42 := hg2.cell hc4 (by simpa using h1)
          by_cases hzy : z ≤ y
          · obtain ⟨w3, hup, hS3, hg3⟩ := hS2.store (by unfold maxLen; omega) (cm.w32_mk (p := z) (by omega) (by omega)) hput
            go_wp2
            go_roundw
            case rel =>
              have hfin : ∃ (z' : Int) (c2 : Nat), (.int .i32 (z + 1) : Value) = .int .i32 z' ∧ lo ≤ z' ∧ (z' ≤ y + 1 ∨ z' = lo) ∧ (c2 : Int) ≤ c + (z' - lo) ∧ MapS w3 mb c2 (fun r => if lo ≤ r ∧ r < z' then some [] else catF S F G g k r) ∧ w.grownBy w3 (some mb) ∧ w3.cell? ⟨wq.heap.size, 1, none⟩ = some (.int .i32 y) ∧ Put w3 mb (some ⟨wq.heap.size + 1, 0, none⟩) 0 0 [] :=
                ⟨z + 1, c2 + 1, rfl, by omega, Or.inl (by omega), by omega, hS3.congr (fun r => upd_range _ _ lo z r hz0), hg2.trans hg3, hg3.cell hbox (by simp; omega), hput.kept hg3 (Or.inr rfl)⟩
              first | exact hfin | ((repeat apply Exists.intro); exact ⟨hfin, rfl⟩)
            case measure => simp [intOf]; omega
          · go_wp2
            go_roundw
            case rel =>
              have hfin : ∃ (k' c' : Nat), (.int .i64 ((k : Int) + 1) : Value) = .int .i64 k' ∧ k' ≤ N ∧ c' ≤ 4096 + 16384 * k' ∧ MapS wr mb c' (catF S F G g k') ∧ w.grownBy wr (some mb) :=
                ⟨k + 1, c2, by go_num, by omega, by omega, hS2.congr (fun r => by
                  show _ = catStep S F G k (catF S F G g k) r
                  exact (cat_ctl (by rw [HS.out]; exact HSEP.out) (by rw [HS.out]; exact HCTL.out) (by rw [← HLO.out, HY.out]; exact range_end _ _ hz0 hz1 hzy r)).symm), hg2⟩
              first | exact hfin | ((repeat apply Exists.intro); exact ⟨hfin, rfl⟩)
            case measure => simp [intOf]; omega
      have t0 : (s.toList == ([90, 115] : List UInt8)) = false := by simpa using h0s
      have t1 : (s.toList == ([90, 108] : List UInt8)) = false := by simpa using h1s
      have t2 : (s.toList == ([90, 112] : List UInt8)) = false := by simpa using h2s
      have t3 : (s.toList == ([67, 99] : List UInt8)) = false := by simpa using h3s
      have t4 : (s.toList == ([67, 102] : List UInt8)) = false := by simpa using h4s
      have HSTEP : Hid (∀ r, catF S F G g k r = catF S F G g (k + 1) r) := fun r => by
        show _ = catStep S F G k (catF S F G g k) r
        unfold catStep
        rw [HS.out]
        have e1 : sepB s = false := by unfold msa.sepB; simp [h0s, h1s, h2s]
        have e2 : ctlB s = false := by unfold msa.ctlB; simp [h3s, h4s]
        rw [e1, e2]; rfl
      clear h0s h1s h2s h3s h4s
      go_wp2
      go_roundw
      case rel => exact ⟨k + 1, c, by go_num, by omega, by omega, (hSk.kept (World.grownBy_alloc wq _ none)).congr HSTEP.out, hg.trans (World.grownBy_alloc wq _ _)⟩
      case measure => simp [intOf]; omega
    · have hkN : k = N := by omega
      subst hkN
      rename World => wq
      have hc4q := hg.cell hc4 (by simpa using h1)
      have htb : tb < wq.heap.size := World.block_lt_of_cell? _ _ hc4q
      have hmbs := hSk.lt
      obtain ⟨w1, hup, hS1, hg1⟩ := (hSk.kept (World.grownBy_alloc wq (.cells #[.int .i32 32] 21) none)).store (by unfold maxLen; omega) (cm.w32_mk (p := 133) (by omega) (by omega)) (put1' wq mb (by omega))
      have hgw1 : w.grownBy w1 (some mb) := (hg.trans (World.grownBy_alloc wq _ _)).trans hg1
      go_wp2
      clear hup hc4q htb hmbs
      go_loopw [56] (fun iv wr => ∃ (i c' : Nat), iv = .int .i64 i ∧ i ≤ 5 ∧ c' ≤ c + 1 + i ∧ MapS wr mb c' (fiveF (updO (catF S F G g k) 133 [32]) i) ∧ w.grownBy wr (some mb) ∧ ∀ j, j < 5 → wr.cell? ⟨w1.heap.size, j, none⟩ = some (.int .i32 (fives.getD j 0))) (fun iv _ => 5 - (intOf iv).toNat)
      case atStart => exact ⟨0, c + 1, rfl, Nat.zero_le _, by omega, hS1.kept (World.grownBy_alloc w1 _ none), hgw1.trans (World.grownBy_alloc w1 _ _), five_cells w1⟩
      case round =>
        rename World => w5
        obtain ⟨i, c', rfl, hi, hc', hSi, hgi, hfive⟩ := hrel
        by_cases hi5 : i < 5
        · have hci := hfive i hi5
          have HFIVE : Hid (∀ j, j < 5 → w5.cell? ⟨w1.heap.size, j, none⟩ = some (.int .i32 (fives.getD j 0))) := hfive
          have hw1lt := World.block_lt_of_cell? _ _ hci
          have hc4i := hgi.cell hc4 (by simpa using h1)
          have htb : tb < w5.heap.size := World.block_lt_of_cell? _ _ hc4i
          have hmbs := hSi.lt
          have hmb1 := hS1.lt
          have hfw : W32 (fives.getD i 0) := five_wf i
          generalize hf5 : fives.getD i 0 = v at hci hfw
          have HV : Hid (fives.getD i 0 = v) := hf5
          clear hf5 hfive
          obtain ⟨w6, hup6, hS6, hg6⟩ := (hSi.kept (World.grownBy_alloc w5 (.cells #[] 21) none)).store (by unfold maxLen; omega) hfw (put0 _ mb w5.heap.size (by omega))
          go_wp2
          go_roundw
          case rel =>
            have hg56 : w5.grownBy w6 (some mb) := (World.grownBy_alloc w5 _ _).trans hg6
            have hfin : ∃ (i' c' : Nat), (.int .i64 ((i : Int) + 1) : Value) = .int .i64 i' ∧ i' ≤ 5 ∧ c' ≤ c + 1 + i' ∧ MapS w6 mb c' (fiveF (updO (catF S F G g k) 133 [32]) i') ∧ w.grownBy w6 (some mb) ∧ ∀ j, j < 5 → w6.cell? ⟨w1.heap.size, j, none⟩ = some (.int .i32 (fives.getD j 0)) :=
              ⟨i + 1, c' + 1, by go_num, by omega, by omega, hS6.congr (fun r => by show _ = updO (fiveF (updO (catF S F G g k) 133 [32]) i) (fives.getD i 0) [] r; rw [HV.out]), hgi.trans hg56, fun j hj => hg56.cell (HFIVE.out j hj) (by simp; omega)⟩
            first | exact hfin | ((repeat apply Exists.intro); exact ⟨hfin, rfl⟩)
          case measure => simp [intOf]; omega
        · have hi5' : i = 5 := by omega
          subst hi5'
          have hgs : w.grownBy w5 (some mb) := hgi
          clear hfive hg1 hgw1 hS1 hSk hg
          go_wp2
          go_loopw [69] (fun iv wr => ∃ (m d : Nat), iv = .int .i64 m ∧ m ≤ K ∧ d ≤ c + 6 + 16384 * m ∧ MapS wr mb d (selF P Q (fiveF (updO (catF S F G g k) 133 [32]) 5) m) ∧ w.grownBy wr (some mb)) (fun iv _ => K - (intOf iv).toNat)
          case atStart => exact ⟨0, c', rfl, Nat.zero_le _, by omega, hSi, hgs⟩
          case round =>
            clear hSi hgs hgi
            rename World => wv
            obtain ⟨m, d, rfl, hm, hd, hSm, hgm⟩ := hrel
            by_cases hmK : m < K
            · have r0 := hgm.cell (hsel m hmK).1 (by simpa using h3)
              have r1 := hgm.cell (hsel m hmK).2 (by simpa using h3)
              have bx := bounds_i32 (hP m hmK)
              have bY := bounds_i32 (hQ m hmK)
              have hok := hsels m hmK
              unfold msb.SelOk at hok
              have hmbs := hSm.lt
              generalize hx : P m = x at r0 bx hok
              generalize hy : Q m = y at r1 bY hok
              have HX : Hid (P m = x) := hx
              have HY : Hid (Q m = y) := hy
              clear hx hy
              obtain ⟨hy1, hy2⟩ := hok
              obtain ⟨bx1, bx2⟩ := bx
              obtain ⟨by1, by2⟩ := bY
              go_wp2_with fail
              go_loopw [12] (fun rv w2 => ∃ (z : Int) (c2 : Nat), rv = .int .i32 z ∧ x ≤ z ∧ (z ≤ y + 1 ∨ z = x) ∧ (c2 : Int) ≤ d + (z - x) ∧ MapS w2 mb c2 (fun r => if x ≤ r ∧ r < z then some [] else selF P Q (fiveF (updO (catF S F G g k) 133 [32]) 5) m r) ∧ w.grownBy w2 (some mb) ∧ w2.cell? ⟨wv.heap.size, 1, none⟩ = some (.int .i32 y)) (fun rv _ => (y + 1 - intOf rv).toNat)
              case atStart => exact ⟨x, d, rfl, Int.le_refl _, Or.inr rfl, by omega, (hSm.kept (World.grownBy_alloc wv _ none)).congr (fun r => by rw [if_neg (by omega)]), hgm.trans (World.grownBy_alloc wv _ _), by simp⟩
              case round =>
                rename World => wz
                obtain ⟨z, c2, rfl, hz0, hz1, hc2, hS2, hg2, hbox⟩ := hrel
                have hc42 := hg2.cell hc4 (by simpa using h1)
                have htb : tb < wz.heap.size := World.block_lt_of_cell? _ _ hc42
                have hmbz := hS2.lt
                have hbz := World.block_lt_of_cell? _ _ hbox
                by_cases hzy : z ≤ y
                · obtain ⟨w3, hup, hS3, hg3⟩ := (hS2.kept (World.grownBy_alloc wz (.cells #[] 21) none)).store (by unfold maxLen; omega) (cm.w32_mk (p := z) (by omega) (by omega)) (put0 _ mb wz.heap.size (by omega))
                  go_wp2
                  go_roundw
                  case rel =>
                    have hgz : wz.grownBy w3 (some mb) := (World.grownBy_alloc wz _ _).trans hg3
                    have hfin : ∃ (z' : Int) (c2 : Nat), (.int .i32 (z + 1) : Value) = .int .i32 z' ∧ x ≤ z' ∧ (z' ≤ y + 1 ∨ z' = x) ∧ (c2 : Int) ≤ d + (z' - x) ∧ MapS w3 mb c2 (fun r => if x ≤ r ∧ r < z' then some [] else selF P Q (fiveF (updO (catF S F G g k) 133 [32]) 5) m r) ∧ w.grownBy w3 (some mb) ∧ w3.cell? ⟨wv.heap.size, 1, none⟩ = some (.int .i32 y) :=
                      ⟨z + 1, c2 + 1, rfl, by omega, Or.inl (by omega), by omega, hS3.congr (fun r => upd_range _ _ x z r hz0), hg2.trans hgz, hgz.cell hbox (by simp; omega)⟩
                    first | exact hfin | ((repeat apply Exists.intro); exact ⟨hfin, rfl⟩)
                  case measure => simp [intOf]; omega
                · go_wp2
                  go_roundw
                  case rel =>
                    have hfin : ∃ (m' d' : Nat), (.int .i64 ((m : Int) + 1) : Value) = .int .i64 m' ∧ m' ≤ K ∧ d' ≤ c + 6 + 16384 * m' ∧ MapS wz mb d' (selF P Q (fiveF (updO (catF S F G g k) 133 [32]) 5) m') ∧ w.grownBy wz (some mb) :=
                      ⟨m + 1, c2, by go_num, by omega, by omega, hS2.congr (fun r => by
                        show _ = setR (selF P Q (fiveF (updO (catF S F G g k) 133 [32]) 5) m) (P m) (Q m) [] r
                        rw [HX.out, HY.out]
                        exact (range_end _ _ hz0 hz1 hzy r).symm), hg2⟩
                    first | exact hfin | ((repeat apply Exists.intro); exact ⟨hfin, rfl⟩)
                  case measure => simp [intOf]; omega
            · have hmK' : m = K := by omega
              subst hmK'
              go_wp2
              go_end0
              exact ⟨rfl, ⟨d, hSm⟩, hgm⟩
end Go.Proofs.Qxb6000886a.mse
