import Derived.Test.Qxb6000886aMsi
namespace Go.Proofs.Qxb6000886a.msj
open Go.RowKit
open Go.Proofs.Qxb6000886a.mp (W32 W8)
open Go.Proofs.Qxb6000886a.rw (Row updN)
open Go.Proofs.Qxb6000886a.tb (Sl)
open Go.Proofs.Qxb6000886a.cl (Rd)
open Go.Proofs.Qxb6000886a.msa (sepB ctlB Asc InSel)
open Go.Proofs.Qxb6000886a.msb (RdV CatOk SelOk Fits)
open Go.Proofs.Qxb6000886a.msc (SlS SlSl RS)
open Go.Proofs.Qxb6000886a.msd (MapS updO Got)
open Go.Proofs.Qxb6000886a.msf (prF lst lst_len lst_get)
open Go.Proofs.Qxb6000886a.msi (fin Exp)
set_option linter.unusedVariables false
set_option linter.unusedSimpArgs false

/-! ### zzspMatches, case by case -/
theorem m0 (a a4 : Option Addr) (c n4 c4 : Nat) (idx : Int) (w : World) :
    Calls Try.prog 20 #[.slice a 0 c, .bool true, .int .i64 0, .int .i64 idx, .slice a4 n4 c4] w fun e w' => e = .returned (.bool true) ∧ w.grownBy w' none := by
  go_enter Try.func20, Try.ntmps20
  go_wp2
  go_ret
  exact ⟨rfl, World.grownBy.refl _ _⟩

theorem m1 (a4 : Option Addr) (b c n4 c4 : Nat) (idx : Int) (w : World) (h : w.cell? ⟨b, 0, none⟩ = some (.int .i32 32)) :
    Calls Try.prog 20 #[.slice (some ⟨b, 0, none⟩) 1 c, .bool true, .int .i64 1, .int .i64 idx, .slice a4 n4 c4] w fun e w' => e = .returned (.bool true) ∧ w.grownBy w' none := by
  go_enter Try.func20, Try.ntmps20
  go_wp2
  go_ret
  exact ⟨rfl, World.grownBy.refl _ _⟩

theorem m2 (a a4 : Option Addr) (n c n4 c4 : Nat) (w : World) :
    Calls Try.prog 20 #[.slice a n c, .bool false, .int .i64 2, .int .i64 (-1), .slice a4 n4 c4] w fun e w' => e = .returned (.bool true) ∧ w.grownBy w' none := by
  go_enter Try.func20, Try.ntmps20
  go_wp2
  go_ret
  exact ⟨rfl, World.grownBy.refl _ _⟩

theorem m3 (a a4 : Option Addr) (n c n4 c4 b b4 j : Nat) (L : Nat → Nat) (X : Nat → Nat → Int) (w : World) (hj : j < n4) (hn : n = L j) (h : Rd .i32 w a n b 0 (fun i => (lst (L j) (X j)).getD i 0)) (s4 : SlSl w a4 n4 b4 L X) :
    Calls Try.prog 20 #[.slice a n c, .bool true, .int .i64 2, .int .i64 (j : Int), .slice a4 n4 c4] w fun e w' => e = .returned (.bool true) ∧ w.grownBy w' none := by
  have e4 := s4.addr (by omega)
  obtain ⟨aj, cj, bj, hc, hs, _⟩ := s4.row j hj
  rw [← hn] at hc hs h
  have HL : Hid (n = L j) := hn
  have HH : Hid (Rd .i32 w a n b 0 (fun i => (lst n (X j)).getD i 0)) := h
  clear hn h
  subst e4
  go_enter Try.func20, Try.ntmps20
  go_wp2_with fail
  refine (sm.eq23 a aj n n c cj b bj 0 0 _ (X j) _ hs.le hs.le HH.out (Rd.of_sl hs)).mono ?_
  rintro e w2 ⟨⟨bb, rfl, hb⟩, hg⟩
  have hbt : bb = true := hb.2 ⟨rfl, fun i hi => lst_get n (X j) hi⟩
  subst hbt
  clear hb
  go_wp2
  go_ret
  exact ⟨rfl, hg⟩

/-- whatever the rune: what is found matches what is expected -/
theorem match20 (gf : Option (List Int)) (m : Nat) (L : Nat → Nat) (X : Nat → Nat → Int) (a a4 : Option Addr) (n c n4 c4 b4 : Nat) (kind idx : Int) (w : World)
    (hE : Exp gf m L X (.returned (.tuple #[.int .i64 kind, .int .i64 idx]))) (hm : m ≤ n4) (hx : ∀ xs, gf = some xs → n = xs.length ∧ ∃ b, Rd .i32 w a n b 0 (fun j => xs.getD j 0)) (s4 : SlSl w a4 n4 b4 L X) :
    Calls Try.prog 20 #[.slice a n c, .bool gf.isSome, .int .i64 kind, .int .i64 idx, .slice a4 n4 c4] w fun e w' => e = .returned (.bool true) ∧ w.grownBy w' none := by
  rcases hE with ⟨h1, h2⟩ | ⟨h1, h2⟩ | ⟨h1, h2⟩ | ⟨j, hj, h1, h2⟩
  · simp only [Ending.returned.injEq, Value.tuple.injEq] at h1
    have hk : kind = 0 ∧ idx = -1 := by simpa using h1
    obtain ⟨rfl, rfl⟩ := hk
    subst h2
    obtain ⟨rfl, _⟩ := hx [] rfl
    exact m0 a a4 c n4 c4 (-1) w
  · have hk : kind = 1 ∧ idx = -1 := by simpa using h1
    obtain ⟨rfl, rfl⟩ := hk
    subst h2
    obtain ⟨hn, b, hr⟩ := hx [32] rfl
    simp at hn
    subst hn
    obtain rfl := hr.addr (by omega)
    exact m1 a4 b c n4 c4 (-1) w (hr.cell 0 (by omega))
  · have hk : kind = 2 ∧ idx = -1 := by simpa using h1
    obtain ⟨rfl, rfl⟩ := hk
    subst h2
    exact m2 a a4 n c n4 c4 w
  · have hk : kind = 2 ∧ idx = (j : Int) := by simpa using h1
    obtain ⟨rfl, rfl⟩ := hk
    subst h2
    obtain ⟨hn, b, hr⟩ := hx _ rfl
    rw [lst_len] at hn
    exact m3 a a4 n c n4 c4 b b4 j L X w (by omega) hn hr s4
end Go.Proofs.Qxb6000886a.msj
