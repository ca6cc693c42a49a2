import Derived.Test.Qxb6000886aCm
namespace Go.Proofs.Qxb6000886a.cz
open Go.RowKit
open Go.Proofs.Qxb6000886a.mp (W32 W8 Comb Comp cmp)
open Go.Proofs.Qxb6000886a.rw (Row updN join stepC run run_snoc run_inv)
set_option linter.unusedVariables false
set_option linter.unusedSimpArgs false

/-- ZZCompose -/
theorem zcompose (f : Int → Int) (g : Int → Int → Option Int) (l : List Int) (tb mb cb nm nc sb cap : Nat) (w : World)
    (hn : l.length ≤ 1048576) (hcap : l.length ≤ cap) (hcm : cap ≤ maxLen) (h1 : tb ≠ sb) (h2 : mb ≠ sb) (h3 : cb ≠ sb)
    (hrow : Row .i32 w sb l.length (fun j => l.getD j 0)) (hwf : ∀ j, j < l.length → W32 (l.getD j 0))
    (hc1 : w.cell? ⟨tb, 1, none⟩ = some (.map (some mb))) (hc3 : w.cell? ⟨tb, 3, none⟩ = some (.map (some cb)))
    (hm : Comb w mb nm f) (hc : Comp w cb nc g) :
    Calls Try.prog 25 #[.pointer (some ⟨tb, 0, none⟩), .slice (some ⟨sb, 0, none⟩) l.length cap] w fun e w' =>
      ∃ out st F, run f (cmp g) l = (out, st) ∧ e = .returned (.slice (some ⟨sb, 0, none⟩) out.length cap) ∧ Row .i32 w' sb l.length F ∧ (∀ j, j < out.length → F j = out.getD j 0) ∧ w.grownBy w' (some sb) := by
  go_enter Try.func25, Try.ntmps25
  go_wp2_with fail
  refine (cm.compose f g l tb mb cb nm nc sb cap w hn hcap hcm h1 h2 h3 hrow hwf hc1 hc3 hm hc).mono ?_
  rintro e w' ⟨out, st, F, h1, rfl, h2, h3, h4⟩
  have H1 : Hid (run f (cmp g) l = (out, st)) := h1
  have H3 : Hid (∀ j, j < out.length → F j = out.getD j 0) := h3
  clear h1 h3
  go_wp2
  go_ret
  exact ⟨out, st, F, H1.out, rfl, h2, H3.out, h4⟩

/-- ZZCompose of a nil slice -/
theorem zcompose_nil (tb : Nat) (w : World) :
    Calls Try.prog 25 #[.pointer (some ⟨tb, 0, none⟩), .slice none 0 0] w fun e w' => e = .returned (.slice none 0 0) ∧ w' = w := by
  go_enter Try.func25, Try.ntmps25
  go_wp2
  go_loop [5, 17] (fun c i => c = .slice none 0 0 ∧ i = .int .i64 0) (fun _ _ => 0)
  case atStart => exact ⟨rfl, rfl⟩
  case round =>
    obtain ⟨rfl, rfl⟩ := hrel
    go_wp2
    go_ret
    exact ⟨rfl, rfl⟩
end Go.Proofs.Qxb6000886a.cz
