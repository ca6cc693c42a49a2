import Derived.Test.Qxb6000886aMsk
import Derived.ProofKit
import Derived.OpenShut
import Derived.SliceStrings
import Derived.Deep.Slices
namespace Go.Proofs.Qxb6000886a.msl
open Go.ChangeShapes Go.WideShapes Go.ChangeAt Go.RowKit
open Go.Proofs.Qxb6000886a.cl (Rd)
open Go.Proofs.Qxb6000886a.msb (RdV)
set_option linter.unusedVariables false
set_option linter.unusedSimpArgs false

theorem vals_at {w : World} {a : Addr} {m : Nat} {V : Nat → Value} (h : ∀ i, i < m → w.cell? (a.add i) = some (V i)) (hp : 0 < m) : ∃ b off, a = ⟨b, off, none⟩ ∧ ∀ j, j < m → w.cell? ⟨b, off + j, none⟩ = some (V j) := by
  obtain ⟨b, off, spot⟩ := a
  have hspot : spot = none := by simpa [Addr.add] using World.cell?_spot (h 0 hp)
  subst hspot
  exact ⟨b, off, rfl, fun j hj => by rw [← Go.WideShapes.add_plain]; exact h j hj⟩

section
variable {H : Type} {enc : TypeId × Value → H} {w : World} {base : Nat} {spare : Nat → Bool} {held : Bool} {fuel : Nat} {a : Option Addr} {len cap : Nat} {x : DataW H × List MemPlace}

theorem rd_empty (q : IntKind) : Rd q w a 0 0 0 (fun _ => 0) := ⟨fun h => absurd h (Nat.lt_irrefl _), fun j hj => absurd hj (Nat.not_lt_zero _), fun j hj => absurd hj (Nat.not_lt_zero _)⟩

theorem rd_ints (h : DataW.trod enc Try.prog w base spare held fuel 22 [.slice a len cap] = some x) : ∃ b off F, Rd .i32 w a len b off F ∧ len ≤ maxLen := by
  rcases open_ints Try.underlying22 Try.underlying21 (by kernel_rfl) h with ⟨hcs, _⟩ | ⟨ad, l, c, zs, hcs, _, hl, hm, hz, _, hcell, hwz⟩
  · simp at hcs
    obtain ⟨rfl, rfl, rfl⟩ := hcs
    exact ⟨0, 0, _, rd_empty .i32, Nat.zero_le _⟩
  · simp at hcs
    obtain ⟨rfl, rfl, rfl⟩ := hcs
    have hzl : len ≤ zs.length := by rw [hz]; split <;> omega
    rcases Nat.eq_zero_or_pos len with h0 | h0
    · subst h0
      exact ⟨0, 0, _, rd_empty .i32, Nat.zero_le _⟩
    · obtain ⟨b, off, rfl, hc⟩ := vals_at (V := fun i => .int .i32 (zs.getD i 0)) hcell (by omega)
      refine ⟨b, off, fun j => zs.getD j 0, ⟨fun _ => rfl, fun j hj => hc j (by omega), fun j hj => ?_⟩, by omega⟩
      show (Lit.int .i32 (zs.getD j 0)).wf = true
      rw [List.getD_eq_getElem?_getD, List.getElem?_eq_getElem (by omega)]
      exact hwz _ (List.getElem_mem _)

theorem rd_strs (h : DataW.trod enc Try.prog w base spare held fuel 23 [.slice a len cap] = some x) : ∃ (b off : Nat) (S : Nat → ByteArray), RdV w a len b off (fun j => .string (S j)) ∧ len ≤ maxLen := by
  rcases open_strings Try.underlying23 Try.underlying9 (by kernel_rfl) h with ⟨hcs, _⟩ | ⟨ad, l, c, ss, hcs, _, hl, hm, hz, _, hcell, _⟩
  · simp at hcs
    obtain ⟨rfl, rfl, rfl⟩ := hcs
    exact ⟨0, 0, fun _ => ByteArray.empty, ⟨fun h => absurd h (Nat.lt_irrefl _), fun j hj => absurd hj (Nat.not_lt_zero _)⟩, Nat.zero_le _⟩
  · simp at hcs
    obtain ⟨rfl, rfl, rfl⟩ := hcs
    have hzl : len ≤ ss.length := by rw [hz]; split <;> omega
    rcases Nat.eq_zero_or_pos len with h0 | h0
    · subst h0
      exact ⟨0, 0, fun _ => ByteArray.empty, ⟨fun h => absurd h (Nat.lt_irrefl _), fun j hj => absurd hj (Nat.not_lt_zero _)⟩, Nat.zero_le _⟩
    · obtain ⟨b, off, rfl, hc⟩ := vals_at (V := fun i => .string (ss.getD i ByteArray.empty)) hcell (by omega)
      exact ⟨b, off, fun j => ss.getD j ByteArray.empty, ⟨fun _ => rfl, fun j hj => hc j (by omega)⟩, by omega⟩

theorem rd_rows (h : DataW.trod enc Try.prog w base spare held fuel 24 [.slice a len cap] = some x) :
    ∃ (b off : Nat) (A : Nat → Option Addr) (L C B O : Nat → Nat) (X : Nat → Nat → Int), RdV w a len b off (fun j => .slice (A j) (L j) (C j)) ∧ (∀ j, j < len → Rd .i32 w (A j) (L j) (B j) (O j) (X j)) ∧ len ≤ maxLen := by
  rcases Go.Deep.open_slice1 Try.underlying24 (by kernel_rfl) h with ⟨hcs, _⟩ | ⟨ad, l, c, m, n, V, D, Pl, hcs, _, hl, hm, hmm, _, hcell⟩
  · simp at hcs
    obtain ⟨rfl, rfl, rfl⟩ := hcs
    exact ⟨0, 0, fun _ => none, fun _ => 0, fun _ => 0, fun _ => 0, fun _ => 0, fun _ _ => 0, ⟨fun h => absurd h (Nat.lt_irrefl _), fun j hj => absurd hj (Nat.not_lt_zero _)⟩, fun j hj => absurd hj (Nat.not_lt_zero _), Nat.zero_le _⟩
  · simp at hcs
    obtain ⟨rfl, rfl, rfl⟩ := hcs
    have hml : len ≤ m := by rw [hmm]; split <;> omega
    have each : ∀ i, i < len → ∃ t : Option Addr × Nat × Nat × Nat × Nat × (Nat → Int), V i = .slice t.1 t.2.1 t.2.2.1 ∧ Rd .i32 w t.1 t.2.1 t.2.2.2.1 t.2.2.2.2.1 t.2.2.2.2.2 := by
      intro i hi
      have ht := (hcell i (by omega)).2
      have hv : ∃ a' l' c', V i = .slice a' l' c' := by
        rcases open_ints Try.underlying22 Try.underlying21 (by kernel_rfl) ht with ⟨hcs, _⟩ | ⟨ad', l', c', zs, hcs, _⟩
        · simp at hcs; exact ⟨_, _, _, hcs⟩
        · simp at hcs; exact ⟨_, _, _, hcs⟩
      obtain ⟨a', l', c', hv⟩ := hv
      rw [hv] at ht
      obtain ⟨b', o', F', hr, _⟩ := rd_ints ht
      exact ⟨(a', l', c', b', o', F'), hv, hr⟩
    obtain ⟨T, hT⟩ := Go.Deep.choose_lt each
    rcases Nat.eq_zero_or_pos len with h0 | h0
    · subst h0
      exact ⟨0, 0, fun _ => none, fun _ => 0, fun _ => 0, fun _ => 0, fun _ => 0, fun _ _ => 0, ⟨fun h => absurd h (Nat.lt_irrefl _), fun j hj => absurd hj (Nat.not_lt_zero _)⟩, fun j hj => absurd hj (Nat.not_lt_zero _), Nat.zero_le _⟩
    · obtain ⟨b, off, rfl, hc⟩ := vals_at (V := V) (fun i hi => (hcell i hi).1) (show 0 < m by omega)
      exact ⟨b, off, fun j => (T j).1, fun j => (T j).2.1, fun j => (T j).2.2.1, fun j => (T j).2.2.2.1, fun j => (T j).2.2.2.2.1, fun j => (T j).2.2.2.2.2,
        ⟨fun _ => rfl, fun j hj => by rw [hc j (by omega), (hT j hj).1]⟩, fun j hj => (hT j hj).2, by omega⟩
end
end Go.Proofs.Qxb6000886a.msl
