import Derived.Test.Qxb6000866aProg
import Derived.WalkKit
import Derived.WalkSpells
import Derived.RowKit3
import Derived.Deep.Light
import Derived.Laws.RangeAny
namespace Go.Proofs.Qxb6000866a.uu
open Go.RowKit
set_option linter.unusedVariables false
set_option linter.unusedSimpArgs false

def hexB (c : Nat) : Bool := decide ((48 ≤ c ∧ c ≤ 57) ∨ (97 ≤ c ∧ c ≤ 102) ∨ (65 ≤ c ∧ c ≤ 70))
def hyB (i : Nat) : Bool := decide (i = 8 ∨ i = 13 ∨ i = 18 ∨ i = 23)
def okB (i c : Nat) : Bool := if hyB i = true then decide (c = 45) else hexB c
def UU (s : ByteArray) : Prop := s.size = 36 ∧ ∀ (i : Nat) (h : i < s.size), okB i (s[i]'h).toNat = true
def gl (g : Int) : Int := if g = 0 then 8 else if g = 4 then 12 else 4
def st (g : Int) : Int := if g = 0 then 0 else if g = 1 then 9 else if g = 2 then 14 else if g = 3 then 19 else 24

theorem glen (g : Int) (w : World) :
    Calls Try.prog 27 #[.int .i64 g] w fun e w' => e = .returned (.int .i64 (gl g)) ∧ w' = w := by
  go_enter Try.func27, Try.ntmps27
  go_wp2
  all_goals
    go_ret
    exact ⟨by unfold gl; simp_all, rfl⟩

theorem ishex (c : Nat) (w : World) :
    Calls Try.prog 28 #[.int .u8 c] w fun e w' => e = .returned (.bool (hexB c)) ∧ w' = w := by
  go_enter Try.func28, Try.ntmps28
  go_wp2
  all_goals
    go_ret
    exact ⟨congrArg (fun b => Ending.returned (.bool b)) (by rw [Bool.eq_iff_iff]; simp [hexB]; omega), rfl⟩


/-! ### plain facts -/
theorem place (G R : Int) (k : Nat) (h0 : 0 ≤ G) (h4 : G ≤ 4) (r0 : 0 ≤ R) (r1 : R ≤ gl G) (hk : (k : Int) = st G + R) :
    (hyB k = true ↔ (G < 4 ∧ R = gl G)) ∧ (k = 36 ↔ (G = 4 ∧ R = 12)) ∧ k ≤ 36 ∧ (G < 4 → st (G + 1) = st G + gl G + 1) := by
  have hg : G = 0 ∨ G = 1 ∨ G = 2 ∨ G = 3 ∨ G = 4 := by omega
  rcases hg with rfl | rfl | rfl | rfl | rfl <;> simp [gl, st, hyB] at r1 hk ⊢ <;> omega

theorem not_uu {s : ByteArray} {k : Nat} (hlt : k < s.size) (h : okB k (s[k]'hlt).toNat = false ∨ s.size ≠ 36) : ¬ UU s := by
  rintro ⟨h36, ha⟩
  rcases h with h | h
  · rw [ha k hlt] at h; cases h
  · exact h h36

theorem ok_hyphen {k c : Nat} (hc : c = 45) : okB k c = hyB k := by
  subst hc; unfold okB; split
  · rename_i h; rw [h]; rfl
  · rename_i h; rw [Bool.not_eq_true] at h; rw [h]; rfl

theorem ok_other {k c : Nat} (hc : ¬ c = 45) : okB k c = (!hyB k && hexB c) := by
  unfold okB; split
  · rename_i h; simp [h, hc]
  · rename_i h; rw [Bool.not_eq_true] at h; simp [h]

theorem w1 {s : ByteArray} {k : Nat} {G R : Int} (hlt : k < s.size) (h0 : 0 ≤ G) (h4 : G ≤ 4) (r0 : 0 ≤ R) (r1 : R ≤ gl G) (hk : (k : Int) = st G + R)
    (hc : (((s[k]'hlt).toNat : Int) == 45) = true) (h : 4 ≤ G ∨ (R != gl G) = true) : ¬ UU s := by
  have hp := (place G R k h0 h4 r0 r1 hk).1
  have hc' : (s[k]'hlt).toNat = 45 := by have := eq_of_beq hc; omega
  refine not_uu hlt (Or.inl ?_)
  rw [ok_hyphen hc', Bool.eq_false_iff, ne_eq, hp]
  rintro ⟨a, b⟩
  rcases h with h | h
  · omega
  · simp [b] at h

theorem w2 {s : ByteArray} {k : Nat} (hlt : k < s.size) (hc : (((s[k]'hlt).toNat : Int) == 45) = false) (h : (!hexB (s[k]'hlt).toNat) = true) : ¬ UU s := by
  have hc' : ¬ (s[k]'hlt).toNat = 45 := by
    intro e; simp [e] at hc
  refine not_uu hlt (Or.inl ?_)
  rw [ok_other hc']
  simp at h
  simp [h]

theorem w3 {s : ByteArray} {k : Nat} {G R : Int} (hlt : k < s.size) (h0 : 0 ≤ G) (h4 : G ≤ 4) (r0 : 0 ≤ R) (r1 : R ≤ gl G) (hk : (k : Int) = st G + R)
    (hc : (((s[k]'hlt).toNat : Int) == 45) = false) (h : gl G < R + 1) : ¬ UU s := by
  obtain ⟨hp, hq, hr, _⟩ := place G R k h0 h4 r0 r1 hk
  have hc' : ¬ (s[k]'hlt).toNat = 45 := by
    intro e; simp [e] at hc
  by_cases hG : G < 4
  · refine not_uu hlt (Or.inl ?_)
    rw [ok_other hc', hp.2 ⟨hG, by omega⟩]
    rfl
  · have hG' : G = 4 := by omega
    subst hG'
    have hgl : gl 4 = 12 := by decide
    have : k = 36 := hq.2 ⟨rfl, by omega⟩
    exact not_uu hlt (Or.inr (by omega))

theorem n1 {s : ByteArray} {k : Nat} {G R : Int} (hlt : k < s.size) (h0 : 0 ≤ G) (h4 : G < 4) (r0 : 0 ≤ R) (r1 : R ≤ gl G) (hk : (k : Int) = st G + R)
    (hc : (((s[k]'hlt).toNat : Int) == 45) = true) (h : (R != gl G) = false) (HA : ∀ (i : Nat) (h : i < s.size), i < k → okB i (s[i]'h).toNat = true) :
    ((k + 1 : Nat) : Int) = st (G + 1) + 0 ∧ ∀ (i : Nat) (h : i < s.size), i < k + 1 → okB i (s[i]'h).toNat = true := by
  obtain ⟨hp, hq, hr, hn⟩ := place G R k h0 (by omega) r0 r1 hk
  have hR : R = gl G := by simpa using h
  have hc' : (s[k]'hlt).toNat = 45 := by have := eq_of_beq hc; omega
  refine ⟨by have := hn h4; omega, fun i hi hik => ?_⟩
  by_cases e : i = k
  · subst e; rw [ok_hyphen hc']; exact hp.2 ⟨h4, hR⟩
  · exact HA i hi (by omega)

theorem n2 {s : ByteArray} {k : Nat} {G R : Int} (hlt : k < s.size) (h0 : 0 ≤ G) (h4 : G ≤ 4) (r0 : 0 ≤ R) (r1 : R + 1 ≤ gl G) (hk : (k : Int) = st G + R)
    (hc : (((s[k]'hlt).toNat : Int) == 45) = false) (h : (!hexB (s[k]'hlt).toNat) = false) (HA : ∀ (i : Nat) (h : i < s.size), i < k → okB i (s[i]'h).toNat = true) :
    ((k + 1 : Nat) : Int) = st G + (R + 1) ∧ ∀ (i : Nat) (h : i < s.size), i < k + 1 → okB i (s[i]'h).toNat = true := by
  obtain ⟨hp, hq, hr, hn⟩ := place G R k h0 h4 r0 (by omega) hk
  have hc' : ¬ (s[k]'hlt).toNat = 45 := by
    intro e; simp [e] at hc
  refine ⟨by omega, fun i hi hik => ?_⟩
  by_cases e : i = k
  · subst e; rw [ok_other hc']
    have hy : hyB i = false := by
      rw [Bool.eq_false_iff, ne_eq, hp]; rintro ⟨_, b⟩; omega
    simp at h
    simp [hy, h]
  · exact HA i hi (by omega)

theorem fin {s : ByteArray} {k : Nat} {G R : Int} (hk' : k ≤ s.size) (hlt : ¬ k < s.size) (h0 : 0 ≤ G) (h4 : G ≤ 4) (r0 : 0 ≤ R) (r1 : R ≤ gl G) (hk : (k : Int) = st G + R)
    (HA : ∀ (i : Nat) (h : i < s.size), i < k → okB i (s[i]'h).toNat = true) : UU s ↔ (G = 4 ∧ R = 12) := by
  obtain ⟨hp, hq, hr, hn⟩ := place G R k h0 h4 r0 r1 hk
  have e : s.size = k := by omega
  constructor
  · rintro ⟨a, _⟩; exact hq.1 (by omega)
  · intro h
    exact ⟨by rw [e]; exact hq.2 h, fun i hi => HA i hi (by omega)⟩

def Res (s : ByteArray) (e : Ending) : Prop := ∃ b : Bool, e = .returned (.bool b) ∧ (b = true ↔ UU s)
theorem Res.no {s : ByteArray} (h : ¬ UU s) : Res s (.returned (.bool false)) := ⟨false, rfl, by simp [h]⟩
theorem Res.yes {s : ByteArray} (h : UU s) : Res s (.returned (.bool true)) := ⟨true, rfl, by simp [h]⟩

set_option maxHeartbeats 1000000 in
theorem groups (s : ByteArray) (w : World) (hs : s.size ≤ maxLen) :
    Calls Try.prog 12 #[.string s] w fun e w' => Res s e ∧ w' = w := by
  unfold maxLen at hs
  go_enter Try.func12, Try.ntmps12
  go_wp2
  go_loop [3, 4, 5] (fun g r i => ∃ (k : Nat) (G R : Int), i = .int .i64 k ∧ g = .int .i64 G ∧ r = .int .i64 R ∧ k ≤ s.size ∧ 0 ≤ G ∧ G ≤ 4 ∧ 0 ≤ R ∧ R ≤ gl G ∧ Hid ((k : Int) = st G + R) ∧ Hid (∀ (i : Nat) (h : i < s.size), i < k → okB i (s[i]'h).toNat = true)) (fun _ _ i => s.size - (intOf i).toNat)
  case atStart => exact ⟨0, 0, 0, rfl, rfl, rfl, Nat.zero_le _, by omega, by omega, by omega, by decide, (by decide : (_ : Int) = _), fun i _ h => by omega⟩
  case round =>
    obtain ⟨k, G, R, rfl, rfl, rfl, hk, hG0, hG4, hR0, hR, HK, HA⟩ := hrel
    have hR12 : R ≤ 12 := by unfold gl at hR; split at hR <;> (try split at hR) <;> omega
    by_cases hlt : k < s.size
    · go_wp2_with (first | (go_at_call 27; refine (glen _ _).mono ?_; rintro e w' ⟨rfl, rfl⟩) | (go_at_call 28; refine (ishex _ _).mono ?_; rintro e w' ⟨rfl, rfl⟩))
      · go_ret
        exact ⟨Res.no (w1 hlt hG0 hG4 hR0 hR HK.out ‹_› ‹_›), rfl⟩
      · have hn := n1 hlt hG0 (by omega) hR0 hR HK.out ‹_› (And.right ‹G < 4 ∧ (R != gl G) = false›) HA.out
        go_round
        case rel => exact ⟨k + 1, G + 1, 0, by go_num, rfl, rfl, by omega, by omega, by omega, by omega, by unfold gl; split <;> (try split) <;> omega, hn.1, hn.2⟩
        case measure => simp [intOf]; omega
      · go_ret
        exact ⟨Res.no (w1 hlt hG0 hG4 hR0 hR HK.out ‹_› (Or.inl ‹_›)), rfl⟩
      · go_ret
        exact ⟨Res.no (w2 hlt ‹_› ‹_›), rfl⟩
      · go_ret
        exact ⟨Res.no (w3 hlt hG0 hG4 hR0 hR HK.out ‹_› ‹_›), rfl⟩
      · have hn := n2 hlt hG0 hG4 hR0 ‹_› HK.out ‹_› ‹_› HA.out
        go_round
        case rel => exact ⟨k + 1, G, R + 1, by go_num, rfl, rfl, by omega, by omega, by omega, by omega, by omega, hn.1, hn.2⟩
        case measure => simp [intOf]; omega
    · go_wp2
      · go_ret
        refine ⟨⟨R == 12, rfl, ?_⟩, rfl⟩
        rw [fin hk hlt hG0 hG4 hR0 hR HK.out HA.out]
        simp_all
      · go_ret
        exact ⟨Res.no (fun h => absurd ((fin hk hlt hG0 hG4 hR0 hR HK.out HA.out).1 h).1 ‹_›), rfl⟩

theorem frozen_iter (w : World) (s : ByteArray) (pos : Nat) (a : Addr) : (w.iter s pos).frozen? a = w.frozen? a := by
  unfold World.iter
  by_cases h : a.block = w.heap.size
  · have e1 : (w.alloc (.stringIter s pos)).heap[a.block]? = some (.stringIter s pos) := by rw [h]; exact (MapKept.heap_alloc w _).1
    have e2 : w.heap[a.block]? = none := by rw [h]; simp
    simp [World.frozen?, e1, e2]
  · exact World.frozen?_alloc_old _ _ _ h

theorem grown_iter (w : World) (s : ByteArray) (pos : Nat) : Grown w (w.iter s pos) :=
  ⟨World.keptBut_alloc _ _ _, fun a => frozen_iter w s pos a, by simp [World.iter]⟩

theorem okIff (i c : Nat) : okB i c = true ↔ ((i = 8 ∨ i = 13 ∨ i = 18 ∨ i = 23) ∧ c = 45) ∨ (¬ (i = 8 ∨ i = 13 ∨ i = 18 ∨ i = 23) ∧ ((48 ≤ c ∧ c ≤ 57) ∨ (97 ≤ c ∧ c ≤ 102) ∨ (65 ≤ c ∧ c ≤ 70))) := by
  unfold okB hyB hexB
  by_cases h : (i = 8 ∨ i = 13 ∨ i = 18 ∨ i = 23) <;> simp [h]

theorem u_no {s : ByteArray} {pos c : Nat} (hlt : pos < s.size) (hc : c = (s[pos]'hlt).toNat) (h : ¬ okB pos c = true) : ¬ UU s :=
  not_uu hlt (Or.inl (by rw [← hc]; simpa using h))

theorem u_step {s : ByteArray} {pos c : Nat} (hlt : pos < s.size) (hc : c = (s[pos]'hlt).toNat) (h : okB pos c = true)
    (HA : ∀ (i : Nat) (h : i < s.size), i < pos → okB i (s[i]'h).toNat = true) : ∀ (i : Nat) (h : i < s.size), i < pos + 1 → okB i (s[i]'h).toNat = true := by
  intro i hi hik
  by_cases e : i = pos
  · subst e; rw [← hc]; exact h
  · exact HA i hi (by omega)

theorem hi_no {s : ByteArray} {k : Nat} (hlt : k < s.size) (h : 128 ≤ (s[k]'hlt).toNat) : ¬ UU s := by
  refine not_uu hlt (Or.inl ?_)
  unfold okB hexB
  split <;> simp <;> omega

set_option maxHeartbeats 1000000 in
theorem isuuid (s : ByteArray) (w : World) (hs : s.size ≤ maxLen) :
    Calls Try.prog 26 #[.string s] w fun e w' => Res s e ∧ Grown w w' := by
  by_cases h36 : s.size = 36
  · have H36 : Hid (s.size = 36) := h36
    have hz : ((s.size : Int) != 36) = false := by simp [h36]
    clear h36
    go_enter Try.func26, Try.ntmps26
    go_wp2
    go_loopw [3] (fun _ w' => ∃ (pos : Nat), w' = w.iter s pos ∧ pos ≤ s.size ∧ Hid (∀ (i : Nat) (h : i < s.size), i < pos → okB i (s[i]'h).toNat = true)) (fun _ w' => s.size - w'.iterPos w.heap.size)
    case atStart => exact ⟨0, rfl, Nat.zero_le _, fun i _ h => by omega⟩
    case round =>
      obtain ⟨pos, rfl, hp, HA⟩ := hrel
      by_cases hlt : pos < s.size
      · by_cases hb : (s[pos]'hlt).toNat < 128
        · obtain ⟨c, hc⟩ : ∃ c, c = (s[pos]'hlt).toNat := ⟨_, rfl⟩
          have hnx : ∀ ty, (Instr.next (.pointer (some ⟨w.heap.size, 0, none⟩)) true ty).run Try.prog (w.iter s pos) = .ok (.tuple #[.bool true, .int .i64 pos, .int .i32 c]) (w.iter s (pos + 1)) := fun ty => by rw [hc]; exact run_next_ascii w s pos ty hlt hb
          have Hc : Hid (c = (s[pos]'hlt).toNat) := hc
          have hb' : c < 128 := by omega
          clear hc hb
          go_wp2
          all_goals clear hnx
          all_goals first
            | (go_ret
               go_light
               refine ⟨Res.no (u_no hlt Hc.out ?_), grown_iter _ _ _⟩
               rw [okIff]
               simp only [beq_iff_eq, beq_eq_false_iff_ne, bne_iff_ne, bne_eq_false_iff_eq, Bool.not_eq_true', Bool.not_eq_false', decide_eq_false_iff_not, decide_eq_true_eq, ne_eq] at *
               omega)
            | (go_light
               have hok : okB pos c = true := by
                 rw [okIff]
                 simp only [beq_iff_eq, beq_eq_false_iff_ne, bne_iff_ne, bne_eq_false_iff_eq, Bool.not_eq_true', Bool.not_eq_false', decide_eq_false_iff_not, decide_eq_true_eq, ne_eq] at *
                 omega
               exact ⟨⟨pos + 1, rfl, by omega, u_step hlt Hc.out hok HA.out⟩, by simp; omega⟩)
        · obtain ⟨c, hc⟩ : ∃ c, c = (Utf8.decode s pos).1 := ⟨_, rfl⟩
          obtain ⟨d, hd⟩ : ∃ d, d = (Utf8.decode s pos).2 := ⟨_, rfl⟩
          have hnx : ∀ ty, (Instr.next (.pointer (some ⟨w.heap.size, 0, none⟩)) true ty).run Try.prog (w.iter s pos) = .ok (.tuple #[.bool true, .int .i64 pos, .int .i32 c]) (w.iter s (pos + d)) := fun ty => by rw [hc, hd]; exact run_next_any w s pos ty hlt
          have hb' : 128 ≤ c := by rw [hc]; exact (decode_high s pos hlt (by omega)).1
          have hno := hi_no hlt (by omega)
          clear hc hd hb
          go_wp2
          all_goals clear hnx
          all_goals first
            | (go_ret
               exact ⟨Res.no hno, grown_iter _ _ _⟩)
            | (exfalso; go_light; simp only [beq_iff_eq, beq_eq_false_iff_ne, bne_iff_ne, bne_eq_false_iff_eq, Bool.not_eq_true', Bool.not_eq_false', decide_eq_false_iff_not, decide_eq_true_eq, ne_eq] at *; omega)
      · have hnx : ∀ ty, (Instr.next (.pointer (some ⟨w.heap.size, 0, none⟩)) true ty).run Try.prog (w.iter s pos) = _ := fun ty => run_next_end w s pos ty hlt
        go_wp2
        go_ret
        exact ⟨Res.yes ⟨H36.out, fun i hi => HA.out i hi (by omega)⟩, grown_iter _ _ _⟩
  · have hz : ((s.size : Int) != 36) = true := by simp; omega
    go_enter Try.func26, Try.ntmps26
    go_wp2
    go_ret
    exact ⟨Res.no (fun h => h36 h.1), Grown.refl _⟩

theorem zisuuid (s : ByteArray) (w : World) (hs : s.size ≤ maxLen) :
    Calls Try.prog 11 #[.string s] w fun e w' => Res s e ∧ Grown w w' := by
  go_enter Try.func11, Try.ntmps11
  go_wp2_with fail
  refine (isuuid s _ hs).mono ?_
  rintro e w' ⟨⟨b, rfl, hb⟩, hg⟩
  have HB : Hid (b = true ↔ UU s) := hb
  clear hb
  go_wp2
  go_ret
  exact ⟨⟨b, rfl, HB.out⟩, hg⟩

theorem bytes10 (a : ByteArray) (w : World) (ha : a.size ≤ maxLen) :
    Calls Try.prog 10 #[.string a] w fun e w' => e = .returned (.bool (decide (a.size ≤ 1048576))) ∧ w' = w := by
  unfold maxLen at ha
  go_enter Try.func10, Try.ntmps10
  go_wp2
  all_goals
    go_ret
    exact ⟨by congr 2; simp; omega, rfl⟩

theorem same_bool {s : ByteArray} {b c : Bool} (hb : b = true ↔ UU s) (hc : c = true ↔ UU s) : (b == c) = true := by
  have : b = true ↔ c = true := hb.trans hc.symm
  cases b <;> cases c <;> simp_all

set_option maxHeartbeats 400000 in
theorem law (s : ByteArray) (w0 : s.size ≤ maxLen) (w : World) :
    Calls Try.prog 3 #[.string s] w fun e w' => e = .returned (.bool true) ∧ Grown w w' := by
  by_cases hs : s.size ≤ 1048576
  · have hd : (decide (s.size ≤ 1048576)) = true := by simp; omega
    go_enter Try.func3, Try.ntmps3
    go_wp2_with (first | (go_at_call 10; refine (bytes10 _ _ w0).mono ?_; rintro e w' ⟨rfl, rfl⟩))
    refine (zisuuid s _ w0).mono ?_
    rintro e w1 ⟨⟨b, rfl, hb⟩, hg⟩
    have HB : Hid (b = true ↔ UU s) := hb
    clear hb
    go_wp2_with fail
    refine (groups s _ w0).mono ?_
    rintro e w' ⟨⟨c, rfl, hc⟩, rfl⟩
    have HC : Hid (c = true ↔ UU s) := hc
    clear hc
    go_wp2
    go_ret
    exact ⟨congrArg (fun b => Ending.returned (.bool b)) (same_bool HB.out HC.out), hg⟩
  · have hd : (decide (s.size ≤ 1048576)) = false := by simp; omega
    go_enter Try.func3, Try.ntmps3
    go_wp2_with (first | (go_at_call 10; refine (bytes10 _ _ w0).mono ?_; rintro e w' ⟨rfl, rfl⟩))
    go_ret
    exact ⟨rfl, Grown.refl _⟩
end Go.Proofs.Qxb6000866a.uu
