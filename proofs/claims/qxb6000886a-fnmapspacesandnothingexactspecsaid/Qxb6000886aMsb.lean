import Derived.Test.Qxb6000886aMsa
import Derived.OpenShut
namespace Go.Proofs.Qxb6000886a.msb
open Go.RowKit
open Go.Proofs.Qxb6000886a.mp (W32 W8)
open Go.Proofs.Qxb6000886a.rw (Row)
open Go.Proofs.Qxb6000886a.cl (Rd)
open Go.Proofs.Qxb6000886a.msa (sepB ctlB)
set_option linter.unusedVariables false
set_option linter.unusedSimpArgs false

/-- a slice whose elements are one cell each, read -/
structure RdV (w : World) (a : Option Addr) (n b off : Nat) (V : Nat → Value) : Prop where
  addr : 0 < n → a = some ⟨b, off, none⟩
  cell : ∀ j, j < n → w.cell? ⟨b, off + j, none⟩ = some (V j)

theorem RdV.kept {w w' : World} {a : Option Addr} {n b off : Nat} {V : Nat → Value} (h : RdV w a n b off V) (hg : w.grownBy w' none) : RdV w' a n b off V :=
  ⟨h.addr, fun j hj => hg.cell (h.cell j hj) (by simp)⟩

def AnyB (e : Ending) : Prop := ∃ b : Bool, e = .returned (.bool b)

set_option maxHeartbeats 2000000 in
theorem bytes8 (a0 a1 a2 a3 a4 a5 a6 : Option Addr) (n0 n1 n2 n3 n4 n5 n6 c0 c1 c2 c3 c4 c5 c6 b2 o2 b4 o4 : Nat) (r : Int) (S : Nat → ByteArray) (A : Nat → Option Addr) (L C : Nat → Nat) (w : World)
    (l0 : n0 ≤ maxLen) (l1 : n1 ≤ maxLen) (l2 : n2 ≤ maxLen) (l3 : n3 ≤ maxLen) (l4 : n4 ≤ maxLen) (l5 : n5 ≤ maxLen) (l6 : n6 ≤ maxLen)
    (h2 : RdV w a2 n2 b2 o2 (fun j => .string (S j))) (h4 : RdV w a4 n4 b4 o4 (fun j => .slice (A j) (L j) (C j))) :
    Calls Try.prog 8 #[.slice a0 n0 c0, .slice a1 n1 c1, .slice a2 n2 c2, .slice a3 n3 c3, .slice a4 n4 c4, .slice a5 n5 c5, .slice a6 n6 c6, .int .i32 r] w fun e w' => AnyB e ∧ w' = w := by
  unfold maxLen at l0 l1 l2 l3 l4 l5 l6
  go_enter Try.func8, Try.ntmps8
  go_wp2_with fail
  all_goals first | (go_ret; exact ⟨⟨_, rfl⟩, rfl⟩) | skip
  go_loop [17, 18] (fun z iv => ∃ (k : Nat) (q : Int), iv = .int .i64 k ∧ z = .int .i64 q ∧ k ≤ n2) (fun _ iv => n2 - (intOf iv).toNat)
  case atStart => exact ⟨0, _, rfl, rfl, Nat.zero_le _⟩
  case round =>
    obtain ⟨k, q, rfl, rfl, hk⟩ := hrel
    by_cases hlt : k < n2
    · obtain rfl := h2.addr (by omega)
      have hc := h2.cell k hlt
      generalize S k = s at hc
      go_wp2
      all_goals first
        | (go_ret; exact ⟨⟨_, rfl⟩, rfl⟩)
        | (go_round
           case rel => exact ⟨k + 1, _, by go_num, rfl, by omega⟩
           case measure => simp [intOf]; omega)
    · go_wp2_with fail
      all_goals first | (go_ret; exact ⟨⟨_, rfl⟩, rfl⟩) | skip
      go_loop [17, 19] (fun z iv => ∃ (k : Nat) (q : Int), iv = .int .i64 k ∧ z = .int .i64 q ∧ k ≤ n4) (fun _ iv => n4 - (intOf iv).toNat)
      case atStart => exact ⟨0, _, rfl, rfl, Nat.zero_le _⟩
      case round =>
        obtain ⟨i, q', rfl, rfl, hi⟩ := hrel
        by_cases hlt2 : i < n4
        · obtain rfl := h4.addr (by omega)
          have hc := h4.cell i hlt2
          generalize A i = aa at hc
          generalize L i = ll at hc
          generalize C i = cc at hc
          go_wp2
          all_goals first
            | (go_ret; exact ⟨⟨_, rfl⟩, rfl⟩)
            | (go_round
               case rel => exact ⟨i + 1, _, by go_num, rfl, by omega⟩
               case measure => simp [intOf]; omega)
        · go_wp2_with fail
          all_goals
            go_ret
            exact ⟨⟨_, rfl⟩, rfl⟩

/-- a category that is a separator, a control or a format -/
def RelB (s : ByteArray) : Bool := sepB s || ctlB s
def CatOk (S : Nat → ByteArray) (F G : Nat → Int) (j : Nat) : Prop := RelB (S j) = true → G j ≤ 1114111 ∧ (G j - F j < 16384 ∨ G j - 128 < 16384)
def SelOk (F G : Nat → Int) (j : Nat) : Prop := G j ≤ 1114111 ∧ G j - F j < 16384

structure Fits (n0 n1 n2 n3 n4 n5 n6 N K : Nat) (L : Nat → Nat) (S : Nat → ByteArray) (F0 F1 F5 F6 : Nat → Int) : Prop where
  c : n0 ≤ 4096 ∧ n1 ≤ 4096 ∧ n2 ≤ 4096 ∧ n3 ≤ 4096 ∧ n4 ≤ 4096 ∧ n5 ≤ 4096 ∧ n6 ≤ 4096
  vals : ∀ j, j < n4 → L j ≤ 1048576
  cats : ∀ j, j < N → CatOk S F0 F1 j
  sels : ∀ j, j < K → SelOk F5 F6 j

theorem all_next {p : Nat → Prop} {k : Nat} (h : ∀ j, j < k → p j) (hk : p k) : ∀ j, j < k + 1 → p j := fun j hj => by
  by_cases e : j = k
  · rw [e]; exact hk
  · exact h j (by omega)

set_option maxRecDepth 100000 in
set_option maxHeartbeats 4000000 in
theorem fit9 (a0 a1 a2 a3 a4 a5 a6 : Option Addr) (n0 n1 n2 n3 n4 n5 n6 c0 c1 c2 c3 c4 c5 c6 b0 o0 b1 o1 b2 o2 b4 o4 b5 o5 b6 o6 N K : Nat) (S : Nat → ByteArray) (A : Nat → Option Addr) (L C : Nat → Nat) (F0 F1 F5 F6 : Nat → Int) (w : World)
    (l0 : n0 ≤ maxLen) (l1 : n1 ≤ maxLen) (l2 : n2 ≤ maxLen) (l3 : n3 ≤ maxLen) (l4 : n4 ≤ maxLen) (l5 : n5 ≤ maxLen) (l6 : n6 ≤ maxLen)
    (h0 : Rd .i32 w a0 n0 b0 o0 F0) (h1 : Rd .i32 w a1 n1 b1 o1 F1) (h2 : RdV w a2 n2 b2 o2 (fun j => .string (S j))) (h4 : RdV w a4 n4 b4 o4 (fun j => .slice (A j) (L j) (C j)))
    (h5 : Rd .i32 w a5 n5 b5 o5 F5) (h6 : Rd .i32 w a6 n6 b6 o6 F6) (hN : sm.mn (sm.mn n0 n1) n2 = (N : Int)) (hK : sm.mn n5 n6 = (K : Int)) :
    Calls Try.prog 9 #[.slice a0 n0 c0, .slice a1 n1 c1, .slice a2 n2 c2, .slice a3 n3 c3, .slice a4 n4 c4, .slice a5 n5 c5, .slice a6 n6 c6, .int .i64 4096, .int .i64 16384] w
      fun e w' => msa.non3 (Fits n0 n1 n2 n3 n4 n5 n6 N K L S F0 F1 F5 F6) e ∧ w' = w := by
  by_cases hc : n0 ≤ 4096 ∧ n1 ≤ 4096 ∧ n2 ≤ 4096 ∧ n3 ≤ 4096 ∧ n4 ≤ 4096 ∧ n5 ≤ 4096 ∧ n6 ≤ 4096
  · obtain ⟨d0, d1, d2, d3, d4, d5, d6⟩ := hc
    have q1 := sm.mn_le n0 n1
    have q2 := sm.mn_le (sm.mn n0 n1) n2
    have q3 := sm.mn_le n5 n6
    have hN0 : N ≤ n0 := by omega
    have hN1 : N ≤ n1 := by omega
    have hN2 : N ≤ n2 := by omega
    have hK5 : K ≤ n5 := by omega
    have hK6 : K ≤ n6 := by omega
    have HN : Hid (sm.mn (sm.mn n0 n1) n2 = (N : Int)) := hN
    have HK : Hid (sm.mn n5 n6 = (K : Int)) := hK
    clear q1 q2 q3 hN hK l0 l1 l2 l3 l4 l5 l6
    have t0 : decide ((4096 : Int) < (n0 : Int)) = false := by simp; omega
    have t1 : decide ((4096 : Int) < (n1 : Int)) = false := by simp; omega
    have t2 : decide ((4096 : Int) < (n2 : Int)) = false := by simp; omega
    have t3 : decide ((4096 : Int) < (n3 : Int)) = false := by simp; omega
    have t4 : decide ((4096 : Int) < (n4 : Int)) = false := by simp; omega
    have t5 : decide ((4096 : Int) < (n5 : Int)) = false := by simp; omega
    have t6 : decide ((4096 : Int) < (n6 : Int)) = false := by simp; omega
    go_enter Try.func9, Try.ntmps9
    go_wp2_with fail
    all_goals first | (go_ret; exact ⟨⟨false, rfl, fun h => by cases h⟩, rfl⟩) | skip
    clear t0 t1 t2 t3 t4 t5 t6
    go_loop [19, 20] (fun z iv => ∃ (k : Nat) (q : Int), iv = .int .i64 k ∧ z = .int .i64 q ∧ k ≤ n2) (fun _ iv => n2 - (intOf iv).toNat)
    case atStart => exact ⟨0, _, rfl, rfl, Nat.zero_le _⟩
    case round =>
      obtain ⟨k, q, rfl, rfl, hk⟩ := hrel
      by_cases hlt : k < n2
      · obtain rfl := h2.addr (by omega)
        have hc := h2.cell k hlt
        generalize S k = s at hc
        go_wp2
        all_goals first
          | (go_ret; exact ⟨⟨false, rfl, fun h => by cases h⟩, rfl⟩)
          | (go_round
             case rel => exact ⟨k + 1, _, by go_num, rfl, by omega⟩
             case measure => simp [intOf]; omega)
      · go_wp2_with fail
        go_loop [19, 21] (fun z iv => ∃ (k : Nat) (q : Int), iv = .int .i64 k ∧ z = .int .i64 q ∧ k ≤ n4 ∧ Hid (∀ j, j < k → L j ≤ 1048576)) (fun _ iv => n4 - (intOf iv).toNat)
        case atStart => exact ⟨0, _, rfl, rfl, Nat.zero_le _, fun j hj => absurd hj (Nat.not_lt_zero _)⟩
        case round =>
          obtain ⟨i, q', rfl, rfl, hi, HV⟩ := hrel
          by_cases hlt2 : i < n4
          · obtain rfl := h4.addr (by omega)
            have hc := h4.cell i hlt2
            generalize A i = aa at hc
            generalize hll : L i = ll at hc
            have HLL : Hid (L i = ll) := hll
            clear hll
            generalize C i = cc at hc
            go_wp2
            all_goals first
              | (go_ret; exact ⟨⟨false, rfl, fun h => by cases h⟩, rfl⟩)
              | (go_round
                 case rel =>
                   go_light
                   exact ⟨i + 1, _, by go_num, rfl, by omega, all_next HV.out (by rw [HLL.out]; omega)⟩
                 case measure => simp [intOf]; omega)
          · have HV4 : Hid (∀ j, j < n4 → L j ≤ 1048576) := fun j hj => HV.out j (by omega)
            clear HV
            go_wp2_with fail
            refine (sm.min32 _ _ _ _).mono ?_
            rintro e w' ⟨rfl, rfl⟩
            rw [HN.out]
            go_wp2_with fail
            go_loop [23, 24] (fun z iv => ∃ (k : Nat) (W : Int), iv = .int .i64 k ∧ z = .int .i64 W ∧ k ≤ N ∧ 0 ≤ W ∧ W ≤ 16384 ∧ Hid (∀ j, j < k → CatOk S F0 F1 j)) (fun _ iv => N - (intOf iv).toNat)
            case atStart => exact ⟨0, 0, rfl, rfl, Nat.zero_le _, by omega, by omega, fun j hj => absurd hj (Nat.not_lt_zero _)⟩
            case round =>
              obtain ⟨m, W, rfl, rfl, hm, hW0, hW1, HC⟩ := hrel
              by_cases hlt3 : m < N
              · have e0 := h0.addr (by omega)
                have e1 := h1.addr (by omega)
                have e2 := h2.addr (by omega)
                have hc0 := h0.cell m (by omega)
                have hc1 := h1.cell m (by omega)
                have hc2 := h2.cell m (by omega)
                have bx := bounds_i32 (h0.wf m (by omega))
                have bY := bounds_i32 (h1.wf m (by omega))
                generalize hx : F0 m = x at hc0 bx
                generalize hy : F1 m = y at hc1 bY
                generalize hs : S m = s at hc2
                have HX : Hid (F0 m = x) := hx
                have HY : Hid (F1 m = y) := hy
                have HS : Hid (S m = s) := hs
                obtain ⟨bx1, bx2⟩ := bx
                obtain ⟨by1, by2⟩ := bY
                clear hx hy hs
                try subst e0
                try subst e1
                try subst e2
                cases hsep : sepB s
                · cases hctl : ctlB s
                  · have HR : Hid (RelB s = false) := by show (sepB s || ctlB s) = false; rw [hsep, hctl]; rfl
                    go_wp2_with (first | (go_at_call 33; refine (msa.sep33 _ _).mono ?_; rintro e w' ⟨rfl, rfl⟩) | (go_at_call 34; refine (msa.ctl34 _ _).mono ?_; rintro e w' ⟨rfl, rfl⟩))
                    go_round
                    case rel => exact ⟨m + 1, W, by go_num, rfl, by omega, hW0, hW1, all_next HC.out (fun h => by rw [HS.out, HR.out] at h; cases h)⟩
                    case measure => simp [intOf]; omega
                  · go_wp2_with (first | (go_at_call 33; refine (msa.sep33 _ _).mono ?_; rintro e w' ⟨rfl, rfl⟩) | (go_at_call 34; refine (msa.ctl34 _ _).mono ?_; rintro e w' ⟨rfl, rfl⟩))
                    all_goals first
                      | (go_ret; exact ⟨⟨false, rfl, fun h => by cases h⟩, rfl⟩)
                      | (go_round
                         case rel =>
                           go_light
                           exact ⟨m + 1, _, by go_num, rfl, by omega, by omega, by omega, all_next HC.out (fun _ => by rw [HX.out, HY.out]; omega)⟩
                         case measure => simp [intOf]; omega)
                · go_wp2_with (first | (go_at_call 33; refine (msa.sep33 _ _).mono ?_; rintro e w' ⟨rfl, rfl⟩) | (go_at_call 34; refine (msa.ctl34 _ _).mono ?_; rintro e w' ⟨rfl, rfl⟩))
                  all_goals first
                    | (go_ret; exact ⟨⟨false, rfl, fun h => by cases h⟩, rfl⟩)
                    | (go_round
                       case rel =>
                         go_light
                         exact ⟨m + 1, _, by go_num, rfl, by omega, by omega, by omega, all_next HC.out (fun _ => by rw [HX.out, HY.out]; omega)⟩
                       case measure => simp [intOf]; omega)
              · have HCN : Hid (∀ j, j < N → CatOk S F0 F1 j) := fun j hj => HC.out j (by omega)
                clear HC
                go_wp2_with fail
                refine (sm.min16 _ _ _).mono ?_
                rintro e w' ⟨rfl, rfl⟩
                rw [HK.out]
                go_wp2_with fail
                go_loop [28, 29] (fun z iv => ∃ (k : Nat) (W : Int), iv = .int .i64 k ∧ z = .int .i64 W ∧ k ≤ K ∧ 0 ≤ W ∧ W ≤ 16384 ∧ Hid (∀ j, j < k → SelOk F5 F6 j)) (fun _ iv => K - (intOf iv).toNat)
                case atStart => exact ⟨0, 0, rfl, rfl, Nat.zero_le _, by omega, by omega, fun j hj => absurd hj (Nat.not_lt_zero _)⟩
                case round =>
                  obtain ⟨v, V, rfl, rfl, hv, hV0, hV1, HS⟩ := hrel
                  by_cases hlt4 : v < K
                  · have e5 := h5.addr (by omega)
                    have e6 := h6.addr (by omega)
                    have hc5 := h5.cell v (by omega)
                    have hc6 := h6.cell v (by omega)
                    have bx := bounds_i32 (h5.wf v (by omega))
                    have bY := bounds_i32 (h6.wf v (by omega))
                    generalize hx : F5 v = x at hc5 bx
                    generalize hy : F6 v = y at hc6 bY
                    have HX : Hid (F5 v = x) := hx
                    have HY : Hid (F6 v = y) := hy
                    obtain ⟨bx1, bx2⟩ := bx
                    obtain ⟨by1, by2⟩ := bY
                    clear hx hy
                    try subst e5
                    try subst e6
                    go_wp2
                    all_goals first
                      | (go_ret; exact ⟨⟨false, rfl, fun h => by cases h⟩, rfl⟩)
                      | (go_round
                         case rel =>
                           go_light
                           exact ⟨v + 1, _, by go_num, rfl, by omega, by omega, by omega, all_next HS.out ⟨by rw [HY.out]; omega, by rw [HX.out, HY.out]; omega⟩⟩
                         case measure => simp [intOf]; omega)
                  · go_wp2
                    go_ret
                    exact ⟨⟨true, rfl, fun _ => ⟨⟨d0, d1, d2, d3, d4, d5, d6⟩, HV4.out, HCN.out, fun j hj => HS.out j (by omega)⟩⟩, rfl⟩
  · unfold maxLen at l0 l1 l2 l3 l4 l5 l6
    clear h0 h1 h2 h4 h5 h6 hN hK
    by_cases g0 : n0 ≤ 4096
    case neg =>
      have t0 : decide ((4096 : Int) < (n0 : Int)) = true := by simp; omega
      clear hc
      go_enter Try.func9, Try.ntmps9
      go_wp2
      go_ret
      exact ⟨⟨false, rfl, fun h => by cases h⟩, rfl⟩
    by_cases g1 : n1 ≤ 4096
    case neg =>
      have t0 : decide ((4096 : Int) < (n0 : Int)) = false := by simp; omega
      have t1 : decide ((4096 : Int) < (n1 : Int)) = true := by simp; omega
      clear hc
      go_enter Try.func9, Try.ntmps9
      go_wp2
      go_ret
      exact ⟨⟨false, rfl, fun h => by cases h⟩, rfl⟩
    by_cases g2 : n2 ≤ 4096
    case neg =>
      have t0 : decide ((4096 : Int) < (n0 : Int)) = false := by simp; omega
      have t1 : decide ((4096 : Int) < (n1 : Int)) = false := by simp; omega
      have t2 : decide ((4096 : Int) < (n2 : Int)) = true := by simp; omega
      clear hc
      go_enter Try.func9, Try.ntmps9
      go_wp2
      go_ret
      exact ⟨⟨false, rfl, fun h => by cases h⟩, rfl⟩
    by_cases g3 : n3 ≤ 4096
    case neg =>
      have t0 : decide ((4096 : Int) < (n0 : Int)) = false := by simp; omega
      have t1 : decide ((4096 : Int) < (n1 : Int)) = false := by simp; omega
      have t2 : decide ((4096 : Int) < (n2 : Int)) = false := by simp; omega
      have t3 : decide ((4096 : Int) < (n3 : Int)) = true := by simp; omega
      clear hc
      go_enter Try.func9, Try.ntmps9
      go_wp2
      go_ret
      exact ⟨⟨false, rfl, fun h => by cases h⟩, rfl⟩
    by_cases g4 : n4 ≤ 4096
    case neg =>
      have t0 : decide ((4096 : Int) < (n0 : Int)) = false := by simp; omega
      have t1 : decide ((4096 : Int) < (n1 : Int)) = false := by simp; omega
      have t2 : decide ((4096 : Int) < (n2 : Int)) = false := by simp; omega
      have t3 : decide ((4096 : Int) < (n3 : Int)) = false := by simp; omega
      have t4 : decide ((4096 : Int) < (n4 : Int)) = true := by simp; omega
      clear hc
      go_enter Try.func9, Try.ntmps9
      go_wp2
      go_ret
      exact ⟨⟨false, rfl, fun h => by cases h⟩, rfl⟩
    by_cases g5 : n5 ≤ 4096
    case neg =>
      have t0 : decide ((4096 : Int) < (n0 : Int)) = false := by simp; omega
      have t1 : decide ((4096 : Int) < (n1 : Int)) = false := by simp; omega
      have t2 : decide ((4096 : Int) < (n2 : Int)) = false := by simp; omega
      have t3 : decide ((4096 : Int) < (n3 : Int)) = false := by simp; omega
      have t4 : decide ((4096 : Int) < (n4 : Int)) = false := by simp; omega
      have t5 : decide ((4096 : Int) < (n5 : Int)) = true := by simp; omega
      clear hc
      go_enter Try.func9, Try.ntmps9
      go_wp2
      go_ret
      exact ⟨⟨false, rfl, fun h => by cases h⟩, rfl⟩
    by_cases g6 : n6 ≤ 4096
    case neg =>
      have t0 : decide ((4096 : Int) < (n0 : Int)) = false := by simp; omega
      have t1 : decide ((4096 : Int) < (n1 : Int)) = false := by simp; omega
      have t2 : decide ((4096 : Int) < (n2 : Int)) = false := by simp; omega
      have t3 : decide ((4096 : Int) < (n3 : Int)) = false := by simp; omega
      have t4 : decide ((4096 : Int) < (n4 : Int)) = false := by simp; omega
      have t5 : decide ((4096 : Int) < (n5 : Int)) = false := by simp; omega
      have t6 : decide ((4096 : Int) < (n6 : Int)) = true := by simp; omega
      clear hc
      go_enter Try.func9, Try.ntmps9
      go_wp2
      go_ret
      exact ⟨⟨false, rfl, fun h => by cases h⟩, rfl⟩
    exact absurd ⟨g0, g1, g2, g3, g4, g5, g6⟩ hc
end Go.Proofs.Qxb6000886a.msb
