import Derived.Test.Qxb6000886aMsh
namespace Go.Proofs.Qxb6000886a.msi
open Go.RowKit
open Go.Proofs.Qxb6000886a.mp (W32 W8)
open Go.Proofs.Qxb6000886a.rw (Row updN)
open Go.Proofs.Qxb6000886a.tb (Sl)
open Go.Proofs.Qxb6000886a.cl (Rd)
open Go.Proofs.Qxb6000886a.msa (sepB ctlB Asc InSel)
open Go.Proofs.Qxb6000886a.msc (SlS SlSl RS)
open Go.Proofs.Qxb6000886a.msd (updO)
open Go.Proofs.Qxb6000886a.mse (selF fiveF catF catStep setR mx fives)
open Go.Proofs.Qxb6000886a.msf (prF lst)
set_option linter.unusedVariables false
set_option linter.unusedSimpArgs false

/-! ### the plain law: what each rune maps to -/
theorem selF_out (P Q : Nat → Int) (g : Int → Option (List Int)) (r : Int) : ∀ K, (∀ i, i < K → ¬ (P i ≤ r ∧ r ≤ Q i)) → selF P Q g K r = g r
  | 0, _ => rfl
  | K + 1, h => by
    show setR (selF P Q g K) (P K) (Q K) [] r = g r
    unfold mse.setR
    rw [if_neg (h K (by omega))]
    exact selF_out P Q g r K (fun i hi => h i (by omega))

theorem selF_in (P Q : Nat → Int) (g : Int → Option (List Int)) (r : Int) : ∀ K, (∃ i, i < K ∧ P i ≤ r ∧ r ≤ Q i) → selF P Q g K r = some []
  | 0, h => by obtain ⟨i, hi, _⟩ := h; omega
  | K + 1, h => by
    show setR (selF P Q g K) (P K) (Q K) [] r = some []
    unfold mse.setR
    by_cases hK : P K ≤ r ∧ r ≤ Q K
    · rw [if_pos hK]
    · rw [if_neg hK]
      obtain ⟨i, hi, h1, h2⟩ := h
      refine selF_in P Q g r K ⟨i, ?_, h1, h2⟩
      rcases Nat.lt_succ_iff_lt_or_eq.1 hi with h | rfl
      · exact h
      · exact absurd ⟨h1, h2⟩ hK

def Five (r : Int) : Prop := r = 173 ∨ r = 847 ∨ r = 6150 ∨ r = 8203 ∨ r = 65532

theorem five_in (g : Int → Option (List Int)) (r : Int) (h : Five r) : fiveF g 5 r = some [] := by
  unfold Five at h
  simp only [mse.fiveF, mse.fives, msd.updO, List.getD_cons_zero, List.getD_cons_succ]
  rcases h with rfl | rfl | rfl | rfl | rfl <;> simp

theorem five_out (g : Int → Option (List Int)) (r : Int) (h : ¬ Five r) : fiveF g 5 r = g r := by
  unfold Five at h
  simp only [not_or] at h
  obtain ⟨h1, h2, h3, h4, h5⟩ := h
  simp only [mse.fiveF, mse.fives, msd.updO, List.getD_cons_zero, List.getD_cons_succ]
  simp [h1, h2, h3, h4, h5]

theorem mx_le (a : Int) : a ≤ mx a ∧ 128 ≤ mx a := by unfold mse.mx; split <;> omega

theorem step_out (S : Nat → ByteArray) (F G : Nat → Int) (k : Nat) (g : Int → Option (List Int)) (r : Int) (h : ¬ (mx (F k) ≤ r ∧ r ≤ G k)) : catStep S F G k g r = g r := by
  unfold mse.catStep
  split
  · unfold mse.setR; rw [if_neg h]
  · split
    · unfold mse.setR; rw [if_neg h]
    · rfl

theorem catF_out (S : Nat → ByteArray) (F G : Nat → Int) (g : Int → Option (List Int)) (r : Int) : ∀ N, (∀ j, j < N → ¬ (mx (F j) ≤ r ∧ r ≤ G j)) → catF S F G g N r = g r
  | 0, _ => rfl
  | N + 1, h => by
    show catStep S F G N (catF S F G g N) r = g r
    rw [step_out S F G N _ r (h N (by omega))]
    exact catF_out S F G g r N (fun j hj => h j (by omega))

theorem catF_at (S : Nat → ByteArray) (F G : Nat → Int) (g : Int → Option (List Int)) (r : Int) (k : Nat) : ∀ N, k < N → (∀ j, j < N → j ≠ k → ¬ (mx (F j) ≤ r ∧ r ≤ G j)) → catF S F G g N r = catStep S F G k g r
  | 0, h, _ => by omega
  | N + 1, h, ho => by
    show catStep S F G N (catF S F G g N) r = catStep S F G k g r
    by_cases e : k = N
    · subst e
      have hc := catF_out S F G g r k (fun j hj => ho j (by omega) (by omega))
      unfold mse.catStep
      split
      · unfold mse.setR; rw [hc]
      · split
        · unfold mse.setR; rw [hc]
        · exact hc
    · rw [step_out S F G N _ r (ho N (by omega) (fun h => e h.symm))]
      exact catF_at S F G g r k N (by omega) (fun j hj => ho j (by omega))

theorem cat_low (S : Nat → ByteArray) (F G : Nat → Int) (g : Int → Option (List Int)) (r : Int) (N : Nat) (h : r < 128) : catF S F G g N r = g r :=
  catF_out S F G g r N (fun j _ hc => by have := mx_le (F j); omega)

theorem cat_none (S : Nat → ByteArray) (F G : Nat → Int) (g : Int → Option (List Int)) (r : Int) (N : Nat) (h : ∀ j, j < N → ¬ (F j ≤ r ∧ r ≤ G j)) : catF S F G g N r = g r :=
  catF_out S F G g r N (fun j hj hc => h j hj (by have := mx_le (F j); omega))

theorem cat_found (S : Nat → ByteArray) (F G : Nat → Int) (g : Int → Option (List Int)) (r : Int) (N k : Nat) (hA : Asc N F G) (hk : k < N) (h1 : F k ≤ r) (h2 : r ≤ G k) : catF S F G g N r = catStep S F G k g r :=
  catF_at S F G g r k N hk (fun j hj hne hc => by
    have hm := mx_le (F j)
    rcases Nat.lt_or_ge j k with hlt | hge
    · have := hA.lt hlt hk; omega
    · have := hA.lt (show k < j by omega) hj; omega)

theorem step_sep (S : Nat → ByteArray) (F G : Nat → Int) (k : Nat) (g : Int → Option (List Int)) (r : Int) (hr : 128 ≤ r) (h1 : F k ≤ r) (h2 : r ≤ G k) (hs : sepB (S k) = true) : catStep S F G k g r = some [32] := by
  unfold mse.catStep
  rw [if_pos hs]
  unfold mse.setR
  rw [if_pos ⟨by unfold mse.mx; split <;> omega, h2⟩]

theorem step_ctl (S : Nat → ByteArray) (F G : Nat → Int) (k : Nat) (g : Int → Option (List Int)) (r : Int) (hr : 128 ≤ r) (h1 : F k ≤ r) (h2 : r ≤ G k) (hs : sepB (S k) = false) (hc : ctlB (S k) = true) : catStep S F G k g r = some [] := by
  unfold mse.catStep
  rw [if_neg (by rw [hs]; decide), if_pos hc]
  unfold mse.setR
  rw [if_pos ⟨by unfold mse.mx; split <;> omega, h2⟩]

theorem step_other (S : Nat → ByteArray) (F G : Nat → Int) (k : Nat) (g : Int → Option (List Int)) (r : Int) (hs : sepB (S k) = false) (hc : ctlB (S k) = false) : catStep S F G k g r = g r := by
  unfold mse.catStep
  rw [if_neg (by rw [hs]; decide), if_neg (by rw [hc]; decide)]

theorem prF_skip (keys : Nat → Int) (L : Nat → Nat) (X : Nat → Nat → Int) {r : Int} {k : Nat} : ∀ {m : Nat}, (∀ j, k ≤ j → j < m → keys j ≠ r) → k ≤ m → prF keys L X m r = prF keys L X k r
  | 0, _, h => by have : k = 0 := by omega
                  subst this; rfl
  | m + 1, ho, h => by
    by_cases e : k = m + 1
    · rw [e]
    · show updO (prF keys L X m) (keys m) (lst (L m) (X m)) r = _
      unfold msd.updO
      rw [if_neg (fun h' => ho m (by omega) (by omega) h'.symm)]
      exact prF_skip keys L X (fun j h1 h2 => ho j h1 (by omega)) (by omega)

theorem prF_hit (keys : Nat → Int) (L : Nat → Nat) (X : Nat → Nat → Int) {r : Int} {k : Nat} (h : keys k = r) : prF keys L X (k + 1) r = some (lst (L k) (X k)) := by
  show updO (prF keys L X k) (keys k) (lst (L k) (X k)) r = _
  unfold msd.updO
  rw [if_pos h.symm]

/-- what the whole comes to -/
def fin (N m K : Nat) (S : Nat → ByteArray) (F G P Q keys : Nat → Int) (L : Nat → Nat) (X : Nat → Nat → Int) : Int → Option (List Int) :=
  selF P Q (fiveF (updO (catF S F G (prF keys L X m) N) 133 [32]) 5) K

theorem fin_sel {N m K : Nat} {S : Nat → ByteArray} {F G P Q keys : Nat → Int} {L : Nat → Nat} {X : Nat → Nat → Int} {r : Int} (h : ∃ i, i < K ∧ P i ≤ r ∧ r ≤ Q i) : fin N m K S F G P Q keys L X r = some [] := selF_in _ _ _ _ _ h
theorem fin_five {N m K : Nat} {S : Nat → ByteArray} {F G P Q keys : Nat → Int} {L : Nat → Nat} {X : Nat → Nat → Int} {r : Int} (h : ¬ ∃ i, i < K ∧ P i ≤ r ∧ r ≤ Q i) (h5 : Five r) : fin N m K S F G P Q keys L X r = some [] := by
  unfold fin
  rw [selF_out _ _ _ _ _ (fun i hi hc => h ⟨i, hi, hc⟩), five_in _ _ h5]
theorem fin_85 {N m K : Nat} {S : Nat → ByteArray} {F G P Q keys : Nat → Int} {L : Nat → Nat} {X : Nat → Nat → Int} {r : Int} (h : ¬ ∃ i, i < K ∧ P i ≤ r ∧ r ≤ Q i) (h5 : ¬ Five r) (h8 : r = 133) : fin N m K S F G P Q keys L X r = some [32] := by
  unfold fin
  rw [selF_out _ _ _ _ _ (fun i hi hc => h ⟨i, hi, hc⟩), five_out _ _ h5]
  unfold msd.updO
  rw [if_pos h8]
theorem fin_cat {N m K : Nat} {S : Nat → ByteArray} {F G P Q keys : Nat → Int} {L : Nat → Nat} {X : Nat → Nat → Int} {r : Int} (h : ¬ ∃ i, i < K ∧ P i ≤ r ∧ r ≤ Q i) (h5 : ¬ Five r) (h8 : ¬ r = 133) : fin N m K S F G P Q keys L X r = catF S F G (prF keys L X m) N r := by
  unfold fin
  rw [selF_out _ _ _ _ _ (fun i hi hc => h ⟨i, hi, hc⟩), five_out _ _ h5]
  unfold msd.updO
  rw [if_neg h8]

/-- zzspExpected: what it answers is what the rune maps to -/
def Exp (gf : Option (List Int)) (m : Nat) (L : Nat → Nat) (X : Nat → Nat → Int) (e : Ending) : Prop :=
  (e = .returned (.tuple #[.int .i64 0, .int .i64 (-1)]) ∧ gf = some []) ∨ (e = .returned (.tuple #[.int .i64 1, .int .i64 (-1)]) ∧ gf = some [32]) ∨
  (e = .returned (.tuple #[.int .i64 2, .int .i64 (-1)]) ∧ gf = none) ∨ ∃ j : Nat, j < m ∧ e = .returned (.tuple #[.int .i64 2, .int .i64 (j : Int)]) ∧ gf = some (lst (L j) (X j))

theorem ret2 {a b : Int} (h : a = b) : Ending.returned (.tuple #[.int .i64 2, .int .i64 a]) = .returned (.tuple #[.int .i64 2, .int .i64 b]) := by rw [h]

set_option maxRecDepth 100000 in
set_option maxHeartbeats 8000000 in
theorem exp19 (r : Int) (a0 a1 a2 a3 a5 a6 : Option Addr) (n0 n1 n2 n3 n5 n6 c0 c1 c2 c3 c5 c6 b0 b1 b2 b3 b5 b6 N m K : Nat) (S : Nat → ByteArray) (F G keys P Q : Nat → Int) (L : Nat → Nat) (X : Nat → Nat → Int) (w : World)
    (hN : N = min (min n0 n1) n2) (hKK : K = min n5 n6) (hm : m ≤ n3) (l2 : n2 ≤ 4096)
    (s0 : Sl .i32 w a0 n0 b0 F) (s1 : Sl .i32 w a1 n1 b1 G) (s2 : SlS w a2 n2 b2 S) (s3 : Sl .i32 w a3 n3 b3 keys) (s5 : Sl .i32 w a5 n5 b5 P) (s6 : Sl .i32 w a6 n6 b6 Q) (hA : Asc N F G) :
    Calls Try.prog 19 #[.int .i32 r, .slice a0 n0 c0, .slice a1 n1 c1, .slice a2 n2 c2, .slice a3 n3 c3, .int .i64 m, .slice a5 n5 c5, .slice a6 n6 c6] w fun e w' => Exp (fin N m K S F G P Q keys L X r) m L X e ∧ w' = w := by
  have hN0 : N ≤ n0 := by omega
  have hN1 : N ≤ n1 := by omega
  have hN2 : N ≤ n2 := by omega
  have l0 := s0.le
  have l1 := s1.le
  have l3 := s3.le
  have l5 := s5.le
  have l6 := s6.le
  have HN : Hid (sm.mn (sm.mn n0 n1) n2 = (N : Int)) := by show _ = _; unfold sm.mn; rw [hN]; split <;> split <;> omega
  have HIN : Hid (InSel n5 n6 P Q r ↔ ∃ i, i < K ∧ P i ≤ r ∧ r ≤ Q i) := by
    show _ ↔ _
    unfold msa.InSel
    constructor
    · rintro ⟨i, h1, h2, h3, h4⟩; exact ⟨i, by omega, h3, h4⟩
    · rintro ⟨i, h1, h3, h4⟩; exact ⟨i, by omega, by omega, h3, h4⟩
  clear hN hKK
  go_enter Try.func19, Try.ntmps19
  go_wp2_with fail
  refine (msa.sel36 r a5 a6 n5 n6 c5 c6 b5 b6 0 0 P Q w (by omega) (by omega) (Rd.of_sl s5) (Rd.of_sl s6)).mono ?_
  rintro e wc ⟨⟨b, rfl, hb⟩, hwc⟩
  subst hwc
  have HB : Hid (b = true ↔ ∃ i, i < K ∧ P i ≤ r ∧ r ≤ Q i) := hb.trans HIN.out
  clear hb
  cases b
  · have HSEL : Hid (¬ ∃ i, i < K ∧ P i ≤ r ∧ r ≤ Q i) := fun h => by have := HB.out.2 h; cases this
    clear HB
    by_cases hq0 : r = 173
    case pos =>
      have u0 : (r == 173) = true := by simp [hq0]
      have HF : Hid (Five r) := by show Five r; unfold Five; omega
      clear hq0
      go_wp2
      go_ret2
      exact ⟨Or.inl ⟨rfl, fin_five HSEL.out HF.out⟩, rfl⟩
    by_cases hq1 : r = 847
    case pos =>
      have u0 : (r == 173) = false := by simp [hq0]
      have u1 : (r == 847) = true := by simp [hq1]
      have HF : Hid (Five r) := by show Five r; unfold Five; omega
      clear hq0 hq1
      go_wp2
      go_ret2
      exact ⟨Or.inl ⟨rfl, fin_five HSEL.out HF.out⟩, rfl⟩
    by_cases hq2 : r = 6150
    case pos =>
      have u0 : (r == 173) = false := by simp [hq0]
      have u1 : (r == 847) = false := by simp [hq1]
      have u2 : (r == 6150) = true := by simp [hq2]
      have HF : Hid (Five r) := by show Five r; unfold Five; omega
      clear hq0 hq1 hq2
      go_wp2
      go_ret2
      exact ⟨Or.inl ⟨rfl, fin_five HSEL.out HF.out⟩, rfl⟩
    by_cases hq3 : r = 8203
    case pos =>
      have u0 : (r == 173) = false := by simp [hq0]
      have u1 : (r == 847) = false := by simp [hq1]
      have u2 : (r == 6150) = false := by simp [hq2]
      have u3 : (r == 8203) = true := by simp [hq3]
      have HF : Hid (Five r) := by show Five r; unfold Five; omega
      clear hq0 hq1 hq2 hq3
      go_wp2
      go_ret2
      exact ⟨Or.inl ⟨rfl, fin_five HSEL.out HF.out⟩, rfl⟩
    by_cases hq4 : r = 65532
    case pos =>
      have u0 : (r == 173) = false := by simp [hq0]
      have u1 : (r == 847) = false := by simp [hq1]
      have u2 : (r == 6150) = false := by simp [hq2]
      have u3 : (r == 8203) = false := by simp [hq3]
      have u4 : (r == 65532) = true := by simp [hq4]
      have HF : Hid (Five r) := by show Five r; unfold Five; omega
      clear hq0 hq1 hq2 hq3 hq4
      go_wp2
      go_ret2
      exact ⟨Or.inl ⟨rfl, fin_five HSEL.out HF.out⟩, rfl⟩
    have HF : Hid (¬ Five r) := fun h => by unfold Five at h; omega
    by_cases h133 : r = 133
    · have u0 : (r == 173) = false := by simp [hq0]
      have u1 : (r == 847) = false := by simp [hq1]
      have u2 : (r == 6150) = false := by simp [hq2]
      have u3 : (r == 8203) = false := by simp [hq3]
      have u4 : (r == 65532) = false := by simp [hq4]
      have u5 : (r == 133) = true := by simp [h133]
      have H133 : Hid (r = 133) := h133
      clear hq0 hq1 hq2 hq3 hq4 h133
      go_wp2
      go_ret2
      exact ⟨Or.inr (Or.inl ⟨rfl, fin_85 HSEL.out HF.out H133.out⟩), rfl⟩
    · have u0 : (r == 173) = false := by simp [hq0]
      have u1 : (r == 847) = false := by simp [hq1]
      have u2 : (r == 6150) = false := by simp [hq2]
      have u3 : (r == 8203) = false := by simp [hq3]
      have u4 : (r == 65532) = false := by simp [hq4]
      have u5 : (r == 133) = false := by simp [h133]
      have HCAT : Hid (fin N m K S F G P Q keys L X r = catF S F G (prF keys L X m) N r) := fin_cat HSEL.out HF.out h133
      clear hq0 hq1 hq2 hq3 hq4 h133 HF HSEL
      by_cases hr : 128 ≤ r
      · go_wp2_with fail
        refine (sm.min32 _ _ _ _).mono ?_
        rintro e wc ⟨rfl, hwc⟩
        subst hwc
        rw [HN.out]
        go_wp2_with fail
        refine (msa.find37 r a0 a1 n0 n1 c0 c1 b0 b1 0 0 N F G _ hN0 hN1 (by omega) (Rd.of_sl s0) (Rd.of_sl s1) hA).mono ?_
        rintro e wc ⟨hfound, hwc⟩
        subst hwc
        rcases hfound with ⟨rfl, hnone⟩ | ⟨k, rfl, hkN, hk1, hk2⟩
        · have HG : Hid (fin N m K S F G P Q keys L X r = prF keys L X m r) := HCAT.out.trans (cat_none _ _ _ _ _ _ hnone)
          clear hnone HCAT
          go_wp2_with fail
          go_loop [20] (fun iv => ∃ k : Nat, iv = .int .i64 ((k : Int) - 1) ∧ k ≤ m ∧ Hid (∀ j, k ≤ j → j < m → keys j ≠ r)) (fun iv => (intOf iv + 1).toNat)
          case atStart => exact ⟨m, rfl, Nat.le_refl _, fun j h1 h2 => by omega⟩
          case round =>
            obtain ⟨k, rfl, hk, HK⟩ := hrel
            by_cases hk0 : 0 < k
            · have e3 := s3.addr (by omega)
              have r3 := (s3.row (k - 1) (by omega)).1
              generalize hkk : keys (k - 1) = kk at r3
              have HKK : Hid (keys (k - 1) = kk) := hkk
              clear hkk
              subst e3
              by_cases hkr : kk = r
              · have hkr' : (kk == r) = true := by simp [hkr]
                have HKR : Hid (kk = r) := hkr
                clear hkr
                go_wp2
                go_ret2
                refine ⟨Or.inr (Or.inr (Or.inr ⟨k - 1, by omega, ret2 (by omega), ?_⟩)), rfl⟩
                rw [HG.out, prF_skip keys L X HK.out hk]
                have e1 : k = (k - 1) + 1 := by omega
                rw [e1]
                exact prF_hit keys L X (HKK.out.trans HKR.out)
              · have hkr' : (kk == r) = false := by simp [hkr]
                have HKR : Hid (¬ kk = r) := hkr
                clear hkr
                go_wp2
                go_round
                case rel =>
                  refine ⟨k - 1, congrArg (Value.int .i64) (by omega), by omega, ?_⟩
                  intro j h1 h2
                  by_cases e : j = k - 1
                  · rw [e, HKK.out]; exact HKR.out
                  · exact HK.out j (by omega) h2
                case measure => simp [intOf]; omega
            · have hkz : k = 0 := by omega
              subst hkz
              go_wp2
              go_ret2
              refine ⟨Or.inr (Or.inr (Or.inl ⟨rfl, ?_⟩)), rfl⟩
              rw [HG.out, prF_skip keys L X HK.out (Nat.zero_le _)]
              rfl
        · have HCS : Hid (fin N m K S F G P Q keys L X r = catStep S F G k (prF keys L X m) r) := HCAT.out.trans (cat_found _ _ _ _ _ _ _ hA hkN hk1 hk2)
          have e2 := s2.addr (by omega)
          have r2 := s2.row k (by omega)
          cases hsep : sepB (S k)
          · cases hctl : ctlB (S k)
            · have HG : Hid (fin N m K S F G P Q keys L X r = prF keys L X m r) := HCS.out.trans (step_other _ _ _ _ _ _ hsep hctl)
              clear HCAT HCS
              generalize S k = s at r2 hsep hctl
              subst e2
              go_wp2_with (first | (go_at_call 33; refine (msa.sep33 _ _).mono ?_; rintro e wc ⟨rfl, hwc⟩; subst hwc) | (go_at_call 34; refine (msa.ctl34 _ _).mono ?_; rintro e wc ⟨rfl, hwc⟩; subst hwc))
              go_loop [20] (fun iv => ∃ k : Nat, iv = .int .i64 ((k : Int) - 1) ∧ k ≤ m ∧ Hid (∀ j, k ≤ j → j < m → keys j ≠ r)) (fun iv => (intOf iv + 1).toNat)
              case atStart => exact ⟨m, rfl, Nat.le_refl _, fun j h1 h2 => by omega⟩
              case round =>
                obtain ⟨k, rfl, hk, HK⟩ := hrel
                by_cases hk0 : 0 < k
                · have e3 := s3.addr (by omega)
                  have r3 := (s3.row (k - 1) (by omega)).1
                  generalize hkk : keys (k - 1) = kk at r3
                  have HKK : Hid (keys (k - 1) = kk) := hkk
                  clear hkk
                  subst e3
                  by_cases hkr : kk = r
                  · have hkr' : (kk == r) = true := by simp [hkr]
                    have HKR : Hid (kk = r) := hkr
                    clear hkr
                    go_wp2
                    go_ret2
                    refine ⟨Or.inr (Or.inr (Or.inr ⟨k - 1, by omega, ret2 (by omega), ?_⟩)), rfl⟩
                    rw [HG.out, prF_skip keys L X HK.out hk]
                    have e1 : k = (k - 1) + 1 := by omega
                    rw [e1]
                    exact prF_hit keys L X (HKK.out.trans HKR.out)
                  · have hkr' : (kk == r) = false := by simp [hkr]
                    have HKR : Hid (¬ kk = r) := hkr
                    clear hkr
                    go_wp2
                    go_round
                    case rel =>
                      refine ⟨k - 1, congrArg (Value.int .i64) (by omega), by omega, ?_⟩
                      intro j h1 h2
                      by_cases e : j = k - 1
                      · rw [e, HKK.out]; exact HKR.out
                      · exact HK.out j (by omega) h2
                    case measure => simp [intOf]; omega
                · have hkz : k = 0 := by omega
                  subst hkz
                  go_wp2
                  go_ret2
                  refine ⟨Or.inr (Or.inr (Or.inl ⟨rfl, ?_⟩)), rfl⟩
                  rw [HG.out, prF_skip keys L X HK.out (Nat.zero_le _)]
                  rfl
            · have HG : Hid (fin N m K S F G P Q keys L X r = some []) := HCS.out.trans (step_ctl _ _ _ _ _ _ hr hk1 hk2 hsep hctl)
              clear HCAT HCS
              generalize S k = s at r2 hsep hctl
              subst e2
              go_wp2_with (first | (go_at_call 33; refine (msa.sep33 _ _).mono ?_; rintro e wc ⟨rfl, hwc⟩; subst hwc) | (go_at_call 34; refine (msa.ctl34 _ _).mono ?_; rintro e wc ⟨rfl, hwc⟩; subst hwc))
              go_ret2
              exact ⟨Or.inl ⟨rfl, HG.out⟩, rfl⟩
          · have HG : Hid (fin N m K S F G P Q keys L X r = some [32]) := HCS.out.trans (step_sep _ _ _ _ _ _ hr hk1 hk2 hsep)
            clear HCAT HCS
            generalize S k = s at r2 hsep
            subst e2
            go_wp2_with (first | (go_at_call 33; refine (msa.sep33 _ _).mono ?_; rintro e wc ⟨rfl, hwc⟩; subst hwc) | (go_at_call 34; refine (msa.ctl34 _ _).mono ?_; rintro e wc ⟨rfl, hwc⟩; subst hwc))
            go_ret2
            exact ⟨Or.inr (Or.inl ⟨rfl, HG.out⟩), rfl⟩
      · have HG : Hid (fin N m K S F G P Q keys L X r = prF keys L X m r) := HCAT.out.trans (cat_low _ _ _ _ _ _ (by omega))
        clear HCAT
        go_wp2_with fail
        go_loop [20] (fun iv => ∃ k : Nat, iv = .int .i64 ((k : Int) - 1) ∧ k ≤ m ∧ Hid (∀ j, k ≤ j → j < m → keys j ≠ r)) (fun iv => (intOf iv + 1).toNat)
        case atStart => exact ⟨m, rfl, Nat.le_refl _, fun j h1 h2 => by omega⟩
        case round =>
          obtain ⟨k, rfl, hk, HK⟩ := hrel
          by_cases hk0 : 0 < k
          · have e3 := s3.addr (by omega)
            have r3 := (s3.row (k - 1) (by omega)).1
            generalize hkk : keys (k - 1) = kk at r3
            have HKK : Hid (keys (k - 1) = kk) := hkk
            clear hkk
            subst e3
            by_cases hkr : kk = r
            · have hkr' : (kk == r) = true := by simp [hkr]
              have HKR : Hid (kk = r) := hkr
              clear hkr
              go_wp2
              go_ret2
              refine ⟨Or.inr (Or.inr (Or.inr ⟨k - 1, by omega, ret2 (by omega), ?_⟩)), rfl⟩
              rw [HG.out, prF_skip keys L X HK.out hk]
              have e1 : k = (k - 1) + 1 := by omega
              rw [e1]
              exact prF_hit keys L X (HKK.out.trans HKR.out)
            · have hkr' : (kk == r) = false := by simp [hkr]
              have HKR : Hid (¬ kk = r) := hkr
              clear hkr
              go_wp2
              go_round
              case rel =>
                refine ⟨k - 1, congrArg (Value.int .i64) (by omega), by omega, ?_⟩
                intro j h1 h2
                by_cases e : j = k - 1
                · rw [e, HKK.out]; exact HKR.out
                · exact HK.out j (by omega) h2
              case measure => simp [intOf]; omega
          · have hkz : k = 0 := by omega
            subst hkz
            go_wp2
            go_ret2
            refine ⟨Or.inr (Or.inr (Or.inl ⟨rfl, ?_⟩)), rfl⟩
            rw [HG.out, prF_skip keys L X HK.out (Nat.zero_le _)]
            rfl
  · have HSEL := HB.out.1 rfl
    clear HB
    go_wp2
    go_ret2
    exact ⟨Or.inl ⟨rfl, fin_sel HSEL⟩, rfl⟩
end Go.Proofs.Qxb6000886a.msi
