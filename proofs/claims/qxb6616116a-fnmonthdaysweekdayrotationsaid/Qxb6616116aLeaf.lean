import Derived.Test.Qxb6616116aRows
import Derived.Test.Qxb6616116aPlain
import Derived.WalkKit
import Derived.WalkSpells
import Derived.WalkLawsBesides
import Derived.ProofKit
import Derived.Deep.QuietTactic
import Derived.BigQuiet
namespace Go.Proofs.Qxb6616116a
open Go.RowKit
set_option maxHeartbeats 400000

theorem weekdayOfDay_any (f d : Int) (w : World) (h1 : 0 ≤ f) (h2 : f ≤ 6) (h3 : 1 ≤ d) (h4 : d ≤ 31) :
    Calls Try.prog 37 #[.int .i64 f, .int .i64 d] w fun e w' => e = .returned (.int .i64 (Pl.wd f d)) ∧ w' = w := by
  go_enter Try.func37, Try.ntmps37
  go_wp2
  go_ret
  exact ⟨rfl, rfl⟩

def workB (x : Int) : Bool := decide (1 ≤ x ∧ x ≤ 5)

theorem isWorkday_any (x : Int) (w : World) :
    Calls Try.prog 44 #[.int .i64 x] w fun e w' => e = .returned (.bool (workB x)) ∧ w' = w := by
  by_cases h1 : 1 ≤ x
  · by_cases h2 : x ≤ 5
    · go_enter Try.func44, Try.ntmps44
      go_wp2
      go_ret
      exact ⟨by rw [show workB x = true from decide_eq_true ⟨h1, h2⟩]; rfl, rfl⟩
    · go_enter Try.func44, Try.ntmps44
      go_wp2
      go_ret
      exact ⟨by rw [show workB x = false from decide_eq_false (by omega)]; rfl, rfl⟩
  · go_enter Try.func44, Try.ntmps44
    go_wp2
    go_ret
    exact ⟨by rw [show workB x = false from decide_eq_false (by omega)]; rfl, rfl⟩

theorem work_iff (x : Int) : workB x = true ↔ (1 ≤ x ∧ x ≤ 5) := decide_eq_true_iff
theorem work_not (x : Int) : workB x = false ↔ ¬ (1 ≤ x ∧ x ≤ 5) := decide_eq_false_iff_not

theorem wn_last (L f m : Int) (h1 : L - 2 ≤ m) (h2 : m ≤ L) (hL : 28 ≤ L) (hw : workB (Pl.wd f m) = true) (hn : ∀ j, m < j → j ≤ L → workB (Pl.wd f j) = false) : m = Pl.wn L L f := by
  rw [work_iff] at hw
  have a := fun h1 h2 => (work_not _).1 (hn L h1 h2)
  have b := fun h1 h2 => (work_not _).1 (hn (L - 1) h1 h2)
  unfold Pl.wd at *
  unfold Pl.wn
  repeat' split
  all_goals omega

theorem last_step (L f m : Int) (h1 : L - 2 ≤ m) (h2 : m ≤ L) (hw : workB (Pl.wd f m) = false) (hn : ∀ j, m < j → j ≤ L → workB (Pl.wd f j) = false) : L - 2 ≤ m - 1 ∧ ∀ j, m - 1 < j → j ≤ L → workB (Pl.wd f j) = false := by
  have a := fun h1 h2 => (work_not _).1 (hn L h1 h2)
  have b := fun h1 h2 => (work_not _).1 (hn (L - 1) h1 h2)
  refine ⟨?_, fun j g1 g2 => ?_⟩
  · rw [work_not] at hw
    unfold Pl.wd at *
    omega
  · by_cases e : j = m
    · rw [e]; exact hw
    · exact hn j (by omega) g2

theorem lastWorkday_any (L f : Int) (w : World) (h1 : 0 ≤ f) (h2 : f ≤ 6) (h5 : 28 ≤ L) (h6 : L ≤ 31) :
    Calls Try.prog 35 #[.int .i64 L, .int .i64 f] w fun e w' => e = .returned (.int .i64 (Pl.wn L L f)) ∧ w' = w := by
  go_enter Try.func35, Try.ntmps35
  go_wp2_with fail
  go_loop [5] (fun t => ∃ m : Int, L - 2 ≤ m ∧ m ≤ L ∧ (∀ j, m < j → j ≤ L → workB (Pl.wd f j) = false) ∧ t = .int .i64 m) (fun t => (intOf t).toNat)
  case atStart => exact ⟨L, by omega, by omega, by intro j a b; omega, rfl⟩
  case round =>
    obtain ⟨m, hm1, hm2, hm3, rfl⟩ := hrel
    have Hm : Hid (∀ j, m < j → j ≤ L → workB (Pl.wd f j) = false) := hm3
    clear hm3
    cases hb : workB (Pl.wd f m)
    · go_wp2_with (first | (go_at_call 37; refine (weekdayOfDay_any _ _ _ h1 h2 (by omega) (by omega)).mono ?_; rintro e w' ⟨rfl, rfl⟩) | (go_at_call 44; refine (isWorkday_any _ _).mono ?_; rintro e w' ⟨rfl, rfl⟩))
      have hs := last_step L f m hm1 hm2 hb Hm.out
      go_round
      case rel => exact ⟨m - 1, hs.1, by omega, hs.2, rfl⟩
      case measure => simp [intOf]; omega
    · have e := wn_last L f m hm1 hm2 h5 hb Hm.out
      have He : Hid (m = Pl.wn L L f) := e
      clear e
      go_wp2_with (first | (go_at_call 37; refine (weekdayOfDay_any _ _ _ h1 h2 (by omega) (by omega)).mono ?_; rintro e w' ⟨rfl, rfl⟩) | (go_at_call 44; refine (isWorkday_any _ _).mono ?_; rintro e w' ⟨rfl, rfl⟩))
      go_ret
      exact ⟨by rw [← He.out]; rfl, rfl⟩

def nrTo (n f : Int) : Nat → Int × Int
  | 0 => (0, 1000)
  | k + 1 => if workB (Pl.wd f ((k : Int) + 1)) then (if (if (k : Int) + 1 - n < 0 then -((k : Int) + 1 - n) else (k : Int) + 1 - n) < (nrTo n f k).2 then ((k : Int) + 1, (if (k : Int) + 1 - n < 0 then -((k : Int) + 1 - n) else (k : Int) + 1 - n)) else nrTo n f k) else nrTo n f k

theorem nr_no (n f : Int) (k : Nat) (hb : workB (Pl.wd f ((k : Int) + 1)) = false) : nrTo n f (k + 1) = nrTo n f k := by
  rw [nrTo, hb]; rfl
theorem nr_neg (n f : Int) (k : Nat) (hb : workB (Pl.wd f ((k : Int) + 1)) = true) (h1 : (k : Int) + 1 - n < 0) (h2 : -((k : Int) + 1 - n) < (nrTo n f k).snd) : nrTo n f (k + 1) = ((k : Int) + 1, -((k : Int) + 1 - n)) := by
  rw [nrTo, if_pos hb, if_pos h1, if_pos h2]
theorem nr_neg' (n f : Int) (k : Nat) (hb : workB (Pl.wd f ((k : Int) + 1)) = true) (h1 : (k : Int) + 1 - n < 0) (h2 : (nrTo n f k).snd ≤ -((k : Int) + 1 - n)) : nrTo n f (k + 1) = nrTo n f k := by
  rw [nrTo, if_pos hb, if_pos h1, if_neg (by omega)]
theorem nr_pos (n f : Int) (k : Nat) (hb : workB (Pl.wd f ((k : Int) + 1)) = true) (h1 : 0 ≤ (k : Int) + 1 - n) (h2 : (k : Int) + 1 - n < (nrTo n f k).snd) : nrTo n f (k + 1) = ((k : Int) + 1, (k : Int) + 1 - n) := by
  rw [nrTo, if_pos hb, if_neg (show ¬ (k : Int) + 1 - n < 0 from by omega), if_pos h2]
theorem nr_pos' (n f : Int) (k : Nat) (hb : workB (Pl.wd f ((k : Int) + 1)) = true) (h1 : 0 ≤ (k : Int) + 1 - n) (h2 : (nrTo n f k).snd ≤ (k : Int) + 1 - n) : nrTo n f (k + 1) = nrTo n f k := by
  rw [nrTo, if_pos hb, if_neg (show ¬ (k : Int) + 1 - n < 0 from by omega), if_neg (by omega)]

theorem nr_all : ∀ L : Fin 4, ∀ f : Fin 7, ∀ n : Fin 31, n.1 < L.1 + 28 → (nrTo (n.1 + 1 : Nat) (f.1 : Nat) (L.1 + 28)).1 = Pl.wn (n.1 + 1 : Nat) (L.1 + 28 : Nat) (f.1 : Nat) := by decide +kernel

theorem nr_wn (n L f : Int) (h1 : 0 ≤ f) (h2 : f ≤ 6) (h3 : 28 ≤ L) (h4 : L ≤ 31) (h5 : 1 ≤ n) (h6 : n ≤ L) : (nrTo n f L.toNat).1 = Pl.wn n L f := by
  have h := nr_all ⟨(L - 28).toNat, by omega⟩ ⟨f.toNat, by omega⟩ ⟨(n - 1).toNat, by omega⟩ (by simp; omega)
  simp only at h
  rw [show ((L - 28).toNat + 28) = L.toNat by omega, show (((n - 1).toNat + 1 : Nat) : Int) = n by omega, show ((f.toNat : Nat) : Int) = f by omega, show ((L.toNat : Nat) : Int) = L by omega] at h
  exact h

theorem nearestWorkday_any (n L f : Int) (w : World) (h1 : 0 ≤ f) (h2 : f ≤ 6) (h5 : 28 ≤ L) (h6 : L ≤ 31) (h7 : 1 ≤ n) (h8 : n ≤ L) :
    Calls Try.prog 36 #[.int .i64 n, .int .i64 L, .int .i64 f] w fun e w' => e = .returned (.int .i64 (Pl.wn n L f)) ∧ w' = w := by
  go_enter Try.func36, Try.ntmps36
  go_wp2_with fail
  go_loop [7, 8, 9] (fun b t m => ∃ k : Nat, (k : Int) ≤ L ∧ b = .int .i64 (nrTo n f k).1 ∧ t = .int .i64 (nrTo n f k).2 ∧ m = .int .i64 ((k : Int) + 1)) (fun _ _ m => (L + 1 - intOf m).toNat)
  case atStart => exact ⟨0, by omega, rfl, rfl, rfl⟩
  case round =>
    obtain ⟨k, hk, rfl, rfl, rfl⟩ := hrel
    by_cases hlt : (k : Int) + 1 ≤ L
    · cases hb : workB (Pl.wd f ((k : Int) + 1))
      · go_wp2_with (first | (go_at_call 37; refine (weekdayOfDay_any _ _ _ h1 h2 (by omega) (by omega)).mono ?_; rintro e w' ⟨rfl, rfl⟩) | (go_at_call 44; refine (isWorkday_any _ _).mono ?_; rintro e w' ⟨rfl, rfl⟩))
        have e := nr_no n f k hb
        go_round
        case rel => exact ⟨k + 1, by omega, by rw [e], by rw [e], by go_num⟩
        case measure => simp [intOf]; omega
      · go_wp2_with (first | (go_at_call 37; refine (weekdayOfDay_any _ _ _ h1 h2 (by omega) (by omega)).mono ?_; rintro e w' ⟨rfl, rfl⟩) | (go_at_call 44; refine (isWorkday_any _ _).mono ?_; rintro e w' ⟨rfl, rfl⟩))
        all_goals
          first
          | have e := nr_neg n f k hb (by assumption) (by assumption)
          | have e := nr_neg' n f k hb (by assumption) (by assumption)
          | have e := nr_pos n f k hb (by assumption) (by assumption)
          | have e := nr_pos' n f k hb (by assumption) (by assumption)
          go_round
          case rel => exact ⟨k + 1, by omega, by rw [e], by rw [e], by go_num⟩
          case measure => simp [intOf]; omega
    · go_wp2_with fail
      go_ret
      have e : L.toNat = k := by omega
      have hx := nr_wn n L f h1 h2 h5 h6 h7 h8
      rw [e] at hx
      exact ⟨by rw [← hx]; rfl, rfl⟩

/-! ### domMatches, by the kind -/
theorem bit_test (s : Nat) (d : Nat) (hs : s < 18446744073709551616) : (bits .and .u64 ((s : Int) / 2 ^ d) 1 == 1) = s.testBit d := by
  have e : ((s : Int) / 2 ^ d) = ((s / 2 ^ d : Nat) : Int) := by simp
  have hlt : s / 2 ^ d < 18446744073709551616 := Nat.lt_of_le_of_lt (Nat.div_le_self _ _) hs
  rw [e, show (1 : Int) = ((1 : Nat) : Int) from rfl, u64_and_nat _ _ hlt (by decide), nat_mask1, Nat.testBit_eq_decide_div_mod_eq, Bool.eq_iff_iff, beq_iff_eq, decide_eq_true_eq]
  omega

theorem dom0 (s : Nat) (n L f d : Int) (w : World) (hs : s < 18446744073709551616) (h5 : 1 ≤ d) (h6 : d ≤ 31) :
    Calls Try.prog 27 #[.int .u64 s, .int .u8 0, .int .i64 n, .int .i64 d, .int .i64 L, .int .i64 f] w fun e w' => e = .returned (.bool (s.testBit d.toNat)) ∧ w' = w := by
  have Hb := show Hid _ from bit_test s d.toNat hs
  clear hs
  go_enter Try.func27, Try.ntmps27
  go_wp2
  go_ret
  exact ⟨by rw [← Hb.out]; rfl, rfl⟩

theorem dom1 (s : Nat) (n L f d : Int) (w : World) :
    Calls Try.prog 27 #[.int .u64 s, .int .u8 1, .int .i64 n, .int .i64 d, .int .i64 L, .int .i64 f] w fun e w' => e = .returned (.bool (decide (d = L))) ∧ w' = w := by
  go_enter Try.func27, Try.ntmps27
  go_wp2
  go_ret
  exact ⟨rfl, rfl⟩

theorem dom2 (s : Nat) (n L f d : Int) (w : World) (h1 : 0 ≤ f) (h2 : f ≤ 6) (h5 : 28 ≤ L) (h6 : L ≤ 31) :
    Calls Try.prog 27 #[.int .u64 s, .int .u8 2, .int .i64 n, .int .i64 d, .int .i64 L, .int .i64 f] w fun e w' => e = .returned (.bool (decide (d = Pl.wn L L f))) ∧ w' = w := by
  go_enter Try.func27, Try.ntmps27
  go_wp2_with (go_at_call 35; refine (lastWorkday_any _ _ _ h1 h2 h5 h6).mono ?_; rintro e w' ⟨rfl, rfl⟩)
  go_ret
  exact ⟨rfl, rfl⟩

theorem dom3 (s : Nat) (n L f d : Int) (w : World) (h1 : 0 ≤ f) (h2 : f ≤ 6) (h5 : 28 ≤ L) (h6 : L ≤ 31) (h7 : 1 ≤ n) :
    Calls Try.prog 27 #[.int .u64 s, .int .u8 3, .int .i64 n, .int .i64 d, .int .i64 L, .int .i64 f] w fun e w' => e = .returned (.bool (decide (n ≤ L) && decide (d = Pl.wn n L f))) ∧ w' = w := by
  by_cases hn : n ≤ L
  · go_enter Try.func27, Try.ntmps27
    go_wp2_with (go_at_call 36; refine (nearestWorkday_any _ _ _ _ h1 h2 h5 h6 h7 hn).mono ?_; rintro e w' ⟨rfl, rfl⟩)
    go_ret
    exact ⟨by rw [decide_eq_true hn, Bool.true_and]; rfl, rfl⟩
  · rw [decide_eq_false hn, Bool.false_and]
    go_enter Try.func27, Try.ntmps27
    go_wp2_with fail
    go_ret
    exact ⟨rfl, rfl⟩

/-! ### dowMatches -/
theorem dow0 (s : Nat) (n nth L f d : Int) (w : World) (hs : s < 18446744073709551616) (h1 : 0 ≤ f) (h2 : f ≤ 6) (h5 : 1 ≤ d) (h6 : d ≤ 31) :
    Calls Try.prog 28 #[.int .u64 s, .int .u8 0, .int .i64 n, .int .i64 nth, .int .i64 d, .int .i64 L, .int .i64 f] w fun e w' => e = .returned (.bool (s.testBit (Pl.wd f d).toNat)) ∧ w' = w := by
  have hb := Pl.wd_bd f d
  obtain ⟨hb1, hb2⟩ := hb
  have Hb := show Hid _ from bit_test s (Pl.wd f d).toNat hs
  clear hs
  go_enter Try.func28, Try.ntmps28
  go_wp2_with (go_at_call 37; refine (weekdayOfDay_any _ _ _ h1 h2 h5 h6).mono ?_; rintro e w' ⟨rfl, rfl⟩)
  go_ret
  exact ⟨by rw [← Hb.out]; rfl, rfl⟩
theorem dow4 (s : Nat) (n nth L f d : Int) (w : World) (h1 : 0 ≤ f) (h2 : f ≤ 6) (h5 : 1 ≤ d) (h6 : d ≤ 31) :
    Calls Try.prog 28 #[.int .u64 s, .int .u8 4, .int .i64 n, .int .i64 nth, .int .i64 d, .int .i64 L, .int .i64 f] w fun e w' => e = .returned (.bool (decide (Pl.wd f d = n))) ∧ w' = w := by
  go_enter Try.func28, Try.ntmps28
  go_wp2_with (go_at_call 37; refine (weekdayOfDay_any _ _ _ h1 h2 h5 h6).mono ?_; rintro e w' ⟨rfl, rfl⟩)
  go_ret
  exact ⟨rfl, rfl⟩
theorem dow5 (s : Nat) (n nth L f d : Int) (w : World) (h1 : 0 ≤ f) (h2 : f ≤ 6) (h5 : 1 ≤ d) (h6 : d ≤ 31) :
    Calls Try.prog 28 #[.int .u64 s, .int .u8 5, .int .i64 n, .int .i64 nth, .int .i64 d, .int .i64 L, .int .i64 f] w fun e w' => e = .returned (.bool (decide (Pl.wd f d = n) && decide (L < d + 7))) ∧ w' = w := by
  cases hq : (Pl.wd f d == n)
  · have hd : decide (Pl.wd f d = n) = false := hq
    rw [hd, Bool.false_and]
    clear hd
    go_enter Try.func28, Try.ntmps28
    go_wp2_with (go_at_call 37; refine (weekdayOfDay_any _ _ _ h1 h2 h5 h6).mono ?_; rintro e w' ⟨rfl, rfl⟩)
    go_ret
    exact ⟨rfl, rfl⟩
  · have hd : decide (Pl.wd f d = n) = true := hq
    rw [hd, Bool.true_and]
    clear hd
    go_enter Try.func28, Try.ntmps28
    go_wp2_with (go_at_call 37; refine (weekdayOfDay_any _ _ _ h1 h2 h5 h6).mono ?_; rintro e w' ⟨rfl, rfl⟩)
    go_ret
    exact ⟨rfl, rfl⟩
theorem dow6 (s : Nat) (n nth L f d : Int) (w : World) (h1 : 0 ≤ f) (h2 : f ≤ 6) (h5 : 1 ≤ d) (h6 : d ≤ 31) (h7 : 1 ≤ nth) (h8 : nth ≤ 5) :
    Calls Try.prog 28 #[.int .u64 s, .int .u8 6, .int .i64 n, .int .i64 nth, .int .i64 d, .int .i64 L, .int .i64 f] w fun e w' => e = .returned (.bool (decide (Pl.wd f d = n) && decide ((d - 1) / 7 = nth - 1))) ∧ w' = w := by
  cases hq : (Pl.wd f d == n)
  · have hd : decide (Pl.wd f d = n) = false := hq
    rw [hd, Bool.false_and]
    clear hd
    go_enter Try.func28, Try.ntmps28
    go_wp2_with (go_at_call 37; refine (weekdayOfDay_any _ _ _ h1 h2 h5 h6).mono ?_; rintro e w' ⟨rfl, rfl⟩)
    go_ret
    exact ⟨rfl, rfl⟩
  · have hd : decide (Pl.wd f d = n) = true := hq
    rw [hd, Bool.true_and]
    clear hd
    go_enter Try.func28, Try.ntmps28
    go_wp2_with (go_at_call 37; refine (weekdayOfDay_any _ _ _ h1 h2 h5 h6).mono ?_; rintro e w' ⟨rfl, rfl⟩)
    go_ret
    exact ⟨rfl, rfl⟩


/-! ### the models' loops -/
theorem or_day (a : Nat) (k : Nat) (ha : a < 2 ^ (k + 1)) (hk : k + 1 ≤ 40) :
    bits .or .u64 (a : Int) (IntKind.u64.wrap (2 ^ (k + 1))) = ((a ||| 2 ^ (k + 1) : Nat) : Int) := by
  have h40 : 2 ^ (k + 1) ≤ 2 ^ 40 := Nat.pow_le_pow_right (by decide) hk
  have e : IntKind.u64.wrap (2 ^ (k + 1)) = ((2 ^ (k + 1) : Nat) : Int) := by
    rw [IntKind.wrap_u64]
    rw [show (2 : Int) ^ (k + 1) = ((2 ^ (k + 1) : Nat) : Int) by simp]
    omega
  rw [e, u64_or_nat _ _ (by omega) (by omega)]

set_option maxHeartbeats 1000000 in
theorem modelDom_any (s : Nat) (kd n L f : Int) (p : Nat → Bool) (w : World) (h5 : 28 ≤ L) (h6 : L ≤ 31)
    (hp : ∀ d : Int, 1 ≤ d → d ≤ L → ∀ w, Calls Try.prog 27 #[.int .u64 s, .int .u8 kd, .int .i64 n, .int .i64 d, .int .i64 L, .int .i64 f] w fun e w' => e = .returned (.bool (p d.toNat)) ∧ w' = w) :
    Calls Try.prog 18 #[.int .u64 s, .int .u8 kd, .int .i64 n, .int .i64 L, .int .i64 f] w fun e w' => e = .returned (.int .u64 (Pl.mt p L.toNat : Nat)) ∧ w' = w := by
  have Hp := show Hid _ from hp
  clear hp
  go_enter Try.func18, Try.ntmps18
  go_wp2_with fail
  go_loop [11, 12] (fun o m => ∃ k : Nat, (k : Int) ≤ L ∧ o = .int .u64 (Pl.mt p k : Nat) ∧ m = .int .i64 ((k : Int) + 1)) (fun _ m => (L + 1 - intOf m).toNat)
  case atStart => exact ⟨0, by omega, rfl, rfl⟩
  case round =>
    obtain ⟨k, hk, rfl, rfl⟩ := hrel
    by_cases hlt : (k : Int) + 1 ≤ L
    · have hc := Hp.out ((k : Int) + 1) (by omega) hlt
      rw [show ((k : Int) + 1).toNat = k + 1 by omega] at hc
      have Hc := show Hid _ from hc
      clear hc
      have Ho := show Hid _ from or_day (Pl.mt p k) k (Pl.mt_lt p k) (by omega)
      cases hb : p (k + 1)
      · have Hs : Hid (Pl.mt p (k + 1) = Pl.mt p k) := by show _ = _; rw [Pl.mt, hb]; rfl
        go_wp2_with (go_at_call 27; refine (Hc.out _).mono ?_; rintro e w' ⟨rfl, rfl⟩)
        go_round
        case rel => exact ⟨k + 1, by omega, by rw [Hs.out], by go_num⟩
        case measure => simp [intOf]; omega
      · have Hs : Hid (Pl.mt p (k + 1) = Pl.mt p k ||| 2 ^ (k + 1)) := by show _ = _; rw [Pl.mt, hb]; rfl
        go_wp2_with (go_at_call 27; refine (Hc.out _).mono ?_; rintro e w' ⟨rfl, rfl⟩)
        go_round
        case rel => exact ⟨k + 1, by omega, by rw [Hs.out, Ho.out], by go_num⟩
        case measure => simp [intOf]; omega
    · go_wp2_with fail
      go_ret
      exact ⟨by rw [show L.toNat = k by omega]; rfl, rfl⟩

set_option maxHeartbeats 1000000 in
theorem modelDow_any (s : Nat) (kd n nth L f : Int) (p : Nat → Bool) (w : World) (h5 : 28 ≤ L) (h6 : L ≤ 31)
    (hp : ∀ d : Int, 1 ≤ d → d ≤ L → ∀ w, Calls Try.prog 28 #[.int .u64 s, .int .u8 kd, .int .i64 n, .int .i64 nth, .int .i64 d, .int .i64 L, .int .i64 f] w fun e w' => e = .returned (.bool (p d.toNat)) ∧ w' = w) :
    Calls Try.prog 19 #[.int .u64 s, .int .u8 kd, .int .i64 n, .int .i64 nth, .int .i64 L, .int .i64 f] w fun e w' => e = .returned (.int .u64 (Pl.mt p L.toNat : Nat)) ∧ w' = w := by
  have Hp := show Hid _ from hp
  clear hp
  go_enter Try.func19, Try.ntmps19
  go_wp2_with fail
  go_loop [13, 14] (fun o m => ∃ k : Nat, (k : Int) ≤ L ∧ o = .int .u64 (Pl.mt p k : Nat) ∧ m = .int .i64 ((k : Int) + 1)) (fun _ m => (L + 1 - intOf m).toNat)
  case atStart => exact ⟨0, by omega, rfl, rfl⟩
  case round =>
    obtain ⟨k, hk, rfl, rfl⟩ := hrel
    by_cases hlt : (k : Int) + 1 ≤ L
    · have hc := Hp.out ((k : Int) + 1) (by omega) hlt
      rw [show ((k : Int) + 1).toNat = k + 1 by omega] at hc
      have Hc := show Hid _ from hc
      clear hc
      have Ho := show Hid _ from or_day (Pl.mt p k) k (Pl.mt_lt p k) (by omega)
      cases hb : p (k + 1)
      · have Hs : Hid (Pl.mt p (k + 1) = Pl.mt p k) := by show _ = _; rw [Pl.mt, hb]; rfl
        go_wp2_with (go_at_call 28; refine (Hc.out _).mono ?_; rintro e w' ⟨rfl, rfl⟩)
        go_round
        case rel => exact ⟨k + 1, by omega, by rw [Hs.out], by go_num⟩
        case measure => simp [intOf]; omega
      · have Hs : Hid (Pl.mt p (k + 1) = Pl.mt p k ||| 2 ^ (k + 1)) := by show _ = _; rw [Pl.mt, hb]; rfl
        go_wp2_with (go_at_call 28; refine (Hc.out _).mono ?_; rintro e w' ⟨rfl, rfl⟩)
        go_round
        case rel => exact ⟨k + 1, by omega, by rw [Hs.out, Ho.out], by go_num⟩
        case measure => simp [intOf]; omega
    · go_wp2_with fail
      go_ret
      exact ⟨by rw [show L.toNat = k by omega]; rfl, rfl⟩


theorem or_day' (a j : Nat) (ha : a < 128) (hj : j < 7) :
    bits .or .u64 (a : Int) (IntKind.u64.wrap (2 ^ j)) = ((a ||| 2 ^ j : Nat) : Int) := by
  have h40 : 2 ^ j ≤ 2 ^ 40 := Nat.pow_le_pow_right (by decide) (by omega)
  have e : IntKind.u64.wrap (2 ^ j) = ((2 ^ j : Nat) : Int) := by
    rw [IntKind.wrap_u64]
    rw [show (2 : Int) ^ j = ((2 ^ j : Nat) : Int) by simp]
    exact Int.emod_eq_of_lt (Int.natCast_nonneg _) (by omega)
  rw [e, u64_or_nat _ _ (by omega) (by omega)]

set_option maxHeartbeats 1000000 in
theorem rotate_any (x : Nat) (k : Int) (w : World) (hx : x < 18446744073709551616) (h5 : 0 ≤ k) (h6 : k ≤ 6) :
    Calls Try.prog 20 #[.int .u64 x, .int .i64 k] w fun e w' => e = .returned (.int .u64 (Pl.rotTo x k.toNat 7 : Nat)) ∧ w' = w := by
  go_enter Try.func20, Try.ntmps20
  go_wp2_with fail
  go_loop [5, 6] (fun o m => ∃ j : Nat, j ≤ 7 ∧ o = .int .u64 (Pl.rotTo x k.toNat j : Nat) ∧ m = .int .i64 (j : Int)) (fun _ m => (7 - intOf m).toNat)
  case atStart => exact ⟨0, by omega, rfl, rfl⟩
  case round =>
    obtain ⟨j, hj, rfl, rfl⟩ := hrel
    by_cases hlt : j < 7
    · have hq := bit_test x j hx
      have Ho := show Hid _ from or_day' (Pl.rotTo x k.toNat j) ((j + k.toNat) % 7) (Pl.rotTo_lt _ _ _) (by omega)
      cases hb : x.testBit j
      · have Hs : Hid (Pl.rotTo x k.toNat (j + 1) = Pl.rotTo x k.toNat j) := by show _ = _; rw [Pl.rotTo, hb]; rfl
        rw [hb] at hq
        clear hb
        go_wp2_with fail
        go_round
        case rel => exact ⟨j + 1, by omega, by rw [Hs.out], by go_num⟩
        case measure => simp [intOf]; omega
      · have Hs : Hid (Pl.rotTo x k.toNat (j + 1) = Pl.rotTo x k.toNat j ||| 2 ^ ((j + k.toNat) % 7)) := by show _ = _; rw [Pl.rotTo, hb]; rfl
        rw [hb] at hq
        clear hb
        go_wp2_with fail
        go_round
        case rel => exact ⟨j + 1, by omega, by rw [Hs.out, ← Ho.out, show (((j : Int) + k) % 7).toNat = (j + k.toNat) % 7 by omega], by go_num⟩
        case measure => simp [intOf]; omega
    · go_wp2_with fail
      go_ret
      exact ⟨by rw [show j = 7 by omega]; rfl, rfl⟩

end Go.Proofs.Qxb6616116a
