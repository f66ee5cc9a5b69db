/-
  The plain mathematics of the day sets: no Go in sight. A set of days is a Nat, day d as bit d.
-/
namespace Go.Proofs.Qxb6616116a.Pl

/-- The set of the days 1 .. k that p picks. -/
def mt (p : Nat → Bool) : Nat → Nat
  | 0 => 0
  | k + 1 => if p (k + 1) then mt p k ||| 2 ^ (k + 1) else mt p k

theorem mt_bit (p : Nat → Bool) (k i : Nat) : (mt p k).testBit i = (decide (1 ≤ i ∧ i ≤ k) && p i) := by
  induction k with
  | zero =>
    rw [mt, Nat.zero_testBit, decide_eq_false (by omega), Bool.false_and]
  | succ k ih =>
    rw [mt]
    by_cases e : i = k + 1
    · subst e
      have hz : (mt p k).testBit (k + 1) = false := by rw [ih, decide_eq_false (by omega), Bool.false_and]
      rw [decide_eq_true (by omega), Bool.true_and]
      split
      · rename_i hp; rw [Nat.testBit_or, Nat.testBit_two_pow_self, hp, Bool.or_true]
      · rename_i hp; rw [hz]; simpa using hp
    · have hd : decide (1 ≤ i ∧ i ≤ k + 1) = decide (1 ≤ i ∧ i ≤ k) := by
        by_cases h : 1 ≤ i ∧ i ≤ k
        · rw [decide_eq_true h, decide_eq_true (by omega)]
        · rw [decide_eq_false h, decide_eq_false (by omega)]
      rw [hd, ← ih]
      split
      · rw [Nat.testBit_or, Nat.testBit_two_pow_of_ne (by omega), Bool.or_false]
      · rfl

theorem mt_lt (p : Nat → Bool) (k : Nat) : mt p k < 2 ^ (k + 1) := by
  apply Nat.lt_pow_two_of_testBit
  intro i hi
  rw [mt_bit, decide_eq_false (by omega), Bool.false_and]

theorem mt_congr (p q : Nat → Bool) (k : Nat) (h : ∀ i, 1 ≤ i → i ≤ k → p i = q i) : mt p k = mt q k := by
  apply Nat.eq_of_testBit_eq
  intro i
  rw [mt_bit, mt_bit]
  by_cases hi : 1 ≤ i ∧ i ≤ k
  · rw [h i hi.1 hi.2]
  · rw [decide_eq_false hi, Bool.false_and, Bool.false_and]

/-- The weekday of day d. -/
def wd (f d : Int) : Int := (f + d - 1) % 7

theorem wd_bd (f d : Int) : 0 ≤ wd f d ∧ wd f d ≤ 6 := by unfold wd; omega

/-- The workday nearest day d. -/
def wn (d L f : Int) : Int := if (f + d - 1) % 7 = 6 then (if d = 1 then 3 else d - 1) else if (f + d - 1) % 7 = 0 then (if d = L then d - 2 else d + 1) else d

theorem wn_bd (d L f : Int) (h1 : 1 ≤ d) (h2 : d ≤ 31) (h3 : 28 ≤ L) : 0 ≤ wn d L f ∧ wn d L f ≤ 32 := by
  unfold wn; repeat' split
  all_goals omega

/-- What the weekdays of the set x are in a month of 35 days. -/
def wds (x : Nat) (f : Int) : Nat := mt (fun i => x.testBit (wd f i).toNat) 35

/-- The day forms. -/
def form (k n nth L f : Int) : Nat :=
  if k = 1 then 2 ^ L.toNat
  else if k = 2 then 2 ^ (wn L L f).toNat
  else if k = 3 then (if L < n then 0 else 2 ^ (wn n L f).toNat)
  else if k = 4 then wds (2 ^ n.toNat) f
  else if k = 5 then 2 ^ (L - (f + L - 1 - n) % 7).toNat
  else 2 ^ (1 + (n - f) % 7 + 7 * (nth - 1)).toNat

def FormOk (k n nth : Int) : Prop := k = 1 ∨ k = 2 ∨ (k = 3 ∧ 1 ≤ n ∧ n ≤ 31) ∨ (k = 4 ∧ 0 ≤ n ∧ n ≤ 6) ∨ (k = 5 ∧ 0 ≤ n ∧ n ≤ 6) ∨ (k = 6 ∧ 0 ≤ n ∧ n ≤ 6 ∧ 1 ≤ nth ∧ nth ≤ 5)

theorem two_pow_lt {a b : Nat} (h : a < b) : 2 ^ a < 2 ^ b := Nat.pow_lt_pow_right (by decide) h

theorem form_lt (k n nth L f : Int) (h1 : 28 ≤ L) (h2 : L ≤ 31) (hk : FormOk k n nth) : form k n nth L f < 2 ^ 36 := by
  unfold form
  rcases hk with rfl | rfl | ⟨rfl, a, b⟩ | ⟨rfl, a, b⟩ | ⟨rfl, a, b⟩ | ⟨rfl, a, b, c, d⟩
  · rw [if_pos rfl]; exact two_pow_lt (by omega)
  · rw [if_neg (by decide), if_pos rfl]; have := wn_bd L L f (by omega) (by omega) h1; exact two_pow_lt (by omega)
  · rw [if_neg (by decide), if_neg (by decide), if_pos rfl]; split
    · decide
    · have := wn_bd n L f a b h1; exact two_pow_lt (by omega)
  · rw [if_neg (by decide), if_neg (by decide), if_neg (by decide), if_pos rfl]; exact mt_lt _ _
  · rw [if_neg (by decide), if_neg (by decide), if_neg (by decide), if_neg (by decide), if_pos rfl]; exact two_pow_lt (by omega)
  · rw [if_neg (by decide), if_neg (by decide), if_neg (by decide), if_neg (by decide), if_neg (by decide)]; exact two_pow_lt (by omega)

/-- The days of the mask. -/
def mask (L : Int) : Nat := 2 ^ (L + 1).toNat - 2

theorem mask_bit (L : Int) (h : 28 ≤ L) (i : Nat) : (mask L).testBit i = decide (1 ≤ i ∧ (i : Int) ≤ L) := by
  unfold mask
  have h1 : 1 < 2 ^ (L + 1).toNat := Nat.one_lt_two_pow (by omega)
  rw [Nat.testBit_two_pow_sub_succ h1 i, show Nat.testBit 1 i = decide (0 = i) from Nat.testBit_two_pow (n := 0)]
  by_cases a : i < (L + 1).toNat <;> by_cases b : 0 = i
  · rw [decide_eq_true a, decide_eq_true b, decide_eq_false (by omega)]; rfl
  · rw [decide_eq_true a, decide_eq_false b, decide_eq_true (by omega)]; rfl
  · rw [decide_eq_false a, Bool.false_and, decide_eq_false (by omega)]
  · rw [decide_eq_false a, Bool.false_and, decide_eq_false (by omega)]

/-- What each day field selects. -/
def part (k : Int) (s : Nat) (n nth L f : Int) : Nat := if k = 0 then s else form k n nth L f

/-- monthDays. -/
def md (a b : Nat) (both : Bool) (L : Int) : Nat := (if both then a ||| b else a &&& b) &&& mask L

/-- The law's own tests, day by day. -/
def domP (s : Nat) (k n L f : Int) (d : Nat) : Bool :=
  if k = 0 then s.testBit d else if k = 1 then decide ((d : Int) = L) else if k = 2 then decide ((d : Int) = wn L L f) else decide (n ≤ L) && decide ((d : Int) = wn n L f)

def dowP (x : Nat) (k n nth L f : Int) (d : Nat) : Bool :=
  if k = 0 then x.testBit (wd f d).toNat else if k = 4 then decide (wd f d = n) else if k = 5 then decide (wd f d = n) && decide (L < (d : Int) + 7) else decide (wd f d = n) && decide (((d : Int) - 1) / 7 = nth - 1)

theorem bit_pow (n i : Nat) : (2 ^ n).testBit i = decide (n = i) := Nat.testBit_two_pow

theorem dom_bit (s : Nat) (k n nth L f : Int) (hL1 : 28 ≤ L) (hk : k = 0 ∨ k = 1 ∨ k = 2 ∨ (k = 3 ∧ 1 ≤ n ∧ n ≤ 31)) (hL2 : L ≤ 31) (i : Nat) :
    (part k s n nth L f).testBit i = domP s k n L f i := by
  unfold part domP form
  rcases hk with rfl | rfl | rfl | ⟨rfl, a, b⟩
  · simp
  · simp [bit_pow]; omega
  · simp [bit_pow]; have := wn_bd L L f (by omega) (by omega) hL1; omega
  · have := wn_bd n L f a b hL1
    by_cases hn : n ≤ L
    · simp [bit_pow, hn, Int.not_lt.2 hn]; omega
    · simp [hn, Int.not_le.1 hn]

theorem dow_bit (x : Nat) (k n nth L f : Int) (hL1 : 28 ≤ L) (hL2 : L ≤ 31)
    (hk : k = 0 ∨ (k = 4 ∧ 0 ≤ n ∧ n ≤ 6) ∨ (k = 5 ∧ 0 ≤ n ∧ n ≤ 6) ∨ (k = 6 ∧ 0 ≤ n ∧ n ≤ 6 ∧ 1 ≤ nth ∧ nth ≤ 5)) (i : Nat) (h1 : 1 ≤ i) (h2 : (i : Int) ≤ L) :
    (part k (wds x f) n nth L f).testBit i = dowP x k n nth L f i := by
  have hi : decide (1 ≤ i ∧ i ≤ 35) = true := decide_eq_true (by omega)
  unfold part dowP form
  rcases hk with rfl | ⟨rfl, a, b⟩ | ⟨rfl, a, b⟩ | ⟨rfl, a, b, c, d⟩
  · simp only [if_true]
    rw [wds, mt_bit, hi, Bool.true_and]
  · have := wd_bd f i
    rw [if_neg (by decide), if_neg (by decide), if_neg (by decide), if_neg (by decide), if_pos rfl, if_neg (by decide), if_pos rfl, wds, mt_bit, hi, Bool.true_and, bit_pow]
    rw [Bool.eq_iff_iff, decide_eq_true_eq, decide_eq_true_eq]; omega
  · rw [if_neg (by decide), if_neg (by decide), if_neg (by decide), if_neg (by decide), if_neg (by decide), if_pos rfl, if_neg (by decide), if_neg (by decide), if_pos rfl, bit_pow]
    rw [Bool.eq_iff_iff, Bool.and_eq_true, decide_eq_true_eq, decide_eq_true_eq, decide_eq_true_eq]
    unfold wd
    have h0 : 0 ≤ L - (f + L - 1 - n) % 7 := by omega
    obtain ⟨t, ht⟩ := Int.eq_ofNat_of_zero_le h0
    rw [ht, Int.toNat_natCast]
    constructor
    · intro e; subst e; omega
    · rintro ⟨e1, e2⟩; omega
  · rw [if_neg (by decide), if_neg (by decide), if_neg (by decide), if_neg (by decide), if_neg (by decide), if_neg (by decide), if_neg (by decide), if_neg (by decide), if_neg (by decide), bit_pow]
    rw [Bool.eq_iff_iff, Bool.and_eq_true, decide_eq_true_eq, decide_eq_true_eq, decide_eq_true_eq]
    unfold wd
    have h0 : 0 ≤ 1 + (n - f) % 7 + 7 * (nth - 1) := by omega
    obtain ⟨t, ht⟩ := Int.eq_ofNat_of_zero_le h0
    rw [ht, Int.toNat_natCast]
    constructor
    · intro e; subst e; omega
    · rintro ⟨e1, e2⟩; omega

theorem md_bit (a b : Nat) (both : Bool) (L : Int) (hL : 28 ≤ L) (i : Nat) :
    (md a b both L).testBit i = ((if both then a.testBit i || b.testBit i else a.testBit i && b.testBit i) && decide (1 ≤ i ∧ (i : Int) ≤ L)) := by
  unfold md
  rw [Nat.testBit_and, mask_bit L hL]
  cases both
  · simp [Nat.testBit_and]
  · simp [Nat.testBit_or]

theorem all_week (f : Int) (i : Nat) (h1 : 1 ≤ i) (h2 : i ≤ 35) : (wds 127 f).testBit i = true := by
  rw [wds, mt_bit, decide_eq_true ⟨h1, h2⟩, Bool.true_and]
  have := wd_bd f i
  rw [show (127 : Nat) = 2 ^ 7 - 1 from rfl, Nat.testBit_two_pow_sub_one]
  exact decide_eq_true (by omega)

theorem all_days (i : Nat) (h1 : 1 ≤ i) (h2 : i ≤ 31) : Nat.testBit 4294967294 i = true := by
  have h := mask_bit 31 (by decide) i
  rw [show mask 31 = 4294967294 from by decide] at h
  rw [h]; exact decide_eq_true (by omega)

/-- The month day's field alone. -/
theorem by_dom (a : Nat) (p : Nat → Bool) (L f : Int) (hL : 28 ≤ L) (hL2 : L ≤ 31) (h : ∀ i : Nat, 1 ≤ i → (i : Int) ≤ L → a.testBit i = p i) :
    md a (wds 127 f) false L = mt p L.toNat := by
  apply Nat.eq_of_testBit_eq
  intro i
  rw [md_bit _ _ _ _ hL, mt_bit]
  by_cases hi : 1 ≤ i ∧ (i : Int) ≤ L
  · rw [decide_eq_true hi, decide_eq_true (by omega), all_week f i hi.1 (by omega), h i hi.1 hi.2]; simp
  · rw [decide_eq_false hi, decide_eq_false (by omega), Bool.and_false, Bool.false_and]

/-- The weekday's field alone. -/
theorem by_dow (b : Nat) (p : Nat → Bool) (L : Int) (hL : 28 ≤ L) (hL2 : L ≤ 31) (h : ∀ i : Nat, 1 ≤ i → (i : Int) ≤ L → b.testBit i = p i) :
    md 4294967294 b false L = mt p L.toNat := by
  apply Nat.eq_of_testBit_eq
  intro i
  rw [md_bit _ _ _ _ hL, mt_bit]
  by_cases hi : 1 ≤ i ∧ (i : Int) ≤ L
  · rw [decide_eq_true hi, decide_eq_true (by omega), all_days i hi.1 (by omega), h i hi.1 hi.2]; simp
  · rw [decide_eq_false hi, decide_eq_false (by omega), Bool.and_false, Bool.false_and]

/-- got = want: the mask goes over both joins. -/
theorem md_join (a b : Nat) (p q : Nat → Bool) (both : Bool) (L : Int) (hL : 28 ≤ L) (ha : ∀ i : Nat, 1 ≤ i → (i : Int) ≤ L → a.testBit i = p i)
    (hb : ∀ i : Nat, 1 ≤ i → (i : Int) ≤ L → b.testBit i = q i) :
    md a b both L = if both then mt p L.toNat ||| mt q L.toNat else mt p L.toNat &&& mt q L.toNat := by
  apply Nat.eq_of_testBit_eq
  intro i
  rw [md_bit _ _ _ _ hL]
  by_cases hi : 1 ≤ i ∧ (i : Int) ≤ L
  · have hd : decide (1 ≤ i ∧ i ≤ L.toNat) = true := decide_eq_true (by omega)
    rw [decide_eq_true hi, ha i hi.1 hi.2, hb i hi.1 hi.2]
    cases both
    · simp only [Bool.false_eq_true, if_false, Nat.testBit_and, mt_bit, hd, Bool.true_and, Bool.and_true]
    · simp only [if_true, Nat.testBit_or, mt_bit, hd, Bool.true_and, Bool.and_true]
  · have hd : decide (1 ≤ i ∧ i ≤ L.toNat) = false := decide_eq_false (by omega)
    rw [decide_eq_false hi]
    cases both <;> simp [Nat.testBit_and, Nat.testBit_or, mt_bit, hd]

/-- A set of weekdays turned by k. -/
def rotTo (x : Nat) (k : Nat) : Nat → Nat
  | 0 => 0
  | w + 1 => if x.testBit w then rotTo x k w ||| 2 ^ ((w + k) % 7) else rotTo x k w

theorem rotTo_lt (x k w : Nat) : rotTo x k w < 128 := by
  induction w with
  | zero => rw [rotTo]; decide
  | succ w ih =>
    rw [rotTo]; split
    · exact Nat.or_lt_two_pow (n := 7) ih (two_pow_lt (by omega))
    · exact ih

theorem rot_all : ∀ x : Fin 128, ∀ k : Fin 7, ∀ j : Fin 7, (rotTo x.1 k.1 7).testBit ((j.1 + k.1) % 7) = x.1.testBit j.1 := by decide +kernel

theorem rot_bit (x k j : Nat) (hx : x < 128) (hk : k < 7) (hj : j < 7) : (rotTo x k 7).testBit ((j + k) % 7) = x.testBit j := rot_all ⟨x, hx⟩ ⟨k, hk⟩ ⟨j, hj⟩

/-- What the law turns: the first weekday, and the weekday that a form names. -/
theorem rot_dow (x : Nat) (kd n nth L f k n' : Int) (i : Nat) (hx : x < 128) (hk1 : 0 ≤ k) (hk2 : k ≤ 6)
    (hn : kd ≠ 0 → 0 ≤ n ∧ n ≤ 6 ∧ n' = (n + k) % 7) :
    dowP (rotTo x k.toNat 7) kd n' nth L ((f + k) % 7) i = dowP x kd n nth L f i := by
  unfold dowP
  by_cases h0 : kd = 0
  · rw [if_pos h0, if_pos h0]
    have hb := wd_bd f i
    rw [← rot_bit x k.toNat (wd f i).toNat hx (by omega) (by omega)]
    congr 1
    unfold wd
    omega
  · obtain ⟨a, b, c⟩ := hn h0
    have e : (wd ((f + k) % 7) i = n') ↔ (wd f i = n) := by unfold wd; omega
    rw [if_neg h0, if_neg h0]
    simp only [e]

end Go.Proofs.Qxb6616116a.Pl
