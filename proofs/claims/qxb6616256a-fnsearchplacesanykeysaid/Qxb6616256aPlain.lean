/-
  The plain mathematics: keys (form, whole, name) and their order; what a search in a sorted row finds. No walk here.
-/
import Derived.Lib.Bytealg
namespace Go.Proofs.Qxb6616256a.Pl
open Go.Lib (compareBytes)

theorem cb_cons (a b : UInt8) (as bs : List UInt8) : compareBytes (a :: as) (b :: bs) = if a < b then -1 else if b < a then 1 else compareBytes as bs := rfl

theorem u8_tri (a b : UInt8) : a < b ∨ a = b ∨ b < a := by
  simp only [UInt8.lt_iff_toNat_lt, ← UInt8.toNat_inj]; omega

theorem cb_range : ∀ a b : List UInt8, compareBytes a b = -1 ∨ compareBytes a b = 0 ∨ compareBytes a b = 1
  | [], [] => Or.inr (Or.inl rfl)
  | [], _ :: _ => Or.inl rfl
  | _ :: _, [] => Or.inr (Or.inr rfl)
  | a :: as, b :: bs => by
    rw [cb_cons]; split
    · exact Or.inl rfl
    · split
      · exact Or.inr (Or.inr rfl)
      · exact cb_range as bs

theorem cb_refl : ∀ a : List UInt8, compareBytes a a = 0
  | [] => rfl
  | a :: as => by rw [cb_cons, if_neg (UInt8.lt_irrefl a), if_neg (UInt8.lt_irrefl a)]; exact cb_refl as

theorem cb_flip : ∀ a b : List UInt8, compareBytes b a = - compareBytes a b
  | [], [] => rfl
  | [], _ :: _ => rfl
  | _ :: _, [] => rfl
  | a :: as, b :: bs => by
    rw [cb_cons, cb_cons]
    rcases u8_tri a b with h | h | h
    · rw [if_neg (UInt8.lt_asymm h), if_pos h, if_pos h]; rfl
    · subst h; rw [if_neg (UInt8.lt_irrefl a), if_neg (UInt8.lt_irrefl a), if_neg (UInt8.lt_irrefl a), if_neg (UInt8.lt_irrefl a)]; exact cb_flip as bs
    · rw [if_pos h, if_neg (UInt8.lt_asymm h), if_pos h]

theorem cb_eq : ∀ a b : List UInt8, compareBytes a b = 0 → a = b
  | [], [], _ => rfl
  | [], _ :: _, h => by cases h
  | _ :: _, [], h => by cases h
  | a :: as, b :: bs, h => by
    rw [cb_cons] at h
    rcases u8_tri a b with g | g | g
    · rw [if_pos g] at h; cases h
    · subst g; rw [if_neg (UInt8.lt_irrefl a), if_neg (UInt8.lt_irrefl a)] at h; rw [cb_eq as bs h]
    · rw [if_neg (UInt8.lt_asymm g), if_pos g] at h; cases h

theorem cb_trans : ∀ a b c : List UInt8, compareBytes a b < 0 → compareBytes b c < 0 → compareBytes a c < 0
  | [], [], _, h, _ => absurd h (by decide)
  | [], _ :: _, [], _, g => absurd (show (1 : Int) < 0 from g) (by decide)
  | [], _ :: _, _ :: _, _, _ => show (-1 : Int) < 0 by decide
  | _ :: _, [], _, h, _ => absurd (show (1 : Int) < 0 from h) (by decide)
  | _ :: _, _ :: _, [], _, g => absurd (show (1 : Int) < 0 from g) (by decide)
  | a :: as, b :: bs, c :: cs, h, g => by
    rw [cb_cons] at h g ⊢
    rcases u8_tri a b with p | p | p
    · rcases u8_tri b c with q | q | q
      · rw [if_pos (UInt8.lt_trans p q)]; decide
      · subst q; rw [if_pos p]; decide
      · rw [if_neg (UInt8.lt_asymm q), if_pos q] at g; exact absurd g (by decide)
    · subst p
      rw [if_neg (UInt8.lt_irrefl a), if_neg (UInt8.lt_irrefl a)] at h
      rcases u8_tri a c with q | q | q
      · rw [if_pos q]; decide
      · subst q
        rw [if_neg (UInt8.lt_irrefl a), if_neg (UInt8.lt_irrefl a)] at g ⊢
        exact cb_trans as bs cs h g
      · rw [if_neg (UInt8.lt_asymm q), if_pos q] at g; exact absurd g (by decide)
    · rw [if_neg (UInt8.lt_asymm p), if_pos p] at h; exact absurd h (by decide)

/-- A key: form, whole, name. -/
structure Key where
  form : List UInt8
  whole : Bool
  name : List UInt8

/-- Whole before not whole. -/
def bc (x y : Bool) : Int := if x = y then 0 else if x then -1 else 1

def kc (x y : Key) : Int :=
  if compareBytes x.form y.form = 0 then (if bc x.whole y.whole = 0 then compareBytes x.name y.name else bc x.whole y.whole) else compareBytes x.form y.form

theorem bc_range (x y : Bool) : bc x y = -1 ∨ bc x y = 0 ∨ bc x y = 1 := by cases x <;> cases y <;> decide
theorem bc_refl (x : Bool) : bc x x = 0 := by cases x <;> decide
theorem bc_flip (x y : Bool) : bc y x = - bc x y := by cases x <;> cases y <;> decide
theorem bc_eq (x y : Bool) (h : bc x y = 0) : x = y := by revert h; cases x <;> cases y <;> decide
theorem bc_trans (x y z : Bool) (h : bc x y < 0) (g : bc y z < 0) : bc x z < 0 := by revert h g; cases x <;> cases y <;> cases z <;> decide

theorem kc_range (x y : Key) : kc x y = -1 ∨ kc x y = 0 ∨ kc x y = 1 := by
  unfold kc
  have := cb_range x.form y.form
  have := cb_range x.name y.name
  have := bc_range x.whole y.whole
  repeat' split
  all_goals assumption

theorem kc_refl (x : Key) : kc x x = 0 := by
  unfold kc; rw [cb_refl, if_pos rfl, bc_refl, if_pos rfl, cb_refl]

theorem kc_flip (x y : Key) : kc y x = - kc x y := by
  unfold kc
  rw [cb_flip x.form y.form, cb_flip x.name y.name, bc_flip x.whole y.whole]
  repeat' split
  all_goals omega

theorem lex2 (f1 f2 f3 m1 m2 m3 : Int) (a1 : f1 = 0 → f3 = f2) (a2 : f2 = 0 → f3 = f1) (a3 : f1 < 0 → f2 < 0 → f3 < 0)
    (b : m1 ≤ 0 → m2 ≤ 0 → m3 ≤ 0 ∧ (m1 < 0 ∨ m2 < 0 → m3 < 0)) :
    (if f1 = 0 then m1 else f1) ≤ 0 → (if f2 = 0 then m2 else f2) ≤ 0 →
    (if f3 = 0 then m3 else f3) ≤ 0 ∧ ((if f1 = 0 then m1 else f1) < 0 ∨ (if f2 = 0 then m2 else f2) < 0 → (if f3 = 0 then m3 else f3) < 0) := by
  by_cases p1 : f1 = 0
  · have e := a1 p1
    rw [if_pos p1]
    by_cases p2 : f2 = 0
    · rw [if_pos p2, if_pos (by omega)]; exact b
    · rw [if_neg p2, if_neg (by omega), e]; intro _ _; omega
  · rw [if_neg p1]
    by_cases p2 : f2 = 0
    · have e := a2 p2
      rw [if_pos p2, if_neg (by omega), e]; intro _ _; omega
    · rw [if_neg p2]; intro g1 g2
      have e := a3 (by omega) (by omega)
      rw [if_neg (by omega)]; omega

theorem cb_le_trans (x y z : List UInt8) (h1 : compareBytes x y ≤ 0) (h2 : compareBytes y z ≤ 0) : compareBytes x z ≤ 0 ∧ (compareBytes x y < 0 ∨ compareBytes y z < 0 → compareBytes x z < 0) := by
  by_cases p1 : compareBytes x y = 0
  · rw [cb_eq _ _ p1, cb_refl]; omega
  · by_cases p2 : compareBytes y z = 0
    · rw [← cb_eq _ _ p2, cb_refl]; omega
    · have := cb_trans x y z (by omega) (by omega); omega

theorem kc_le_trans (x y z : Key) : kc x y ≤ 0 → kc y z ≤ 0 → kc x z ≤ 0 ∧ (kc x y < 0 ∨ kc y z < 0 → kc x z < 0) :=
  lex2 _ _ _ _ _ _ (fun e => by rw [cb_eq _ _ e]) (fun e => by rw [cb_eq _ _ e]) (cb_trans _ _ _)
    (lex2 _ _ _ _ _ _ (fun e => by rw [bc_eq _ _ e]) (fun e => by rw [bc_eq _ _ e]) (bc_trans _ _ _) (cb_le_trans _ _ _))

/-! ### a sorted row of keys -/
def Sorted (K : Nat → Key) (n : Nat) : Prop := ∀ j, j + 1 < n → kc (K j) (K (j + 1)) ≤ 0

theorem sorted_le {K : Nat → Key} {n : Nat} (h : Sorted K n) (i d : Nat) (hd : i + d < n) : kc (K i) (K (i + d)) ≤ 0 := by
  induction d with
  | zero => rw [Nat.add_zero, kc_refl]; exact Int.le_refl _
  | succ d ih => exact (kc_le_trans _ _ _ (ih (by omega)) (h (i + d) (by omega))).1

theorem sorted_mono {K : Nat → Key} {n : Nat} (h : Sorted K n) (q : Key) (i j : Nat) (hij : i ≤ j) (hj : j < n) (hi : 0 ≤ kc (K i) q) : 0 ≤ kc (K j) q := by
  have h1 : kc (K i) (K j) ≤ 0 := by have := sorted_le h i (j - i) (by omega); rwa [show i + (j - i) = j by omega] at this
  have h2 := kc_flip (K i) q
  have h3 := (kc_le_trans q (K i) (K j) (by omega) h1).1
  have h4 := kc_flip q (K j)
  omega

/-- What a search answers: the number of keys that come before q. -/
def Found (K : Nat → Key) (n : Nat) (q : Key) (i : Nat) : Prop := i ≤ n ∧ (∀ j, j < i → kc (K j) q < 0) ∧ (∀ j, i ≤ j → j < n → 0 ≤ kc (K j) q)

theorem found_self {K : Nat → Key} {n : Nat} {q : Key} {i i2 : Nat} (h : Found K n q i) (hi : i < n) (g : Found K n (K i) i2) : i2 = i := by
  obtain ⟨a1, a2, a3⟩ := h
  obtain ⟨b1, b2, b3⟩ := g
  rcases Nat.lt_trichotomy i2 i with e | e | e
  · have c1 := a2 i2 e
    have c2 := a3 i (Nat.le_refl _) hi
    have c3 := kc_flip (K i) q
    have c4 := (kc_le_trans (K i2) q (K i) (by omega) (by omega)).2 (Or.inl c1)
    have c5 := b3 i2 (Nat.le_refl _) (by omega)
    omega
  · exact e
  · have c1 := b2 i e
    rw [kc_refl] at c1
    omega

end Go.Proofs.Qxb6616256a.Pl
