import Derived.Test.Qxb6616116aMonth
namespace Go.Proofs.Qxb6616116a
open Go.RowKit
set_option maxHeartbeats 1000000

def Fit (s x : Nat) (k n k' n' nth' : Int) : Prop := s < 4294967296 ∧ x < 128 ∧ (k = 0 ∨ k = 1 ∨ k = 2 ∨ (k = 3 ∧ 1 ≤ n ∧ n ≤ 31)) ∧
  (k' = 0 ∨ (k' = 4 ∧ 0 ≤ n' ∧ n' ≤ 6) ∨ (k' = 5 ∧ 0 ≤ n' ∧ n' ≤ 6) ∨ (k' = 6 ∧ 0 ≤ n' ∧ n' ≤ 6 ∧ 1 ≤ nth' ∧ nth' ≤ 5))

def FitPost (w : World) (s x : Nat) (k n k' n' nth' : Int) (e : Ending) (w' : World) : Prop :=
  ∃ b, e = .returned (.bool b) ∧ w' = w ∧ (b = true → Fit s x k n k' n' nth')

theorem FitPost.no (w : World) (s x : Nat) (k n k' n' nth' : Int) : FitPost w s x k n k' n' nth' (.returned (.bool false)) w := ⟨false, rfl, rfl, fun h => by cases h⟩
theorem FitPost.yes {w : World} {s x : Nat} {k n k' n' nth' : Int} (h : Fit s x k n k' n' nth') : FitPost w s x k n k' n' nth' (.returned (.bool true)) w := ⟨true, rfl, rfl, fun _ => h⟩

theorem fits_of (a m : Nat) (j : Nat) (ha : a < 18446744073709551616) (hm : m < 18446744073709551616) (hmj : m < 2 ^ j) (h : bits .andNot .u64 (a : Int) (m : Int) = 0) : a < 2 ^ j := by
  rw [u64_andNot_nat a m ha hm] at h
  have h0 : a &&& (18446744073709551615 - m) = 0 := by omega
  apply Nat.lt_pow_two_of_testBit
  intro i hi
  have hb := congrArg (fun t => t.testBit i) h0
  simp only [Nat.testBit_and, Nat.zero_testBit] at hb
  rw [show 18446744073709551615 - m = 2 ^ 64 - (m + 1) by omega, Nat.testBit_two_pow_sub_succ (by omega)] at hb
  by_cases hi64 : i < 64
  · rw [decide_eq_true hi64, Nat.testBit_lt_two_pow (Nat.lt_of_lt_of_le hmj (Nat.pow_le_pow_right (by decide) hi))] at hb
    simpa using hb
  · exact Nat.testBit_lt_two_pow (Nat.lt_of_lt_of_le ha (show 2 ^ 64 ≤ 2 ^ i from Nat.pow_le_pow_right (by decide) (by omega)))

theorem fit_t1 (s x : Nat) (k n k' n' nth' : Int) (r r' : Bool) (w : World) (h : (bits .andNot .u64 (s : Int) 4294967294 != 0) = true) :
    Calls Try.prog 15 #[.int .u64 s, .int .u64 x, .int .u8 k, .int .i64 n, .int .u8 k', .int .i64 n', .int .i64 nth', .bool r, .bool r'] w (FitPost w s x k n k' n' nth') := by
  go_enter Try.func15, Try.ntmps15
  go_wp2
  go_ret
  exact FitPost.no ..

theorem fit_t2 (s x : Nat) (k n k' n' nth' : Int) (r r' : Bool) (w : World) (h : (bits .andNot .u64 (s : Int) 4294967294 != 0) = false) (h' : (bits .andNot .u64 (x : Int) 127 != 0) = true) :
    Calls Try.prog 15 #[.int .u64 s, .int .u64 x, .int .u8 k, .int .i64 n, .int .u8 k', .int .i64 n', .int .i64 nth', .bool r, .bool r'] w (FitPost w s x k n k' n' nth') := by
  go_enter Try.func15, Try.ntmps15
  go_wp2
  go_ret
  exact FitPost.no ..

theorem fit_k (s x : Nat) (k n k' n' nth' : Int) (r r' : Bool) (w : World) (h : (bits .andNot .u64 (s : Int) 4294967294 != 0) = false) (h' : (bits .andNot .u64 (x : Int) 127 != 0) = false)
    (k0 : (k == 0) = false) (k1 : (k == 1) = false) (k2 : (k == 2) = false) (k3 : (k == 3) = false) :
    Calls Try.prog 15 #[.int .u64 s, .int .u64 x, .int .u8 k, .int .i64 n, .int .u8 k', .int .i64 n', .int .i64 nth', .bool r, .bool r'] w (FitPost w s x k n k' n' nth') := by
  go_enter Try.func15, Try.ntmps15
  go_wp2
  go_ret
  exact FitPost.no ..

theorem fit_0_0 (s x : Nat) (n n' nth' : Int) (r r' : Bool) (w : World) (hs : s < 4294967296) (hx : x < 128) (h : (bits .andNot .u64 (s : Int) 4294967294 != 0) = false) (h' : (bits .andNot .u64 (x : Int) 127 != 0) = false) :
    Calls Try.prog 15 #[.int .u64 s, .int .u64 x, .int .u8 0, .int .i64 n, .int .u8 0, .int .i64 n', .int .i64 nth', .bool r, .bool r'] w (FitPost w s x 0 n 0 n' nth') := by
  have Hs : Hid (s < 4294967296 ∧ x < 128) := ⟨hs, hx⟩
  clear hs hx
  go_enter Try.func15, Try.ntmps15
  go_wp2
  all_goals
    go_ret
    first
    | exact FitPost.no ..
    | exact FitPost.yes ⟨Hs.out.1, Hs.out.2, by omega, by omega⟩

theorem fit_0_4 (s x : Nat) (n n' nth' : Int) (r r' : Bool) (w : World) (hs : s < 4294967296) (hx : x < 128) (h : (bits .andNot .u64 (s : Int) 4294967294 != 0) = false) (h' : (bits .andNot .u64 (x : Int) 127 != 0) = false) :
    Calls Try.prog 15 #[.int .u64 s, .int .u64 x, .int .u8 0, .int .i64 n, .int .u8 4, .int .i64 n', .int .i64 nth', .bool r, .bool r'] w (FitPost w s x 0 n 4 n' nth') := by
  have Hs : Hid (s < 4294967296 ∧ x < 128) := ⟨hs, hx⟩
  clear hs hx
  go_enter Try.func15, Try.ntmps15
  go_wp2
  all_goals
    go_ret
    first
    | exact FitPost.no ..
    | exact FitPost.yes ⟨Hs.out.1, Hs.out.2, by omega, by omega⟩

theorem fit_0_5 (s x : Nat) (n n' nth' : Int) (r r' : Bool) (w : World) (hs : s < 4294967296) (hx : x < 128) (h : (bits .andNot .u64 (s : Int) 4294967294 != 0) = false) (h' : (bits .andNot .u64 (x : Int) 127 != 0) = false) :
    Calls Try.prog 15 #[.int .u64 s, .int .u64 x, .int .u8 0, .int .i64 n, .int .u8 5, .int .i64 n', .int .i64 nth', .bool r, .bool r'] w (FitPost w s x 0 n 5 n' nth') := by
  have Hs : Hid (s < 4294967296 ∧ x < 128) := ⟨hs, hx⟩
  clear hs hx
  go_enter Try.func15, Try.ntmps15
  go_wp2
  all_goals
    go_ret
    first
    | exact FitPost.no ..
    | exact FitPost.yes ⟨Hs.out.1, Hs.out.2, by omega, by omega⟩

theorem fit_0_6 (s x : Nat) (n n' nth' : Int) (r r' : Bool) (w : World) (hs : s < 4294967296) (hx : x < 128) (h : (bits .andNot .u64 (s : Int) 4294967294 != 0) = false) (h' : (bits .andNot .u64 (x : Int) 127 != 0) = false) :
    Calls Try.prog 15 #[.int .u64 s, .int .u64 x, .int .u8 0, .int .i64 n, .int .u8 6, .int .i64 n', .int .i64 nth', .bool r, .bool r'] w (FitPost w s x 0 n 6 n' nth') := by
  have Hs : Hid (s < 4294967296 ∧ x < 128) := ⟨hs, hx⟩
  clear hs hx
  go_enter Try.func15, Try.ntmps15
  go_wp2
  all_goals
    go_ret
    first
    | exact FitPost.no ..
    | exact FitPost.yes ⟨Hs.out.1, Hs.out.2, by omega, by omega⟩

theorem fit_0_o (s x : Nat) (n k' n' nth' : Int) (r r' : Bool) (w : World) (hs : s < 4294967296) (hx : x < 128) (h : (bits .andNot .u64 (s : Int) 4294967294 != 0) = false) (h' : (bits .andNot .u64 (x : Int) 127 != 0) = false)
    (k0 : (k' == 0) = false) (k4 : (k' == 4) = false) (k5 : (k' == 5) = false) (k6 : (k' == 6) = false) :
    Calls Try.prog 15 #[.int .u64 s, .int .u64 x, .int .u8 0, .int .i64 n, .int .u8 k', .int .i64 n', .int .i64 nth', .bool r, .bool r'] w (FitPost w s x 0 n k' n' nth') := by
  have Hs : Hid (s < 4294967296 ∧ x < 128) := ⟨hs, hx⟩
  clear hs hx
  go_enter Try.func15, Try.ntmps15
  go_wp2
  all_goals
    go_ret
    first
    | exact FitPost.no ..
    | exact FitPost.yes ⟨Hs.out.1, Hs.out.2, by omega, by omega⟩

theorem fit_1_0 (s x : Nat) (n n' nth' : Int) (r r' : Bool) (w : World) (hs : s < 4294967296) (hx : x < 128) (h : (bits .andNot .u64 (s : Int) 4294967294 != 0) = false) (h' : (bits .andNot .u64 (x : Int) 127 != 0) = false) :
    Calls Try.prog 15 #[.int .u64 s, .int .u64 x, .int .u8 1, .int .i64 n, .int .u8 0, .int .i64 n', .int .i64 nth', .bool r, .bool r'] w (FitPost w s x 1 n 0 n' nth') := by
  have Hs : Hid (s < 4294967296 ∧ x < 128) := ⟨hs, hx⟩
  clear hs hx
  go_enter Try.func15, Try.ntmps15
  go_wp2
  all_goals
    go_ret
    first
    | exact FitPost.no ..
    | exact FitPost.yes ⟨Hs.out.1, Hs.out.2, by omega, by omega⟩

theorem fit_1_4 (s x : Nat) (n n' nth' : Int) (r r' : Bool) (w : World) (hs : s < 4294967296) (hx : x < 128) (h : (bits .andNot .u64 (s : Int) 4294967294 != 0) = false) (h' : (bits .andNot .u64 (x : Int) 127 != 0) = false) :
    Calls Try.prog 15 #[.int .u64 s, .int .u64 x, .int .u8 1, .int .i64 n, .int .u8 4, .int .i64 n', .int .i64 nth', .bool r, .bool r'] w (FitPost w s x 1 n 4 n' nth') := by
  have Hs : Hid (s < 4294967296 ∧ x < 128) := ⟨hs, hx⟩
  clear hs hx
  go_enter Try.func15, Try.ntmps15
  go_wp2
  all_goals
    go_ret
    first
    | exact FitPost.no ..
    | exact FitPost.yes ⟨Hs.out.1, Hs.out.2, by omega, by omega⟩

theorem fit_1_5 (s x : Nat) (n n' nth' : Int) (r r' : Bool) (w : World) (hs : s < 4294967296) (hx : x < 128) (h : (bits .andNot .u64 (s : Int) 4294967294 != 0) = false) (h' : (bits .andNot .u64 (x : Int) 127 != 0) = false) :
    Calls Try.prog 15 #[.int .u64 s, .int .u64 x, .int .u8 1, .int .i64 n, .int .u8 5, .int .i64 n', .int .i64 nth', .bool r, .bool r'] w (FitPost w s x 1 n 5 n' nth') := by
  have Hs : Hid (s < 4294967296 ∧ x < 128) := ⟨hs, hx⟩
  clear hs hx
  go_enter Try.func15, Try.ntmps15
  go_wp2
  all_goals
    go_ret
    first
    | exact FitPost.no ..
    | exact FitPost.yes ⟨Hs.out.1, Hs.out.2, by omega, by omega⟩

theorem fit_1_6 (s x : Nat) (n n' nth' : Int) (r r' : Bool) (w : World) (hs : s < 4294967296) (hx : x < 128) (h : (bits .andNot .u64 (s : Int) 4294967294 != 0) = false) (h' : (bits .andNot .u64 (x : Int) 127 != 0) = false) :
    Calls Try.prog 15 #[.int .u64 s, .int .u64 x, .int .u8 1, .int .i64 n, .int .u8 6, .int .i64 n', .int .i64 nth', .bool r, .bool r'] w (FitPost w s x 1 n 6 n' nth') := by
  have Hs : Hid (s < 4294967296 ∧ x < 128) := ⟨hs, hx⟩
  clear hs hx
  go_enter Try.func15, Try.ntmps15
  go_wp2
  all_goals
    go_ret
    first
    | exact FitPost.no ..
    | exact FitPost.yes ⟨Hs.out.1, Hs.out.2, by omega, by omega⟩

theorem fit_1_o (s x : Nat) (n k' n' nth' : Int) (r r' : Bool) (w : World) (hs : s < 4294967296) (hx : x < 128) (h : (bits .andNot .u64 (s : Int) 4294967294 != 0) = false) (h' : (bits .andNot .u64 (x : Int) 127 != 0) = false)
    (k0 : (k' == 0) = false) (k4 : (k' == 4) = false) (k5 : (k' == 5) = false) (k6 : (k' == 6) = false) :
    Calls Try.prog 15 #[.int .u64 s, .int .u64 x, .int .u8 1, .int .i64 n, .int .u8 k', .int .i64 n', .int .i64 nth', .bool r, .bool r'] w (FitPost w s x 1 n k' n' nth') := by
  have Hs : Hid (s < 4294967296 ∧ x < 128) := ⟨hs, hx⟩
  clear hs hx
  go_enter Try.func15, Try.ntmps15
  go_wp2
  all_goals
    go_ret
    first
    | exact FitPost.no ..
    | exact FitPost.yes ⟨Hs.out.1, Hs.out.2, by omega, by omega⟩

theorem fit_2_0 (s x : Nat) (n n' nth' : Int) (r r' : Bool) (w : World) (hs : s < 4294967296) (hx : x < 128) (h : (bits .andNot .u64 (s : Int) 4294967294 != 0) = false) (h' : (bits .andNot .u64 (x : Int) 127 != 0) = false) :
    Calls Try.prog 15 #[.int .u64 s, .int .u64 x, .int .u8 2, .int .i64 n, .int .u8 0, .int .i64 n', .int .i64 nth', .bool r, .bool r'] w (FitPost w s x 2 n 0 n' nth') := by
  have Hs : Hid (s < 4294967296 ∧ x < 128) := ⟨hs, hx⟩
  clear hs hx
  go_enter Try.func15, Try.ntmps15
  go_wp2
  all_goals
    go_ret
    first
    | exact FitPost.no ..
    | exact FitPost.yes ⟨Hs.out.1, Hs.out.2, by omega, by omega⟩

theorem fit_2_4 (s x : Nat) (n n' nth' : Int) (r r' : Bool) (w : World) (hs : s < 4294967296) (hx : x < 128) (h : (bits .andNot .u64 (s : Int) 4294967294 != 0) = false) (h' : (bits .andNot .u64 (x : Int) 127 != 0) = false) :
    Calls Try.prog 15 #[.int .u64 s, .int .u64 x, .int .u8 2, .int .i64 n, .int .u8 4, .int .i64 n', .int .i64 nth', .bool r, .bool r'] w (FitPost w s x 2 n 4 n' nth') := by
  have Hs : Hid (s < 4294967296 ∧ x < 128) := ⟨hs, hx⟩
  clear hs hx
  go_enter Try.func15, Try.ntmps15
  go_wp2
  all_goals
    go_ret
    first
    | exact FitPost.no ..
    | exact FitPost.yes ⟨Hs.out.1, Hs.out.2, by omega, by omega⟩

theorem fit_2_5 (s x : Nat) (n n' nth' : Int) (r r' : Bool) (w : World) (hs : s < 4294967296) (hx : x < 128) (h : (bits .andNot .u64 (s : Int) 4294967294 != 0) = false) (h' : (bits .andNot .u64 (x : Int) 127 != 0) = false) :
    Calls Try.prog 15 #[.int .u64 s, .int .u64 x, .int .u8 2, .int .i64 n, .int .u8 5, .int .i64 n', .int .i64 nth', .bool r, .bool r'] w (FitPost w s x 2 n 5 n' nth') := by
  have Hs : Hid (s < 4294967296 ∧ x < 128) := ⟨hs, hx⟩
  clear hs hx
  go_enter Try.func15, Try.ntmps15
  go_wp2
  all_goals
    go_ret
    first
    | exact FitPost.no ..
    | exact FitPost.yes ⟨Hs.out.1, Hs.out.2, by omega, by omega⟩

theorem fit_2_6 (s x : Nat) (n n' nth' : Int) (r r' : Bool) (w : World) (hs : s < 4294967296) (hx : x < 128) (h : (bits .andNot .u64 (s : Int) 4294967294 != 0) = false) (h' : (bits .andNot .u64 (x : Int) 127 != 0) = false) :
    Calls Try.prog 15 #[.int .u64 s, .int .u64 x, .int .u8 2, .int .i64 n, .int .u8 6, .int .i64 n', .int .i64 nth', .bool r, .bool r'] w (FitPost w s x 2 n 6 n' nth') := by
  have Hs : Hid (s < 4294967296 ∧ x < 128) := ⟨hs, hx⟩
  clear hs hx
  go_enter Try.func15, Try.ntmps15
  go_wp2
  all_goals
    go_ret
    first
    | exact FitPost.no ..
    | exact FitPost.yes ⟨Hs.out.1, Hs.out.2, by omega, by omega⟩

theorem fit_2_o (s x : Nat) (n k' n' nth' : Int) (r r' : Bool) (w : World) (hs : s < 4294967296) (hx : x < 128) (h : (bits .andNot .u64 (s : Int) 4294967294 != 0) = false) (h' : (bits .andNot .u64 (x : Int) 127 != 0) = false)
    (k0 : (k' == 0) = false) (k4 : (k' == 4) = false) (k5 : (k' == 5) = false) (k6 : (k' == 6) = false) :
    Calls Try.prog 15 #[.int .u64 s, .int .u64 x, .int .u8 2, .int .i64 n, .int .u8 k', .int .i64 n', .int .i64 nth', .bool r, .bool r'] w (FitPost w s x 2 n k' n' nth') := by
  have Hs : Hid (s < 4294967296 ∧ x < 128) := ⟨hs, hx⟩
  clear hs hx
  go_enter Try.func15, Try.ntmps15
  go_wp2
  all_goals
    go_ret
    first
    | exact FitPost.no ..
    | exact FitPost.yes ⟨Hs.out.1, Hs.out.2, by omega, by omega⟩

theorem fit_3_0 (s x : Nat) (n n' nth' : Int) (r r' : Bool) (w : World) (hs : s < 4294967296) (hx : x < 128) (h : (bits .andNot .u64 (s : Int) 4294967294 != 0) = false) (h' : (bits .andNot .u64 (x : Int) 127 != 0) = false) :
    Calls Try.prog 15 #[.int .u64 s, .int .u64 x, .int .u8 3, .int .i64 n, .int .u8 0, .int .i64 n', .int .i64 nth', .bool r, .bool r'] w (FitPost w s x 3 n 0 n' nth') := by
  have Hs : Hid (s < 4294967296 ∧ x < 128) := ⟨hs, hx⟩
  clear hs hx
  go_enter Try.func15, Try.ntmps15
  go_wp2
  all_goals
    go_ret
    first
    | exact FitPost.no ..
    | exact FitPost.yes ⟨Hs.out.1, Hs.out.2, by omega, by omega⟩

theorem fit_3_4 (s x : Nat) (n n' nth' : Int) (r r' : Bool) (w : World) (hs : s < 4294967296) (hx : x < 128) (h : (bits .andNot .u64 (s : Int) 4294967294 != 0) = false) (h' : (bits .andNot .u64 (x : Int) 127 != 0) = false) :
    Calls Try.prog 15 #[.int .u64 s, .int .u64 x, .int .u8 3, .int .i64 n, .int .u8 4, .int .i64 n', .int .i64 nth', .bool r, .bool r'] w (FitPost w s x 3 n 4 n' nth') := by
  have Hs : Hid (s < 4294967296 ∧ x < 128) := ⟨hs, hx⟩
  clear hs hx
  go_enter Try.func15, Try.ntmps15
  go_wp2
  all_goals
    go_ret
    first
    | exact FitPost.no ..
    | exact FitPost.yes ⟨Hs.out.1, Hs.out.2, by omega, by omega⟩

theorem fit_3_5 (s x : Nat) (n n' nth' : Int) (r r' : Bool) (w : World) (hs : s < 4294967296) (hx : x < 128) (h : (bits .andNot .u64 (s : Int) 4294967294 != 0) = false) (h' : (bits .andNot .u64 (x : Int) 127 != 0) = false) :
    Calls Try.prog 15 #[.int .u64 s, .int .u64 x, .int .u8 3, .int .i64 n, .int .u8 5, .int .i64 n', .int .i64 nth', .bool r, .bool r'] w (FitPost w s x 3 n 5 n' nth') := by
  have Hs : Hid (s < 4294967296 ∧ x < 128) := ⟨hs, hx⟩
  clear hs hx
  go_enter Try.func15, Try.ntmps15
  go_wp2
  all_goals
    go_ret
    first
    | exact FitPost.no ..
    | exact FitPost.yes ⟨Hs.out.1, Hs.out.2, by omega, by omega⟩

theorem fit_3_6 (s x : Nat) (n n' nth' : Int) (r r' : Bool) (w : World) (hs : s < 4294967296) (hx : x < 128) (h : (bits .andNot .u64 (s : Int) 4294967294 != 0) = false) (h' : (bits .andNot .u64 (x : Int) 127 != 0) = false) :
    Calls Try.prog 15 #[.int .u64 s, .int .u64 x, .int .u8 3, .int .i64 n, .int .u8 6, .int .i64 n', .int .i64 nth', .bool r, .bool r'] w (FitPost w s x 3 n 6 n' nth') := by
  have Hs : Hid (s < 4294967296 ∧ x < 128) := ⟨hs, hx⟩
  clear hs hx
  go_enter Try.func15, Try.ntmps15
  go_wp2
  all_goals
    go_ret
    first
    | exact FitPost.no ..
    | exact FitPost.yes ⟨Hs.out.1, Hs.out.2, by omega, by omega⟩

theorem fit_3_o (s x : Nat) (n k' n' nth' : Int) (r r' : Bool) (w : World) (hs : s < 4294967296) (hx : x < 128) (h : (bits .andNot .u64 (s : Int) 4294967294 != 0) = false) (h' : (bits .andNot .u64 (x : Int) 127 != 0) = false)
    (k0 : (k' == 0) = false) (k4 : (k' == 4) = false) (k5 : (k' == 5) = false) (k6 : (k' == 6) = false) :
    Calls Try.prog 15 #[.int .u64 s, .int .u64 x, .int .u8 3, .int .i64 n, .int .u8 k', .int .i64 n', .int .i64 nth', .bool r, .bool r'] w (FitPost w s x 3 n k' n' nth') := by
  have Hs : Hid (s < 4294967296 ∧ x < 128) := ⟨hs, hx⟩
  clear hs hx
  go_enter Try.func15, Try.ntmps15
  go_wp2
  all_goals
    go_ret
    first
    | exact FitPost.no ..
    | exact FitPost.yes ⟨Hs.out.1, Hs.out.2, by omega, by omega⟩

theorem daysFit_any (s x : Nat) (k n k' n' nth' : Int) (r r' : Bool) (w : World) (hs : s < 18446744073709551616) (hx : x < 18446744073709551616) :
    Calls Try.prog 15 #[.int .u64 s, .int .u64 x, .int .u8 k, .int .i64 n, .int .u8 k', .int .i64 n', .int .i64 nth', .bool r, .bool r'] w (FitPost w s x k n k' n' nth') := by
  cases h : (bits .andNot .u64 (s : Int) 4294967294 != 0)
  · cases h' : (bits .andNot .u64 (x : Int) 127 != 0)
    · have gs := fits_of s 4294967294 32 hs (by decide) (by decide) (by simpa using h)
      have gx := fits_of x 127 7 hx (by decide) (by decide) (by simpa using h')
      by_cases k0 : k = 0
      · subst k0
        by_cases j0 : k' = 0
        · subst j0; exact fit_0_0 s x n n' nth' r r' w gs gx h h'
        by_cases j4 : k' = 4
        · subst j4; exact fit_0_4 s x n n' nth' r r' w gs gx h h'
        by_cases j5 : k' = 5
        · subst j5; exact fit_0_5 s x n n' nth' r r' w gs gx h h'
        by_cases j6 : k' = 6
        · subst j6; exact fit_0_6 s x n n' nth' r r' w gs gx h h'
        exact fit_0_o s x n k' n' nth' r r' w gs gx h h' (beq_eq_false_iff_ne.2 j0) (beq_eq_false_iff_ne.2 j4) (beq_eq_false_iff_ne.2 j5) (beq_eq_false_iff_ne.2 j6)
      by_cases k1 : k = 1
      · subst k1
        by_cases j0 : k' = 0
        · subst j0; exact fit_1_0 s x n n' nth' r r' w gs gx h h'
        by_cases j4 : k' = 4
        · subst j4; exact fit_1_4 s x n n' nth' r r' w gs gx h h'
        by_cases j5 : k' = 5
        · subst j5; exact fit_1_5 s x n n' nth' r r' w gs gx h h'
        by_cases j6 : k' = 6
        · subst j6; exact fit_1_6 s x n n' nth' r r' w gs gx h h'
        exact fit_1_o s x n k' n' nth' r r' w gs gx h h' (beq_eq_false_iff_ne.2 j0) (beq_eq_false_iff_ne.2 j4) (beq_eq_false_iff_ne.2 j5) (beq_eq_false_iff_ne.2 j6)
      by_cases k2 : k = 2
      · subst k2
        by_cases j0 : k' = 0
        · subst j0; exact fit_2_0 s x n n' nth' r r' w gs gx h h'
        by_cases j4 : k' = 4
        · subst j4; exact fit_2_4 s x n n' nth' r r' w gs gx h h'
        by_cases j5 : k' = 5
        · subst j5; exact fit_2_5 s x n n' nth' r r' w gs gx h h'
        by_cases j6 : k' = 6
        · subst j6; exact fit_2_6 s x n n' nth' r r' w gs gx h h'
        exact fit_2_o s x n k' n' nth' r r' w gs gx h h' (beq_eq_false_iff_ne.2 j0) (beq_eq_false_iff_ne.2 j4) (beq_eq_false_iff_ne.2 j5) (beq_eq_false_iff_ne.2 j6)
      by_cases k3 : k = 3
      · subst k3
        by_cases j0 : k' = 0
        · subst j0; exact fit_3_0 s x n n' nth' r r' w gs gx h h'
        by_cases j4 : k' = 4
        · subst j4; exact fit_3_4 s x n n' nth' r r' w gs gx h h'
        by_cases j5 : k' = 5
        · subst j5; exact fit_3_5 s x n n' nth' r r' w gs gx h h'
        by_cases j6 : k' = 6
        · subst j6; exact fit_3_6 s x n n' nth' r r' w gs gx h h'
        exact fit_3_o s x n k' n' nth' r r' w gs gx h h' (beq_eq_false_iff_ne.2 j0) (beq_eq_false_iff_ne.2 j4) (beq_eq_false_iff_ne.2 j5) (beq_eq_false_iff_ne.2 j6)
      exact fit_k s x k n k' n' nth' r r' w h h' (beq_eq_false_iff_ne.2 k0) (beq_eq_false_iff_ne.2 k1) (beq_eq_false_iff_ne.2 k2) (beq_eq_false_iff_ne.2 k3)
    · exact fit_t2 s x k n k' n' nth' r r' w h h'
  · exact fit_t1 s x k n k' n' nth' r r' w h

end Go.Proofs.Qxb6616116a
