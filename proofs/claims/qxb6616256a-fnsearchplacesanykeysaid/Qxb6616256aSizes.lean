import Derived.Test.Qxb6616256aZZ
namespace Go.Proofs.Qxb6616256a
open Go.RowKit
set_option maxHeartbeats 1000000

/-- What the law's own bound answers. -/
def BytesPost (w : World) (t f nm : ByteArray) (n1 n2 n3 n4 n5 n6 : Nat) (e : Ending) (w' : World) : Prop :=
  ∃ b, e = .returned (.bool b) ∧ w' = w ∧ (b = true → t.size ≤ 1048576 ∧ f.size ≤ 1048576 ∧ nm.size ≤ 1048576 ∧ n1 ≤ 1048576 ∧ n2 ≤ 1048576 ∧ n3 ≤ 1048576 ∧ n4 ≤ 1048576 ∧ n5 ≤ 1048576 ∧ n6 ≤ 1048576)

theorem BytesPost.no (w : World) (t f nm : ByteArray) (n1 n2 n3 n4 n5 n6 : Nat) : BytesPost w t f nm n1 n2 n3 n4 n5 n6 (.returned (.bool false)) w := ⟨false, rfl, rfl, fun h => by cases h⟩

theorem bytes_any (t f nm : ByteArray) (wh : Bool) (a1 a2 a3 a4 a5 a6 : Option Addr) (n1 c1 n2 c2 n3 c3 n4 c4 n5 c5 n6 c6 : Nat) (w : World)
    (h0 : t.size ≤ maxLen) (h7 : f.size ≤ maxLen) (h9 : nm.size ≤ maxLen) (h1 : n1 ≤ maxLen) (h2 : n2 ≤ maxLen) (h3 : n3 ≤ maxLen) (h4 : n4 ≤ maxLen) (h5 : n5 ≤ maxLen) (h6 : n6 ≤ maxLen) :
    Calls Try.prog 4 #[.string t, .slice a1 n1 c1, .slice a2 n2 c2, .slice a3 n3 c3, .slice a4 n4 c4, .slice a5 n5 c5, .slice a6 n6 c6, .string f, .bool wh, .string nm] w (BytesPost w t f nm n1 n2 n3 n4 n5 n6) := by
  unfold maxLen at h0 h1 h2 h3 h4 h5 h6 h7 h9
  go_enter Try.func4, Try.ntmps4
  go_wp2
  all_goals
    go_ret
    first
    | exact BytesPost.no ..
    | exact ⟨true, rfl, rfl, fun _ => by omega⟩

def AddPost (w : World) (e : Ending) (w' : World) : Prop :=
  ∃ (t : Int) (b : Bool), e = .returned (.tuple #[.int .i64 t, .bool b]) ∧ w' = w ∧ 0 ≤ t ∧ t ≤ 1048576

theorem add_any (t n k : Int) (w : World) (h1 : 0 ≤ t) (h2 : t ≤ 1048576) (h3 : 0 ≤ n) (h4 : n ≤ 9223372036854775807) (h5 : k = 1 ∨ k = 8) :
    Calls Try.prog 6 #[.int .i64 t, .int .i64 n, .int .i64 k] w (AddPost w) := by
  rcases h5 with rfl | rfl
  all_goals
    go_enter Try.func6, Try.ntmps6
    go_wp2
    all_goals
      go_ret2
      exact ⟨_, _, rfl, rfl, by omega, by omega⟩

theorem docSize_any (t : ByteArray) (a1 a2 a3 a4 a5 a6 : Option Addr) (n1 c1 n2 c2 n3 c3 n4 c4 n5 c5 n6 c6 : Nat) (w : World)
    (h0 : t.size ≤ 1048576) (h1 : n1 ≤ 1048576) (h2 : n2 ≤ 1048576) (h3 : n3 ≤ 1048576) (h4 : n4 ≤ 1048576) (h5 : n5 ≤ 1048576) (h6 : n6 ≤ 1048576) :
    Calls Try.prog 5 #[.int .i64 0, .string t, .slice a1 n1 c1, .slice a2 n2 c2, .slice a3 n3 c3, .slice a4 n4 c4, .slice a5 n5 c5, .slice a6 n6 c6] w (AddPost w) := by
  go_enter Try.func5, Try.ntmps5
  go_wp2_with (go_at_call 6; refine (add_any _ _ _ _ (by omega) (by omega) (by omega) (by omega) (by decide)).mono ?_; rintro e w' ⟨t', b, rfl, rfl, g1, g2⟩; cases b)
  all_goals
    go_ret2
    exact ⟨_, _, rfl, rfl, by omega, by omega⟩
end Go.Proofs.Qxb6616256a
