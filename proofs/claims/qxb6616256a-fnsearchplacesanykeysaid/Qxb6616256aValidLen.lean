import Derived.Test.Qxb6616256aSizes
namespace Go.Proofs.Qxb6616256a
open Go.RowKit
set_option maxHeartbeats 1000000
set_option maxRecDepth 100000

/-- The entries that six rows of fields spell. -/
def entOf (A N V F : Nat → Nat) (W S : Nat → Bool) (i : Nat) : Ent := ⟨A i, N i, V i, F i, W i, S i⟩

def ValidPost (w : World) (t : ByteArray) (ent : Nat → Ent) (n1 n2 n3 n4 n5 n6 : Nat) (e : Ending) (w' : World) : Prop :=
  ∃ b, e = .returned (.bool b) ∧ Below w.heap.size w w' ∧ (b = true → n2 = n1 ∧ n3 = n1 ∧ n4 = n1 ∧ n5 = n1 ∧ n6 = n1 ∧ (∀ i, i < n1 → (ent i).Fits t) ∧ Pl.Sorted (keyAt ent t) n1)

theorem ValidPost.no {w w' : World} (t : ByteArray) (ent : Nat → Ent) (n1 n2 n3 n4 n5 n6 : Nat) (h : Below w.heap.size w w') : ValidPost w t ent n1 n2 n3 n4 n5 n6 (.returned (.bool false)) w' := ⟨false, rfl, h, fun h => by cases h⟩

theorem valid_len (t : ByteArray) (ent : Nat → Ent) (a1 a2 a3 a4 a5 a6 : Option Addr) (n1 c1 n2 c2 n3 c3 n4 c4 n5 c5 n6 c6 : Nat) (w : World)
    (hne : ¬ (n2 = n1 ∧ n3 = n1 ∧ n4 = n1 ∧ n5 = n1 ∧ n6 = n1)) :
    Calls Try.prog 7 #[.string t, .slice a1 n1 c1, .slice a2 n2 c2, .slice a3 n3 c3, .slice a4 n4 c4, .slice a5 n5 c5, .slice a6 n6 c6, .bool false] w (ValidPost w t ent n1 n2 n3 n4 n5 n6) := by
  by_cases e2 : n2 = n1
  · have b2 : ((n2 : Int) != (n1 : Int)) = false := by simp [e2]
    by_cases e3 : n3 = n1
    · have b3 : ((n3 : Int) != (n1 : Int)) = false := by simp [e3]
      by_cases e4 : n4 = n1
      · have b4 : ((n4 : Int) != (n1 : Int)) = false := by simp [e4]
        by_cases e5 : n5 = n1
        · have b5 : ((n5 : Int) != (n1 : Int)) = false := by simp [e5]
          have b6 : ((n6 : Int) != (n1 : Int)) = true := by simp; omega
          clear e2 e3 e4 e5 hne
          go_enter Try.func7, Try.ntmps7
          go_wp2
          go_ret
          exact ValidPost.no t ent _ _ _ _ _ _ (Below.refl _ _)
        · have b5 : ((n5 : Int) != (n1 : Int)) = true := by simp; omega
          clear e2 e3 e4 e5 hne
          go_enter Try.func7, Try.ntmps7
          go_wp2
          go_ret
          exact ValidPost.no t ent _ _ _ _ _ _ (Below.refl _ _)
      · have b4 : ((n4 : Int) != (n1 : Int)) = true := by simp; omega
        clear e2 e3 e4 hne
        go_enter Try.func7, Try.ntmps7
        go_wp2
        go_ret
        exact ValidPost.no t ent _ _ _ _ _ _ (Below.refl _ _)
    · have b3 : ((n3 : Int) != (n1 : Int)) = true := by simp; omega
      clear e2 e3 hne
      go_enter Try.func7, Try.ntmps7
      go_wp2
      go_ret
      exact ValidPost.no t ent _ _ _ _ _ _ (Below.refl _ _)
  · have b2 : ((n2 : Int) != (n1 : Int)) = true := by simp; omega
    clear e2 hne
    go_enter Try.func7, Try.ntmps7
    go_wp2
    go_ret
    exact ValidPost.no t ent _ _ _ _ _ _ (Below.refl _ _)

end Go.Proofs.Qxb6616256a
