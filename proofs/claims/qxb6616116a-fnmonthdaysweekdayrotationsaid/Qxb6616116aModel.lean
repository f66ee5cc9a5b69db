import Derived.Test.Qxb6616116aFit
import Derived.OpenShut
namespace Go.Proofs.Qxb6616116a
open Go.RowKit
set_option maxHeartbeats 1000000

theorem FitPost.elim {w : World} {s x : Nat} {k n k' n' nth' : Int} {e : Ending} {w' : World} (h : FitPost w s x k n k' n' nth' e w') :
    (e = .returned (.bool false) ∧ w' = w) ∨ (e = .returned (.bool true) ∧ w' = w ∧ Fit s x k n k' n' nth') := by
  obtain ⟨b, he, hw, hf⟩ := h
  cases b
  · exact Or.inl ⟨he, hw⟩
  · exact Or.inr ⟨he, hw, hf rfl⟩

theorem Fit.dom {s x : Nat} {k n k' n' nth' : Int} (nth : Int) (h : Fit s x k n k' n' nth') : k = 0 ∨ Pl.FormOk k n nth := by
  obtain ⟨_, _, h, _⟩ := h
  unfold Pl.FormOk
  omega
theorem Fit.dow {s x : Nat} {k n k' n' nth' : Int} (h : Fit s x k n k' n' nth') : k' = 0 ∨ Pl.FormOk k' n' nth' := by
  obtain ⟨_, _, _, h⟩ := h
  unfold Pl.FormOk
  omega

/-- The model of the month days, whatever fits. -/
theorem model_dom (s x : Nat) (k n k' n' nth' L f : Int) (w : World) (hf : Fit s x k n k' n' nth') (h1 : 0 ≤ f) (h2 : f ≤ 6) (h5 : 28 ≤ L) (h6 : L ≤ 31) :
    Calls Try.prog 18 #[.int .u64 s, .int .u8 k, .int .i64 n, .int .i64 L, .int .i64 f] w fun e w' => e = .returned (.int .u64 (Pl.mt (Pl.domP s k n L f) L.toNat : Nat)) ∧ w' = w := by
  obtain ⟨hs, _, hk, _⟩ := hf
  refine modelDom_any s k n L f _ w h5 h6 fun d d1 d2 w => ?_
  have hd : ((d.toNat : Nat) : Int) = d := by omega
  rcases hk with rfl | rfl | rfl | ⟨rfl, a, b⟩
  · exact dom0 s n L f d w (by omega) d1 (by omega)
  · have e : Pl.domP s 1 n L f d.toNat = decide (d = L) := by unfold Pl.domP; rw [if_neg (by decide), if_pos rfl, hd]
    rw [e]; exact dom1 s n L f d w
  · have e : Pl.domP s 2 n L f d.toNat = decide (d = Pl.wn L L f) := by unfold Pl.domP; rw [if_neg (by decide), if_neg (by decide), if_pos rfl, hd]
    rw [e]; exact dom2 s n L f d w h1 h2 h5 h6
  · have e : Pl.domP s 3 n L f d.toNat = (decide (n ≤ L) && decide (d = Pl.wn n L f)) := by unfold Pl.domP; rw [if_neg (by decide), if_neg (by decide), if_neg (by decide), hd]
    rw [e]; exact dom3 s n L f d w h1 h2 h5 h6 a

theorem model_dow (s x : Nat) (k n k' n' nth' L f : Int) (w : World) (hf : Fit s x k n k' n' nth') (h1 : 0 ≤ f) (h2 : f ≤ 6) (h5 : 28 ≤ L) (h6 : L ≤ 31) :
    Calls Try.prog 19 #[.int .u64 x, .int .u8 k', .int .i64 n', .int .i64 nth', .int .i64 L, .int .i64 f] w fun e w' => e = .returned (.int .u64 (Pl.mt (Pl.dowP x k' n' nth' L f) L.toNat : Nat)) ∧ w' = w := by
  obtain ⟨_, hx, _, hk⟩ := hf
  refine modelDow_any x k' n' nth' L f _ w h5 h6 fun d d1 d2 w => ?_
  have hd : ((d.toNat : Nat) : Int) = d := by omega
  rcases hk with rfl | ⟨rfl, a, b⟩ | ⟨rfl, a, b⟩ | ⟨rfl, a, b, c, g⟩
  · have e : Pl.dowP x 0 n' nth' L f d.toNat = x.testBit (Pl.wd f d).toNat := by unfold Pl.dowP; rw [if_pos rfl, hd]
    rw [e]; exact dow0 x n' nth' L f d w (by omega) h1 h2 d1 (by omega)
  · have e : Pl.dowP x 4 n' nth' L f d.toNat = decide (Pl.wd f d = n') := by unfold Pl.dowP; rw [if_neg (by decide), if_pos rfl, hd]
    rw [e]; exact dow4 x n' nth' L f d w h1 h2 d1 (by omega)
  · have e : Pl.dowP x 5 n' nth' L f d.toNat = (decide (Pl.wd f d = n') && decide (L < d + 7)) := by unfold Pl.dowP; rw [if_neg (by decide), if_neg (by decide), if_pos rfl, hd]
    rw [e]; exact dow5 x n' nth' L f d w h1 h2 d1 (by omega)
  · have e : Pl.dowP x 6 n' nth' L f d.toNat = (decide (Pl.wd f d = n') && decide ((d - 1) / 7 = nth' - 1)) := by unfold Pl.dowP; rw [if_neg (by decide), if_neg (by decide), if_neg (by decide), hd]
    rw [e]; exact dow6 x n' nth' L f d w h1 h2 d1 (by omega) c g

theorem mt_lt64 (p : Nat → Bool) (L : Int) (h6 : L ≤ 31) : Pl.mt p L.toNat < 18446744073709551616 := by
  have h := Pl.mt_lt p L.toNat
  have h2 : 2 ^ (L.toNat + 1) ≤ 2 ^ 32 := Nat.pow_le_pow_right (by decide) (by omega)
  omega

theorem hid {p : Prop} (h : p) : Hid p := h

theorem join_eq (P Q G : Nat) (both : Bool) (hP : P < 18446744073709551616) (hQ : Q < 18446744073709551616) (h : G = if both then P ||| Q else P &&& Q) :
    bits (if both then .or else .and) .u64 (P : Int) (Q : Int) = (G : Int) := by
  rw [h]; cases both
  · exact u64_and_nat P Q hP hQ
  · exact u64_or_nat P Q hP hQ

end Go.Proofs.Qxb6616116a
