import Derived.Test.Qxb6616116aDays
namespace Go.Proofs.Qxb6616116a
open Go.RowKit
set_option maxHeartbeats 400000

/-- What a schedule's cells hold, as far as they are read. -/
structure Sched (w : World) (b : Nat) (s x : Nat) (k n nth k' n' nth' : Int) (r r' : Bool) : Prop where
  c4 : w.cell? ⟨b, 4, none⟩ = some (.int .u64 s)
  c6 : w.cell? ⟨b, 6, none⟩ = some (.int .u64 x)
  c17 : w.cell? ⟨b, 17, none⟩ = some (.int .u8 k)
  c18 : w.cell? ⟨b, 18, none⟩ = some (.int .i64 n)
  c19 : w.cell? ⟨b, 19, none⟩ = some (.int .i64 nth)
  c20 : w.cell? ⟨b, 20, none⟩ = some (.int .u8 k')
  c21 : w.cell? ⟨b, 21, none⟩ = some (.int .i64 n')
  c22 : w.cell? ⟨b, 22, none⟩ = some (.int .i64 nth')
  c23 : w.cell? ⟨b, 23, none⟩ = some (.bool r)
  c24 : w.cell? ⟨b, 24, none⟩ = some (.bool r')

theorem new_any (s x : Nat) (k n nth k' n' nth' : Int) (r r' : Bool) (w : World) :
    Calls Try.prog 16 #[.int .u64 s, .int .u64 x, .int .u8 k, .int .i64 n, .int .i64 nth, .int .u8 k', .int .i64 n', .int .i64 nth', .bool r, .bool r'] w
      fun e w' => ∃ b, e = .returned (.pointer (some ⟨b, 0, none⟩)) ∧ Sched w' b s x k n nth k' n' nth' r r' ∧ Grown w w' := by
  go_enter Try.func16, Try.ntmps16
  go_wp2
  go_ret
  refine ⟨w.heap.size, rfl, ?_, (Grown.refl _).alloc _ _⟩
  constructor <;> simp [go_sem]

theorem grown_and {a b c : World} (h : Grown a b) (k : Grown b c) : Grown a c := by
  refine ⟨World.keptBut_trans h.1 k.1, fun x => (k.2.1 x).trans (h.2.1 x), Nat.le_trans h.2.2 k.2.2⟩

theorem grown_cell {w w' : World} (h : Grown w w') {b o : Nat} {v : Value} (hc : w.cell? ⟨b, o, none⟩ = some v) : w'.cell? ⟨b, o, none⟩ = some v := by
  have hb : b < w.heap.size := World.block_lt_of_cell? w _ hc
  rw [h.1.cell hb (fun x => x)]; exact hc

theorem mask_wrap (L : Int) (h5 : 28 ≤ L) (h6 : L ≤ 31) : IntKind.u64.wrap (IntKind.u64.wrap (2 ^ (L + 1).toNat) - 2) = (Pl.mask L : Nat) := by
  have hL : L = 28 ∨ L = 29 ∨ L = 30 ∨ L = 31 := by omega
  rcases hL with rfl | rfl | rfl | rfl <;> decide

theorem mask_lt (L : Int) (h6 : L ≤ 31) : Pl.mask L < 18446744073709551616 := by
  have h : 2 ^ (L + 1).toNat ≤ 2 ^ 32 := Nat.pow_le_pow_right (by decide) (by omega)
  unfold Pl.mask; omega

theorem md_eq (A B : Nat) (both : Bool) (L : Int) (hA : A < 2 ^ 36) (hB : B < 2 ^ 36) (h5 : 28 ≤ L) (h6 : L ≤ 31) :
    bits .and .u64 (bits (if both then .or else .and) .u64 A B) (IntKind.u64.wrap (IntKind.u64.wrap (2 ^ (L + 1).toNat) - 2)) = (Pl.md A B both L : Nat) := by
  have hm := mask_lt L h6
  rw [mask_wrap L h5 h6]
  have ha : A &&& B < 2 ^ 36 := Nat.and_lt_two_pow _ hB
  have ho : A ||| B < 2 ^ 36 := Nat.or_lt_two_pow hA hB
  unfold Pl.md
  cases both
  · show bits .and .u64 (bits .and .u64 A B) _ = _
    rw [u64_and_nat A B (by omega) (by omega), u64_and_nat _ _ (by omega) hm]; rfl
  · show bits .and .u64 (bits .or .u64 A B) _ = _
    rw [u64_or_nat A B (by omega) (by omega), u64_and_nat _ _ (by omega) hm]; rfl

theorem md_any (s x : Nat) (k n nth k' n' nth' : Int) (r r' : Bool) (L f : Int) (b : Nat) (w : World) (hS : Sched w b s x k n nth k' n' nth' r r')
    (h1 : 0 ≤ f) (h2 : f ≤ 6) (h5 : 28 ≤ L) (h6 : L ≤ 31) (hs : s < 4294967296) (hx : x < 128) (hk : k = 0 ∨ Pl.FormOk k n nth) (hk' : k' = 0 ∨ Pl.FormOk k' n' nth') :
    Calls Try.prog 26 #[.pointer (some ⟨b, 0, none⟩), .int .i64 L, .int .i64 f] w fun e w' => e = .returned (.int .u64 (Pl.md (Pl.part k s n nth L f) (Pl.part k' (Pl.wds x f) n' nth' L f) (r && r') L : Nat)) ∧ Grown w w' := by
  have hA : Pl.part k s n nth L f < 2 ^ 36 := by
    unfold Pl.part; split
    · omega
    · exact Pl.form_lt _ _ _ _ _ h5 h6 (hk.resolve_left (by assumption))
  have hB : Pl.part k' (Pl.wds x f) n' nth' L f < 2 ^ 36 := by
    unfold Pl.part; split
    · exact Pl.mt_lt _ _
    · exact Pl.form_lt _ _ _ _ _ h5 h6 (hk'.resolve_left (by assumption))
  have He := show Hid _ from md_eq _ _ (r && r') L hA hB h5 h6
  clear hA hB hs
  obtain ⟨c4, c6, c17, c18, c19, c20, c21, c22, c23, c24⟩ := hS
  by_cases g : k = 0
  · subst g
    by_cases g' : k' = 0
    · subst g'
      cases r <;> cases r'
      all_goals
        go_enter Try.func26, Try.ntmps26
        go_wp2_with (first | (go_at_call 34; refine (weekdayDays_any _ _ _ hx h1 h2).mono ?_; rintro e w' ⟨rfl, rfl⟩))
        go_ret
        exact ⟨by rw [← He.out]; rfl, Grown.refl _⟩
    · have hF := hk'.resolve_left g'
      have gb : (k' != 0) = true := by simpa using g'
      have Hp : Hid (Pl.part k' (Pl.wds x f) n' nth' L f = Pl.form k' n' nth' L f) := if_neg g'
      clear g' hk' hk
      cases r <;> cases r'
      all_goals
        go_enter Try.func26, Try.ntmps26
        go_wp2_with (first | (go_at_call 34; refine (weekdayDays_any _ _ _ hx h1 h2).mono ?_; rintro e w' ⟨rfl, rfl⟩) | (go_at_call 33; refine (days_any _ _ _ _ _ _ h1 h2 h5 h6 hF).mono ?_; rintro e w1 ⟨rfl, hg⟩; replace c23 := grown_cell hg c23; replace c24 := grown_cell hg c24))
        go_ret
        exact ⟨by rw [← He.out, Hp.out]; rfl, hg⟩
  · have hF := hk.resolve_left g
    have gb : (k != 0) = true := by simpa using g
    have Hp : Hid (Pl.part k s n nth L f = Pl.form k n nth L f) := if_neg g
    clear g hk
    by_cases g' : k' = 0
    · subst g'
      clear hk'
      cases r <;> cases r'
      all_goals
        go_enter Try.func26, Try.ntmps26
        go_wp2_with (first | (go_at_call 34; refine (weekdayDays_any _ _ _ hx h1 h2).mono ?_; rintro e w' ⟨rfl, rfl⟩) | (go_at_call 33; refine (days_any _ _ _ _ _ _ h1 h2 h5 h6 hF).mono ?_; rintro e w1 ⟨rfl, hg⟩; replace c6 := grown_cell hg c6; replace c20 := grown_cell hg c20; replace c23 := grown_cell hg c23; replace c24 := grown_cell hg c24))
        go_ret
        exact ⟨by rw [← He.out, Hp.out]; rfl, hg⟩
    · have hF' := hk'.resolve_left g'
      have gb' : (k' != 0) = true := by simpa using g'
      have Hp' : Hid (Pl.part k' (Pl.wds x f) n' nth' L f = Pl.form k' n' nth' L f) := if_neg g'
      clear g' hk'
      cases r <;> cases r'
      all_goals
        go_enter Try.func26, Try.ntmps26
        go_wp2_with (go_at_call 34; fail)
        refine (days_any _ _ _ _ _ _ h1 h2 h5 h6 hF).mono ?_
        rintro e w1 ⟨rfl, hg⟩
        replace c6 := grown_cell hg c6
        replace c20 := grown_cell hg c20
        replace c21 := grown_cell hg c21
        replace c22 := grown_cell hg c22
        replace c23 := grown_cell hg c23
        replace c24 := grown_cell hg c24
        go_wp2_with (first | (go_at_call 34; refine (weekdayDays_any _ _ _ hx h1 h2).mono ?_; rintro e w' ⟨rfl, rfl⟩) | (go_at_call 33; refine (days_any _ _ _ _ _ _ h1 h2 h5 h6 hF').mono ?_; rintro e w1 ⟨rfl, hg'⟩; replace c23 := grown_cell hg' c23; replace c24 := grown_cell hg' c24))
        go_ret
        exact ⟨by rw [← He.out, Hp.out, Hp'.out]; rfl, grown_and hg hg'⟩

theorem zzmd_any (s x : Nat) (k n nth k' n' nth' : Int) (r r' : Bool) (L f : Int) (b : Nat) (w : World) (hS : Sched w b s x k n nth k' n' nth' r r')
    (h1 : 0 ≤ f) (h2 : f ≤ 6) (h5 : 28 ≤ L) (h6 : L ≤ 31) (hs : s < 4294967296) (hx : x < 128) (hk : k = 0 ∨ Pl.FormOk k n nth) (hk' : k' = 0 ∨ Pl.FormOk k' n' nth') :
    Calls Try.prog 17 #[.pointer (some ⟨b, 0, none⟩), .int .i64 L, .int .i64 f] w fun e w' => e = .returned (.int .u64 (Pl.md (Pl.part k s n nth L f) (Pl.part k' (Pl.wds x f) n' nth' L f) (r && r') L : Nat)) ∧ Grown w w' := by
  go_enter Try.func17, Try.ntmps17
  go_wp2_with (go_at_call 26; refine (md_any s x k n nth k' n' nth' r r' L f b _ hS h1 h2 h5 h6 hs hx hk hk').mono ?_; rintro e w' ⟨rfl, hg⟩)
  go_ret
  exact ⟨rfl, hg⟩


end Go.Proofs.Qxb6616116a
