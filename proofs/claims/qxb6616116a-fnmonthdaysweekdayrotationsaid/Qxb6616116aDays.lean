import Derived.Test.Qxb6616116aLeaf
namespace Go.Proofs.Qxb6616116a
open Go.RowKit
set_option maxHeartbeats 400000

theorem weekdayOf_any (f d : Int) (w : World) (h1 : 0 ≤ f) (h2 : f ≤ 6) (h3 : 1 ≤ d) (h4 : d ≤ 31) :
    Calls Try.prog 43 #[.int .i64 d, .int .i64 f] w fun e w' => e = .returned (.int .i64 ((f + d - 1) % 7)) ∧ w' = w := by
  go_enter Try.func43, Try.ntmps43
  go_wp2
  go_ret
  exact ⟨rfl, rfl⟩

theorem weekdayNearest_any (d L f : Int) (w : World) (h1 : 0 ≤ f) (h2 : f ≤ 6) (h3 : 1 ≤ d) (h4 : d ≤ 31) (_h5 : 28 ≤ L) (_h6 : L ≤ 31) :
    Calls Try.prog 42 #[.int .i64 d, .int .i64 L, .int .i64 f] w fun e w' => e = .returned (.int .i64 (Pl.wn d L f)) ∧ w' = w := by
  go_enter Try.func42, Try.ntmps42
  go_wp2_with (go_at_call 43; refine (weekdayOf_any _ _ _ h1 h2 h3 h4).mono ?_; rintro e w' ⟨rfl, rfl⟩)
  all_goals (go_ret; refine ⟨?_, rfl⟩; simp_all [Pl.wn])

theorem pow_wrap (n : Int) (h2 : n < 64) : IntKind.u64.wrap (2 ^ n.toNat) = ((2 ^ n.toNat : Nat) : Int) := by
  have h : 2 ^ n.toNat ≤ 2 ^ 63 := Nat.pow_le_pow_right (by decide) (by omega)
  rw [IntKind.wrap_u64, show (2 : Int) ^ n.toNat = ((2 ^ n.toNat : Nat) : Int) by simp]
  exact Int.emod_eq_of_lt (Int.natCast_nonneg _) (by omega)

/-- weekdayDays, as the text reckons it -/
def wdG (x f : Int) : Int :=
  bits .or .u64 (bits .or .u64 (bits .or .u64 (bits .or .u64
    (IntKind.u64.wrap (bits .and .u64 (bits .or .u64 (x / 2 ^ f.toNat) (IntKind.u64.wrap (x * 2 ^ (7 - f).toNat))) 127 * 2))
    (IntKind.u64.wrap (IntKind.u64.wrap (bits .and .u64 (bits .or .u64 (x / 2 ^ f.toNat) (IntKind.u64.wrap (x * 2 ^ (7 - f).toNat))) 127 * 2) * 128)))
    (IntKind.u64.wrap (IntKind.u64.wrap (bits .and .u64 (bits .or .u64 (x / 2 ^ f.toNat) (IntKind.u64.wrap (x * 2 ^ (7 - f).toNat))) 127 * 2) * 16384)))
    (IntKind.u64.wrap (IntKind.u64.wrap (bits .and .u64 (bits .or .u64 (x / 2 ^ f.toNat) (IntKind.u64.wrap (x * 2 ^ (7 - f).toNat))) 127 * 2) * 2097152)))
    (IntKind.u64.wrap (IntKind.u64.wrap (bits .and .u64 (bits .or .u64 (x / 2 ^ f.toNat) (IntKind.u64.wrap (x * 2 ^ (7 - f).toNat))) 127 * 2) * 268435456))

theorem wd_all : ∀ x : Fin 128, ∀ f : Fin 7, wdG (x.1 : Nat) (f.1 : Nat) = (Pl.wds x.1 (f.1 : Nat) : Nat) := by decide +kernel

theorem wdG_eq (x : Nat) (f : Int) (hx : x < 128) (h1 : 0 ≤ f) (h2 : f ≤ 6) : wdG x f = (Pl.wds x f : Nat) := by
  have h := wd_all ⟨x, hx⟩ ⟨f.toNat, by omega⟩
  simp only at h
  rw [show ((f.toNat : Nat) : Int) = f by omega] at h
  exact h

theorem weekdayDays_any (x : Nat) (f : Int) (w : World) (hx : x < 128) (h1 : 0 ≤ f) (h2 : f ≤ 6) :
    Calls Try.prog 34 #[.int .u64 x, .int .i64 f] w fun e w' => e = .returned (.int .u64 (Pl.wds x f : Nat)) ∧ w' = w := by
  have He := show Hid _ from wdG_eq x f hx h1 h2
  go_enter Try.func34, Try.ntmps34
  go_wp2
  go_ret
  exact ⟨by rw [← He.out]; rfl, rfl⟩

/-! ### (dayForm).days, by the kind -/
theorem drewN_grown {W w' : World} (h : Grown W w') (n : Nat) : Grown W (w'.drewN n) := by
  induction n generalizing w' with
  | zero => exact h
  | succ n ih => exact ih h.drew

theorem days_any (k n nth L f : Int) (w : World) (h1 : 0 ≤ f) (h2 : f ≤ 6) (h5 : 28 ≤ L) (h6 : L ≤ 31) (hk : Pl.FormOk k n nth) :
    Calls Try.prog 33 #[.agg #[.int .u8 k, .int .i64 n, .int .i64 nth], .int .i64 L, .int .i64 f] w fun e w' => e = .returned (.int .u64 (Pl.form k n nth L f : Nat)) ∧ Grown w w' := by
  rcases hk with rfl | rfl | ⟨rfl, a, b⟩ | ⟨rfl, a, b⟩ | ⟨rfl, a, b⟩ | ⟨rfl, a, b, c, d⟩
  · have Hf : Hid (IntKind.u64.wrap (2 ^ L.toNat) = (Pl.form 1 n nth L f : Nat)) := by
      show _ = _
      rw [pow_wrap _ (by omega)]; rfl
    go_enter Try.func33, Try.ntmps33
    go_wp2
    go_ret
    exact ⟨by rw [← Hf.out]; rfl, (Grown.refl _).alloc _ _⟩
  · obtain ⟨b1, b2⟩ := Pl.wn_bd L L f (by omega) h6 h5
    have Hf : Hid (IntKind.u64.wrap (2 ^ (Pl.wn L L f).toNat) = (Pl.form 2 n nth L f : Nat)) := by
      show _ = _
      rw [pow_wrap _ (by omega)]; rfl
    go_enter Try.func33, Try.ntmps33
    go_wp2_with (go_at_call 42; refine (weekdayNearest_any _ _ _ _ h1 h2 (by omega) (by omega) h5 h6).mono ?_; rintro e w' ⟨rfl, rfl⟩)
    go_ret
    exact ⟨by rw [← Hf.out]; rfl, (Grown.refl _).alloc _ _⟩
  · by_cases hn : L < n
    · have Hf : Hid ((0 : Int) = (Pl.form 3 n nth L f : Nat)) := by
        show _ = _
        unfold Pl.form; rw [if_neg (by decide), if_neg (by decide), if_pos rfl, if_pos hn]; rfl
      go_enter Try.func33, Try.ntmps33
      go_wp2_with fail
      go_ret
      exact ⟨by rw [← Hf.out]; rfl, (Grown.refl _).alloc _ _⟩
    · obtain ⟨b1, b2⟩ := Pl.wn_bd n L f a b h5
      have Hf : Hid (IntKind.u64.wrap (2 ^ (Pl.wn n L f).toNat) = (Pl.form 3 n nth L f : Nat)) := by
        show _ = _
        unfold Pl.form; rw [if_neg (by decide), if_neg (by decide), if_pos rfl, if_neg hn, pow_wrap _ (by omega)]
      go_enter Try.func33, Try.ntmps33
      go_wp2_with (go_at_call 42; refine (weekdayNearest_any _ _ _ _ h1 h2 a b h5 h6).mono ?_; rintro e w' ⟨rfl, rfl⟩)
      go_ret
      exact ⟨by rw [← Hf.out]; rfl, (Grown.refl _).alloc _ _⟩
  · have Hw := show Hid _ from pow_wrap n (by omega)
    have Hl : Hid (2 ^ n.toNat < 128) := Pl.two_pow_lt (b := 7) (by omega)
    go_enter Try.func33, Try.ntmps33
    go_wp2_with (go_at_call 34; rw [Hw.out]; refine (weekdayDays_any _ _ _ Hl.out h1 h2).mono ?_; rintro e w' ⟨rfl, rfl⟩)
    go_ret
    exact ⟨rfl, (Grown.refl _).alloc _ _⟩
  · have Hf : Hid (IntKind.u64.wrap (2 ^ (L - (f + L - 1 - n) % 7).toNat) = (Pl.form 5 n nth L f : Nat)) := by
      show _ = _
      rw [pow_wrap _ (by omega)]; rfl
    go_enter Try.func33, Try.ntmps33
    go_wp2
    go_quiet ((go_at_call 43; exact Calls.quiet_of_same (weekdayOf_any _ _ _ h1 h2 (by omega) (by omega))))
    go_wp2
    go_ret
    exact ⟨by rw [← Hf.out]; rfl, drewN_grown ((Grown.refl _).alloc _ _) _⟩
  · have Hf : Hid (IntKind.u64.wrap (2 ^ (1 + (n - f) % 7 + 7 * (nth - 1)).toNat) = (Pl.form 6 n nth L f : Nat)) := by
      show _ = _
      rw [pow_wrap _ (by omega)]; rfl
    go_enter Try.func33, Try.ntmps33
    go_wp2
    go_ret
    exact ⟨by rw [← Hf.out]; rfl, (Grown.refl _).alloc _ _⟩

end Go.Proofs.Qxb6616116a
