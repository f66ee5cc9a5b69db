import Derived.Test.Qxb6616256aLeaf
namespace Go.Proofs.Qxb6616256a
open Go.RowKit
set_option maxHeartbeats 400000

theorem bcell {W w1 : World} (hb : Below W.heap.size W w1) : (∀ b o, b < W.heap.size → w1.cell? ⟨b, o, none⟩ = W.cell? ⟨b, o, none⟩) :=
  fun b o h => hb.cell (p := ⟨b, o, none⟩) h

theorem compareE_any (t : ByteArray) (e : Ent) (f : ByteArray) (wh : Bool) (nm : ByteArray) (w : World) (h : e.Fits t) :
    Calls Try.prog 17 #[.agg #[.int .u32 e.at', .int .u32 e.nl, .int .u32 e.vl, .int .u32 e.fl, .int .u32 1, .int .u32 0, .bool e.whole, .bool e.sp], .string t, .string f, .bool wh, .string nm] w
      fun r w' => r = .returned (.int .i64 (Pl.kc (mkKey (e.form t) e.whole (e.name t)) (mkKey f wh nm))) ∧ Below w.heap.size w w' := by
  have Hk := hid (kc_mk (e.form t) f (e.name t) nm e.whole wh)
  obtain ⟨at', nl, vl, fl, whole, sp⟩ := e
  generalize hF : Ent.form ⟨at', nl, vl, fl, whole, sp⟩ t = F at *
  have c19 := fun w => eform_any t ⟨at', nl, vl, fl, whole, sp⟩ w h
  have c20 := fun w => ename_any t ⟨at', nl, vl, fl, whole, sp⟩ w h
  rw [hF] at c19
  generalize Ent.name ⟨at', nl, vl, fl, whole, sp⟩ t = N at *
  clear hF h
  simp only at Hk c19 c20 ⊢
  have C19 := hid c19
  have C20 := hid c20
  clear c19 c20
  generalize hK : Pl.kc (mkKey F whole N) (mkKey f wh nm) = K at *
  clear hK
  by_cases h0 : Lib.compareBytes F.data.toList f.data.toList = 0
  · by_cases h1 : Pl.bc whole wh = 0
    · have hk : Hid (K = Lib.compareBytes N.data.toList nm.data.toList) := by rw [if_pos h0, if_pos h1] at Hk; exact Hk
      have hw := Pl.bc_eq _ _ h1
      subst hw
      clear Hk h1
      go_enter Try.func17, Try.ntmps17
      go_wp2_with fail
      refine (C19.out _).mono ?_
      rintro r w1 ⟨rfl, hb1⟩
      have hc1 := bcell hb1
      go_wp2_with (go_at_call 18; refine (compare_any _ _ _).mono ?_; rintro r w' ⟨rfl, rfl⟩)
      refine (C20.out _).mono ?_
      rintro r w2 ⟨rfl, hb2⟩
      go_wp2_with (go_at_call 18; refine (compare_any _ _ _).mono ?_; rintro r w' ⟨rfl, rfl⟩)
      go_ret
      refine ⟨by rw [hk.out]; rfl, ?_⟩
      have a1 := (Below.refl w.heap.size w).alloc (Nat.le_refl _) (.cells #[.int .u32 at', .int .u32 nl, .int .u32 vl, .int .u32 fl, .int .u32 1, .int .u32 0, .bool whole, .bool sp] 46)
      exact (a1.trans (hb1.mono (by simp))).trans (hb2.mono (by have := hb1.size; simp at this; omega))
    · have hk : Hid (K = Pl.bc whole wh) := by rw [if_pos h0, if_neg h1] at Hk; exact Hk
      clear Hk
      cases whole <;> cases wh
      · exact absurd rfl h1
      · clear h1
        go_enter Try.func17, Try.ntmps17
        go_wp2_with fail
        refine (C19.out _).mono ?_
        rintro r w1 ⟨rfl, hb1⟩
        have hc1 := bcell hb1
        go_wp2_with (go_at_call 18; refine (compare_any _ _ _).mono ?_; rintro r w' ⟨rfl, rfl⟩)
        go_ret
        refine ⟨by rw [hk.out]; rfl, ?_⟩
        have a1 := (Below.refl w.heap.size w).alloc (Nat.le_refl _) (.cells #[.int .u32 at', .int .u32 nl, .int .u32 vl, .int .u32 fl, .int .u32 1, .int .u32 0, .bool false, .bool sp] 46)
        exact a1.trans (hb1.mono (by simp))
      · clear h1
        go_enter Try.func17, Try.ntmps17
        go_wp2_with fail
        refine (C19.out _).mono ?_
        rintro r w1 ⟨rfl, hb1⟩
        have hc1 := bcell hb1
        go_wp2_with (go_at_call 18; refine (compare_any _ _ _).mono ?_; rintro r w' ⟨rfl, rfl⟩)
        go_ret
        refine ⟨by rw [hk.out]; rfl, ?_⟩
        have a1 := (Below.refl w.heap.size w).alloc (Nat.le_refl _) (.cells #[.int .u32 at', .int .u32 nl, .int .u32 vl, .int .u32 fl, .int .u32 1, .int .u32 0, .bool true, .bool sp] 46)
        exact a1.trans (hb1.mono (by simp))
      · exact absurd rfl h1
  · have hk : Hid (K = Lib.compareBytes F.data.toList f.data.toList) := by rw [if_neg h0] at Hk; exact Hk
    have hne : (Lib.compareBytes F.data.toList f.data.toList != 0) = true := by simpa using h0
    clear Hk h0
    go_enter Try.func17, Try.ntmps17
    go_wp2_with fail
    refine (C19.out _).mono ?_
    rintro r w1 ⟨rfl, hb1⟩
    go_wp2_with (go_at_call 18; refine (compare_any _ _ _).mono ?_; rintro r w' ⟨rfl, rfl⟩)
    go_ret
    refine ⟨by rw [hk.out]; rfl, ?_⟩
    have a1 := (Below.refl w.heap.size w).alloc (Nat.le_refl _) (.cells #[.int .u32 at', .int .u32 nl, .int .u32 vl, .int .u32 fl, .int .u32 1, .int .u32 0, .bool whole, .bool sp] 46)
    exact a1.trans (hb1.mono (by simp))

end Go.Proofs.Qxb6616256a
