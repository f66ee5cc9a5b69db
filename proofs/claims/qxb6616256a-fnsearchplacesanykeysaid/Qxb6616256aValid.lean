import Derived.Test.Qxb6616256aValidLen
import Derived.Deep.RegionHeld3
namespace Go.Proofs.Qxb6616256a
open Go.RowKit
set_option maxHeartbeats 4000000
set_option maxRecDepth 100000

/-- What the loop has checked. -/
structure Ok (t : ByteArray) (ent : Nat → Ent) (k : Nat) : Prop where
  fit : ∀ i, i < k → (ent i).Fits t
  ord : Pl.Sorted (keyAt ent t) k

theorem quiet_same2 {P : Program} {f : FuncId} {args : Array Value} {w : World} {q n : Nat} {v : Value}
    (h : Calls P f args (w.drewN (q + n)) fun e w' => e = .returned v ∧ w' = w.drewN (q + n)) : Calls P f args (w.drewN (q + n)) fun e w'' => e = .returned v ∧ ∃ m, w'' = w.drewN (q + m) :=
  h.mono fun _ _ ⟨he, hm⟩ => ⟨he, n, hm⟩

theorem Ok.zero (t : ByteArray) (ent : Nat → Ent) : Ok t ent 0 := ⟨fun i hi => absurd hi (Nat.not_lt_zero _), fun j hj => absurd hj (by omega)⟩
theorem Ok.one {t : ByteArray} {ent : Nat → Ent} (h : (ent 0).Fits t) : Ok t ent 1 := ⟨fun i hi => by rw [show i = 0 by omega]; exact h, fun j hj => absurd hj (by omega)⟩
theorem Ok.next {t : ByteArray} {ent : Nat → Ent} {m : Nat} (h : Ok t ent (m + 1)) (hf : (ent (m + 1)).Fits t) (hc : ¬ 0 < Pl.kc (keyAt ent t m) (keyAt ent t (m + 1))) : Ok t ent (m + 2) := by
  refine ⟨fun i hi => ?_, fun j hj => ?_⟩
  · by_cases e : i = m + 1
    · rw [e]; exact hf
    · exact h.fit i (by omega)
  · by_cases e : j = m
    · rw [e]; omega
    · exact h.ord j (by omega)

/-- The round, the entry being bad. -/
theorem not_fits {e : Ent} {t : ByteArray} (h : ¬ e.Fits t) (h1 : (e.at' : Int) ≤ 1048576) (h2 : (e.nl : Int) ≤ 1048576) (h3 : (e.vl : Int) ≤ 1048576) (h4 : (e.fl : Int) ≤ 1048576) (h5 : (e.at' : Int) + e.nl + e.vl ≤ t.size) (h6 : (e.start : Int) + e.fl ≤ t.size) : False :=
  h ⟨by omega, by omega, by omega, by omega, by omega, by omega⟩

theorem valid_any (t : ByteArray) (ent : Nat → Ent) (a1 a2 a3 a4 a5 a6 : Option Addr) (n c1 c2 c3 c4 c5 c6 : Nat) (w : World) (hn : n ≤ 1048576) (ht : t.size ≤ 1048576)
    (r1 : Rd w a1 n fun i => .int .u32 (ent i).at') (r2 : Rd w a2 n fun i => .int .u32 (ent i).nl) (r3 : Rd w a3 n fun i => .int .u32 (ent i).vl) (r4 : Rd w a4 n fun i => .int .u32 (ent i).fl)
    (r5 : Rd w a5 n fun i => .bool (ent i).whole) (r6 : Rd w a6 n fun i => .bool (ent i).sp) :
    Calls Try.prog 7 #[.string t, .slice a1 n c1, .slice a2 n c2, .slice a3 n c3, .slice a4 n c4, .slice a5 n c5, .slice a6 n c6, .bool false] w (ValidPost w t ent n n n n n n) := by
  go_enter Try.func7, Try.ntmps7
  go_wp2
  go_loopw [18] (fun a wr => ∃ k : Nat, a = .int .i64 k ∧ k ≤ n ∧ Ok t ent k ∧ Below w.heap.size w wr) (fun a _ => (n - intOf a).toNat)
  case atStart => exact ⟨0, rfl, Nat.zero_le _, Ok.zero t ent, Below.refl _ _⟩
  case round =>
    obtain ⟨k, rfl, hk, hO, hb⟩ := hrel
    by_cases hlt : k < n
    · have hltI : (k : Int) < (n : Int) := by omega
      obtain ⟨b1, o1, rfl, d1, l1⟩ := (r1.below hb).open hlt
      obtain ⟨b2, o2, rfl, d2, l2⟩ := (r2.below hb).open hlt
      obtain ⟨b3, o3, rfl, d3, l3⟩ := (r3.below hb).open hlt
      obtain ⟨b4, o4, rfl, d4, l4⟩ := (r4.below hb).open hlt
      obtain ⟨b5, o5, rfl, d5, l5⟩ := (r5.below hb).open hlt
      obtain ⟨b6, o6, rfl, d6, l6⟩ := (r6.below hb).open hlt
      clear l1 l2 l3 l4 l5 l6
      by_cases hfit : (ent k).Fits t
      · have hF0 := hfit
        obtain ⟨f1, f2, f3, f4, f5, f6⟩ := hfit
        by_cases hk0 : 0 < k
        · obtain ⟨m, rfl⟩ : ∃ m, k = m + 1 := ⟨k - 1, by omega⟩
          have hk1 : m < n := by omega
          obtain ⟨_, _, eq1, p1, _⟩ := (r1.below hb).open hk1
          obtain ⟨_, _, eq2, p2, _⟩ := (r2.below hb).open hk1
          obtain ⟨_, _, eq3, p3, _⟩ := (r3.below hb).open hk1
          obtain ⟨_, _, eq4, p4, _⟩ := (r4.below hb).open hk1
          obtain ⟨_, _, eq5, p5, _⟩ := (r5.below hb).open hk1
          obtain ⟨_, _, eq6, p6, _⟩ := (r6.below hb).open hk1
          simp only [Option.some.injEq, Addr.mk.injEq, and_true] at eq1 eq2 eq3 eq4 eq5 eq6
          obtain ⟨rfl, rfl⟩ := eq1
          obtain ⟨rfl, rfl⟩ := eq2
          obtain ⟨rfl, rfl⟩ := eq3
          obtain ⟨rfl, rfl⟩ := eq4
          obtain ⟨rfl, rfl⟩ := eq5
          obtain ⟨rfl, rfl⟩ := eq6
          have hfm := hO.fit m (by omega)
          have HN := hid (show ¬ 0 < Pl.kc (keyAt ent t m) (keyAt ent t (m + 1)) → Ok t ent (m + 2) from fun h => Ok.next hO hF0 h)
          have C10k := hid (fun w => form_any t (ent (m + 1)) w hF0)
          have C11k := hid (fun w => name_any t (ent (m + 1)) w hF0)
          have C10m := hid (fun w => form_any t (ent m) w hfm)
          have C11m := hid (fun w => name_any t (ent m) w hfm)
          clear hO hF0 hfm r1 r2 r3 r4 r5 r6
          unfold keyAt at HN
          have hiJ : (m : Int) < (n : Int) := by omega
          have hwm : IntKind.i64.wrap (m : Int) = (m : Int) := by rw [IntKind.wrap_i64]; omega
          generalize ent m = em at *
          generalize em.form t = Fm at *
          generalize em.name t = Nm at *
          generalize ent (m + 1) = e at *
          generalize e.form t = Fk at *
          generalize e.name t = Nk at *
          obtain ⟨at', nl, vl, fl, wh, sp⟩ := e
          unfold Ent.start at f6
          simp only at d1 d2 d3 d4 d5 d6 f1 f2 f3 f4 f5 f6 HN C10k C11k
          cases sp
          · simp only [Bool.false_eq_true, if_false] at f6
            as_aux_lemma =>
              go_wp2
              go_quiet (fail)
              go_wp2
              simp only [List.append_eq, List.cons_append, List.nil_append]
              go_quiet ((first | (go_at_call_of 10 em; exact quiet_same2 (C10m.out _)) | (go_at_call_of 10 at'; exact quiet_same2 (C10k.out _)) | (go_at_call_of 11 em; exact quiet_same2 (C11m.out _)) | (go_at_call_of 11 at'; exact quiet_same2 (C11k.out _)) | (go_at_call 9; exact quiet_same2 (keyCmp_any _ _ _ _ _ _ _))))
              clear d1 d2 d3 d4 d5 d6 p1 p2 p3 p4 p5 p6 C10k C11k C10m C11m
              by_cases hc : 0 < Pl.kc (mkKey Fm em.whole Nm) (mkKey Fk wh Nk)
              · go_wp2
                go_ret
                exact ValidPost.no t ent _ _ _ _ _ _ (below_drewN hb _)
              · have hN := hid (HN.out (Int.not_lt.1 hc))
                clear HN
                go_wp2
                go_roundw
                case rel => exact ⟨m + 2, by go_num, by omega, hN.out, below_drewN hb _⟩
                case measure => simp [intOf]; omega
          · simp only [if_true] at f6
            as_aux_lemma =>
              go_wp2
              go_quiet (fail)
              go_wp2
              simp only [List.append_eq, List.cons_append, List.nil_append]
              go_quiet ((first | (go_at_call_of 10 em; exact quiet_same2 (C10m.out _)) | (go_at_call_of 10 at'; exact quiet_same2 (C10k.out _)) | (go_at_call_of 11 em; exact quiet_same2 (C11m.out _)) | (go_at_call_of 11 at'; exact quiet_same2 (C11k.out _)) | (go_at_call 9; exact quiet_same2 (keyCmp_any _ _ _ _ _ _ _))))
              clear d1 d2 d3 d4 d5 d6 p1 p2 p3 p4 p5 p6 C10k C11k C10m C11m
              by_cases hc : 0 < Pl.kc (mkKey Fm em.whole Nm) (mkKey Fk wh Nk)
              · go_wp2
                go_ret
                exact ValidPost.no t ent _ _ _ _ _ _ (below_drewN hb _)
              · have hN := hid (HN.out (Int.not_lt.1 hc))
                clear HN
                go_wp2
                go_roundw
                case rel => exact ⟨m + 2, by go_num, by omega, hN.out, below_drewN hb _⟩
                case measure => simp [intOf]; omega
        · have HN := hid (show Ok t ent (k + 1) from by
            have e : k = 0 := by omega
            rw [e] at hF0 ⊢
            exact Ok.one hF0)
          clear hO hF0 r1 r2 r3 r4 r5 r6
          generalize ent k = e at *
          obtain ⟨at', nl, vl, fl, wh, sp⟩ := e
          unfold Ent.start at f6
          simp only at d1 d2 d3 d4 d5 d6 f1 f2 f3 f4 f5 f6
          cases sp
          · simp only [Bool.false_eq_true, if_false] at f6
            as_aux_lemma =>
              go_wp2
              go_quiet (fail)
              go_wp2
              go_roundw
              case rel => exact ⟨k + 1, by go_num, by omega, HN.out, below_drewN hb _⟩
              case measure => simp [intOf]; omega
          · simp only [if_true] at f6
            as_aux_lemma =>
              go_wp2
              go_quiet (fail)
              go_wp2
              go_roundw
              case rel => exact ⟨k + 1, by go_num, by omega, HN.out, below_drewN hb _⟩
              case measure => simp [intOf]; omega
      · have HO := hid hO
        have HF := hid hfit
        clear hO hfit r1 r2 r3 r4 r5 r6
        generalize ent k = e at *
        obtain ⟨at', nl, vl, fl, wh, sp⟩ := e
        simp only at d1 d2 d3 d4 d5 d6
        by_cases f1 : at' ≤ 1048576
        · by_cases f2 : nl ≤ 1048576
          · by_cases f3 : vl ≤ 1048576
            · by_cases f4 : fl ≤ 1048576
              · by_cases f5 : at' + nl + vl ≤ t.size
                · have f6 : ¬ Ent.start ⟨at', nl, vl, fl, wh, sp⟩ + fl ≤ t.size := fun h => HF.out ⟨f1, f2, f3, f4, f5, h⟩
                  unfold Ent.start at f6
                  clear HF
                  cases sp
                  · simp only [Bool.false_eq_true, if_false] at f6
                    as_aux_lemma =>
                      go_wp2
                      go_quiet (fail)
                      go_wp2
                      go_ret
                      exact ValidPost.no t ent _ _ _ _ _ _ (below_drewN hb _)
                  · simp only [if_true] at f6
                    as_aux_lemma =>
                      go_wp2
                      go_quiet (fail)
                      go_wp2
                      go_ret
                      exact ValidPost.no t ent _ _ _ _ _ _ (below_drewN hb _)
                · clear HF
                  as_aux_lemma =>
                    go_wp2
                    go_quiet (fail)
                    go_wp2
                    go_ret
                    exact ValidPost.no t ent _ _ _ _ _ _ (below_drewN hb _)
              · clear HF
                as_aux_lemma =>
                  go_wp2
                  go_ret
                  exact ValidPost.no t ent _ _ _ _ _ _ hb
            · clear HF
              as_aux_lemma =>
                go_wp2
                go_ret
                exact ValidPost.no t ent _ _ _ _ _ _ hb
          · clear HF
            as_aux_lemma =>
              go_wp2
              go_ret
              exact ValidPost.no t ent _ _ _ _ _ _ hb
        · clear HF
          as_aux_lemma =>
            go_wp2
            go_ret
            exact ValidPost.no t ent _ _ _ _ _ _ hb
    · obtain rfl : k = n := by omega
      go_wp2
      go_ret
      exact ⟨true, rfl, hb, fun _ => ⟨rfl, rfl, rfl, rfl, rfl, hO.fit, hO.ord⟩⟩
end Go.Proofs.Qxb6616256a
