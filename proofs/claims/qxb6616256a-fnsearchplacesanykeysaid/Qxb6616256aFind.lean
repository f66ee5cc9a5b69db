import Derived.Test.Qxb6616256aSearch
namespace Go.Proofs.Qxb6616256a
open Go.RowKit
set_option maxHeartbeats 1000000

/-! ### (propertySource).search -/
theorem searchS_any (t : ByteArray) (n : Nat) (ent : Nat → Ent) (f : ByteArray) (wh : Bool) (nm : ByteArray) (E G : Nat) (w : World)
    (e0 : ∀ i, i < n → w.cell? ⟨E, i * 8, none⟩ = some (.int .u32 (ent i).at'))
    (e1 : ∀ i, i < n → w.cell? ⟨E, i * 8 + 1, none⟩ = some (.int .u32 (ent i).nl))
    (e2 : ∀ i, i < n → w.cell? ⟨E, i * 8 + 2, none⟩ = some (.int .u32 (ent i).vl))
    (e3 : ∀ i, i < n → w.cell? ⟨E, i * 8 + 3, none⟩ = some (.int .u32 (ent i).fl))
    (e4 : ∀ i, i < n → w.cell? ⟨E, i * 8 + 4, none⟩ = some (.int .u32 1))
    (e5 : ∀ i, i < n → w.cell? ⟨E, i * 8 + 5, none⟩ = some (.int .u32 0))
    (e6 : ∀ i, i < n → w.cell? ⟨E, i * 8 + 6, none⟩ = some (.bool (ent i).whole))
    (e7 : ∀ i, i < n → w.cell? ⟨E, i * 8 + 7, none⟩ = some (.bool (ent i).sp))
    (hn : n ≤ 1048576) (hfit : ∀ i, i < n → (ent i).Fits t) (hsort : Pl.Sorted (keyAt ent t) n) :
    Calls Try.prog 13 #[.agg #[.string t, .slice (some ⟨E, 0, none⟩) n n, .slice (some ⟨G, 0, none⟩) 1 1, .bool false, .bool false], .string f, .bool wh, .string nm] w
      fun r w' => ∃ (i : Nat) (b : Bool), r = .returned (.tuple #[.int .i64 i, .bool b]) ∧ Pl.Found (keyAt ent t) n (mkKey f wh nm) i ∧ (b = true ↔ i < n ∧ Pl.kc (keyAt ent t i) (mkKey f wh nm) = 0) ∧ Below w.heap.size w w' := by
  have hmf : ∀ (fn : Fn) (first cap : Array Value) (w : World), (Instr.makeFunc fn first cap).run Try.prog w = .ok (.func fn first cap) w := fun _ _ _ _ => rfl
  have hb4 : Below w.heap.size w ((((w.alloc (.cells #[.string t, .slice (some ⟨E, 0, none⟩) n n, .slice (some ⟨G, 0, none⟩) 1 1, .bool false, .bool false] 37)).alloc (.cells #[.string f] 9)).alloc (.cells #[.bool wh] 4)).alloc (.cells #[.string nm] 9)) :=
    ((((Below.refl _ _).alloc (Nat.le_refl _) _).alloc (by simp) _).alloc (by simp; omega) _).alloc (by simp; omega) _
  have up : ∀ {a : Addr} {v : Value}, w.cell? a = some v → ((((w.alloc (.cells #[.string t, .slice (some ⟨E, 0, none⟩) n n, .slice (some ⟨G, 0, none⟩) 1 1, .bool false, .bool false] 37)).alloc (.cells #[.string f] 9)).alloc (.cells #[.bool wh] 4)).alloc (.cells #[.string nm] 9)).cell? a = some v :=
    fun {a v} h => (hb4.cell (World.block_lt_of_cell? w a h)).trans h
  have hS : Src ((((w.alloc (.cells #[.string t, .slice (some ⟨E, 0, none⟩) n n, .slice (some ⟨G, 0, none⟩) 1 1, .bool false, .bool false] 37)).alloc (.cells #[.string f] 9)).alloc (.cells #[.bool wh] 4)).alloc (.cells #[.string nm] 9)) w.heap.size E t n ent f wh nm := by
    refine ⟨by simp [go_sem, World.cell?_alloc_past], by simp [go_sem, World.cell?_alloc_past], by simp [go_sem, World.cell?_alloc_past], by simp [go_sem, World.cell?_alloc_past], by simp [go_sem], fun i hi => up (e0 i hi), fun i hi => up (e1 i hi), fun i hi => up (e2 i hi), fun i hi => up (e3 i hi), fun i hi => up (e4 i hi), fun i hi => up (e5 i hi), fun i hi => up (e6 i hi), fun i hi => up (e7 i hi)⟩
  have c15 := search_any t n ent f wh nm w.heap.size E _ hS hn hfit hsort
  clear up e0 e1 e2 e3 e4 e5 e6 e7
  have HS := hid hS
  have H4 := hid hb4
  clear hS hb4
  have Hf := hid hfit
  clear hfit hsort
  rw [show w.heap.size + 2 = w.heap.size + 1 + 1 from rfl, show w.heap.size + 3 = w.heap.size + 1 + 1 + 1 from rfl] at c15
  have C15 := hid c15
  clear c15
  go_enter Try.func13, Try.ntmps13
  go_wp2_with fail
  refine (C15.out).mono ?_
  rintro r w5 ⟨i, rfl, hF, hb5⟩
  clear hmf
  have hS5 := HS.out.below hb5
  have hb : Below w.heap.size w w5 := H4.out.trans (hb5.mono H4.out.size)
  clear hb5 C15
  by_cases hi : i < n
  · have hiI : (i : Int) < (n : Int) := by omega
    have hfi := Hf.out i hi
    obtain ⟨s0, s1, sf, sw, sn, e0, e1, e2, e3, e4, e5, e6, e7⟩ := hS5
    replace e0 := e0 i hi
    replace e1 := e1 i hi
    replace e2 := e2 i hi
    replace e3 := e3 i hi
    replace e4 := e4 i hi
    replace e5 := e5 i hi
    replace e6 := e6 i hi
    replace e7 := e7 i hi
    have lB : w.heap.size < w5.heap.size := World.block_lt_of_cell? w5 _ s0
    have lB1 : w.heap.size + 1 < w5.heap.size := World.block_lt_of_cell? w5 _ sf
    have lB2 : w.heap.size + 2 < w5.heap.size := World.block_lt_of_cell? w5 _ sw
    have lB3 : w.heap.size + 3 < w5.heap.size := World.block_lt_of_cell? w5 _ sn
    have lE : E < w5.heap.size := World.block_lt_of_cell? w5 _ e0
    go_wp2_with fail
    go_region_held3 (fun w' => w'.cell? ⟨w.heap.size, 0, none⟩ = some (.string t) ∧ w'.cell? ⟨w.heap.size, 1, none⟩ = some (.slice (some ⟨E, 0, none⟩) n n) ∧ w'.cell? ⟨w.heap.size + 1, 0, none⟩ = some (.string f) ∧ w'.cell? ⟨w.heap.size + 1 + 1, 0, none⟩ = some (.bool wh) ∧ w'.cell? ⟨w.heap.size + 1 + 1 + 1, 0, none⟩ = some (.string nm) ∧
        w'.cell? ⟨E, i * 8, none⟩ = some (.int .u32 (ent i).at') ∧ w'.cell? ⟨E, i * 8 + 1, none⟩ = some (.int .u32 (ent i).nl) ∧ w'.cell? ⟨E, i * 8 + 2, none⟩ = some (.int .u32 (ent i).vl) ∧ w'.cell? ⟨E, i * 8 + 3, none⟩ = some (.int .u32 (ent i).fl) ∧
        w'.cell? ⟨E, i * 8 + 4, none⟩ = some (.int .u32 1) ∧ w'.cell? ⟨E, i * 8 + 5, none⟩ = some (.int .u32 0) ∧ w'.cell? ⟨E, i * 8 + 6, none⟩ = some (.bool (ent i).whole) ∧ w'.cell? ⟨E, i * 8 + 7, none⟩ = some (.bool (ent i).sp))
      (simp [*])
      (first | (go_at_call 17; refine (compareE_any t (ent i) f wh nm _ hfi).mono ?_; rintro r w1 ⟨rfl, hb0⟩; have hb6 : Below w5.heap.size w5 w1 := ((Below.refl w5.heap.size w5).drew).trans hb0; clear hb0; have hc : ∀ b o, b < w5.heap.size → w1.cell? ⟨b, o, none⟩ = w5.cell? ⟨b, o, none⟩ := bcell hb6))
    go_wp2
    go_ret2
    refine ⟨i, _, rfl, hF, ?_, hb.trans (hb6.mono hb.size)⟩
    show (Pl.kc (mkKey ((ent i).form t) (ent i).whole ((ent i).name t)) (mkKey f wh nm) == 0) = true ↔ _
    rw [beq_iff_eq]
    exact ⟨fun h => ⟨hi, h⟩, fun h => h.2⟩
  · have hib : decide ((i : Int) < (n : Int)) = false := decide_eq_false (by omega)
    obtain ⟨s0, s1, sf, sw, sn, e0, e1, e2, e3, e4, e5, e6, e7⟩ := hS5
    go_wp2_with fail
    go_quiet (fail)
    go_wp2
    go_ret2
    refine ⟨i, false, rfl, hF, ⟨fun h => (by cases h), fun h => absurd h.1 hi⟩, below_drewN hb _⟩
end Go.Proofs.Qxb6616256a
