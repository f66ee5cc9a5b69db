import Derived.Test.Qxb6616256aEntries
namespace Go.Proofs.Qxb6616256a
open Go.RowKit
set_option maxHeartbeats 1000000

theorem source_any (t : ByteArray) (n : Nat) (ent : Nat → Ent) (a1 a2 a3 a4 a5 a6 : Option Addr) (c1 c2 c3 c4 c5 c6 : Nat) (w : World) (hn : n ≤ 1048576)
    (r1 : Rd w a1 n fun i => .int .u32 (ent i).at') (r2 : Rd w a2 n fun i => .int .u32 (ent i).nl) (r3 : Rd w a3 n fun i => .int .u32 (ent i).vl) (r4 : Rd w a4 n fun i => .int .u32 (ent i).fl)
    (r5 : Rd w a5 n fun i => .bool (ent i).whole) (r6 : Rd w a6 n fun i => .bool (ent i).sp) :
    Calls Try.prog 12 #[.string t, .slice a1 n c1, .slice a2 n c2, .slice a3 n c3, .slice a4 n c4, .slice a5 n c5, .slice a6 n c6] w
      fun r w' => ∃ E G, r = .returned (.agg #[.string t, .slice (some ⟨E, 0, none⟩) n n, .slice (some ⟨G, 0, none⟩) 1 1, .bool false, .bool false]) ∧ EntsTo w' E n n ent ∧ Below w.heap.size w w' := by
  have hb0 : Below w.heap.size w (w.alloc (.cells #[.string ⟨#[]⟩, .slice none 0 0, .slice none 0 0, .bool false, .bool false] 37)) := (Below.refl _ _).alloc (Nat.le_refl _) _
  have c14 := entries_any n ent a1 a2 a3 a4 a5 a6 c1 c2 c3 c4 c5 c6 _ hn (r1.below hb0) (r2.below hb0) (r3.below hb0) (r4.below hb0) (r5.below hb0) (r6.below hb0)
  have C14 := hid c14
  have H0 := hid hb0
  clear c14 hb0 r1 r2 r3 r4 r5 r6
  go_enter Try.func12, Try.ntmps12
  go_wp2_with fail
  refine (C14.out).mono ?_
  rintro r w1 ⟨rfl, hE, hb1⟩
  have hz : w.heap.size < w1.heap.size := by have := hb1.size; simp at this; omega
  have q0 : w1.cell? ⟨w.heap.size, 0, none⟩ = some (.string ⟨#[]⟩) := (hb1.cell (p := ⟨w.heap.size, 0, none⟩) (by simp)).trans (by simp [go_sem])
  have q1 : w1.cell? ⟨w.heap.size, 1, none⟩ = some (.slice none 0 0) := (hb1.cell (p := ⟨w.heap.size, 1, none⟩) (by simp)).trans (by simp [go_sem])
  have q2 : w1.cell? ⟨w.heap.size, 2, none⟩ = some (.slice none 0 0) := (hb1.cell (p := ⟨w.heap.size, 2, none⟩) (by simp)).trans (by simp [go_sem])
  have q3 : w1.cell? ⟨w.heap.size, 3, none⟩ = some (.bool false) := (hb1.cell (p := ⟨w.heap.size, 3, none⟩) (by simp)).trans (by simp [go_sem])
  have q4 : w1.cell? ⟨w.heap.size, 4, none⟩ = some (.bool false) := (hb1.cell (p := ⟨w.heap.size, 4, none⟩) (by simp)).trans (by simp [go_sem])
  have hfz : ∀ o, w1.frozen? ⟨w.heap.size, o, none⟩ = false := fun o => (hb1.frozen (p := ⟨w.heap.size, o, none⟩) (by simp)).trans (by rw [frozen?_alloc_cells]; simp [World.frozen?])
  have HE := hid hE
  have H1 := hid hb1
  clear C14 hE hb1
  go_wp2_with fail
  refine bodyPost_ret (v := .agg #[.string t, .slice (some ⟨w.heap.size + 1, 0, none⟩) n n, .slice (some ⟨w1.heap.size, 0, none⟩) 1 1, .bool false, .bool false]) (by simp [results, Try.results12, go_sem, hz, q0, q1, q2, q3, q4]) rfl ⟨w.heap.size + 1, w1.heap.size, rfl, ?_, ?_⟩
  · have h := HE.out
    have e : (w.alloc (Obj.cells #[.string ⟨#[]⟩, .slice none 0 0, .slice none 0 0, .bool false, .bool false] 37)).heap.size = w.heap.size + 1 := by simp
    rw [e] at h
    have h5 := ((((h.setCell (a := ⟨w.heap.size, 0, none⟩) (by simp) (.string t)).setCell (a := ⟨w.heap.size, 1, none⟩) (by simp) (.slice (some ⟨w.heap.size + 1, 0, none⟩) n n)).setCell (a := ⟨w.heap.size, 2, none⟩) (by simp) (.slice (some ⟨w1.heap.size, 0, none⟩) 1 1)).setCell (a := ⟨w.heap.size, 3, none⟩) (by simp) (.bool false)).setCell (a := ⟨w.heap.size, 4, none⟩) (by simp) (.bool false)
    exact h5.below ((Below.refl _ _).alloc (Nat.le_refl _) _) h5.lt
  · have hb := H0.out.trans (H1.out.mono (by simp))
    have h5 := ((((hb.setCell (p := ⟨w.heap.size, 0, none⟩) (Nat.le_refl _) (.string t)).setCell (p := ⟨w.heap.size, 1, none⟩) (Nat.le_refl _) (.slice (some ⟨w.heap.size + 1, 0, none⟩) n n)).setCell (p := ⟨w.heap.size, 2, none⟩) (Nat.le_refl _) (.slice (some ⟨w1.heap.size, 0, none⟩) 1 1)).setCell (p := ⟨w.heap.size, 3, none⟩) (Nat.le_refl _) (.bool false)).setCell (p := ⟨w.heap.size, 4, none⟩) (Nat.le_refl _) (.bool false)
    exact h5.alloc h5.size _

/-! ### ZZsearch -/
theorem zzsearch_any (t : ByteArray) (n : Nat) (ent : Nat → Ent) (f : ByteArray) (wh : Bool) (nm : ByteArray) (a1 a2 a3 a4 a5 a6 : Option Addr) (c1 c2 c3 c4 c5 c6 : Nat) (w : World) (hn : n ≤ 1048576)
    (r1 : Rd w a1 n fun i => .int .u32 (ent i).at') (r2 : Rd w a2 n fun i => .int .u32 (ent i).nl) (r3 : Rd w a3 n fun i => .int .u32 (ent i).vl) (r4 : Rd w a4 n fun i => .int .u32 (ent i).fl)
    (r5 : Rd w a5 n fun i => .bool (ent i).whole) (r6 : Rd w a6 n fun i => .bool (ent i).sp) (hfit : ∀ i, i < n → (ent i).Fits t) (hsort : Pl.Sorted (keyAt ent t) n) :
    Calls Try.prog 8 #[.string t, .slice a1 n c1, .slice a2 n c2, .slice a3 n c3, .slice a4 n c4, .slice a5 n c5, .slice a6 n c6, .string f, .bool wh, .string nm] w
      fun r w' => ∃ (i : Nat) (b : Bool), r = .returned (.tuple #[.int .i64 i, .bool b]) ∧ Pl.Found (keyAt ent t) n (mkKey f wh nm) i ∧ (b = true ↔ i < n ∧ Pl.kc (keyAt ent t i) (mkKey f wh nm) = 0) ∧ Below w.heap.size w w' := by
  have C12 := hid (source_any t n ent a1 a2 a3 a4 a5 a6 c1 c2 c3 c4 c5 c6 w hn r1 r2 r3 r4 r5 r6)
  clear r1 r2 r3 r4 r5 r6
  have Hf := hid hfit
  clear hfit
  go_enter Try.func8, Try.ntmps8
  go_wp2_with fail
  refine (C12.out).mono ?_
  rintro r w1 ⟨E, G, rfl, hE, hb1⟩
  have cell := fun i hi c v hv => hE.e i hi c v hv
  clear C12
  go_wp2_with fail
  refine (searchS_any t n ent f wh nm E G w1 (fun i hi => cell i hi 0 _ rfl) (fun i hi => cell i hi 1 _ rfl) (fun i hi => cell i hi 2 _ rfl) (fun i hi => cell i hi 3 _ rfl) (fun i hi => cell i hi 4 _ rfl) (fun i hi => cell i hi 5 _ rfl) (fun i hi => cell i hi 6 _ rfl) (fun i hi => cell i hi 7 _ rfl) hn Hf.out hsort).mono ?_
  rintro r w2 ⟨i, b, rfl, hF, hi, hb2⟩
  have HF := hid hF
  have Hi := hid hi
  clear hF hi cell hE
  go_wp2_with fail
  go_ret2
  exact ⟨i, b, rfl, HF.out, Hi.out, hb1.trans (hb2.mono hb1.size)⟩

end Go.Proofs.Qxb6616256a
