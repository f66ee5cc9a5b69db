import Derived.Test.Qxb6616256aFind
import Derived.Laws.IdiomCopy
namespace Go.Proofs.Qxb6616256a
open Go.RowKit
set_option maxHeartbeats 1000000

/-- A slice that can be read: it has no element, or leads to its cells. -/
def Rd (w : World) (a : Option Addr) (n : Nat) (V : Nat → Value) : Prop := n = 0 ∨ ∃ b o, a = some ⟨b, o, none⟩ ∧ ∀ i, i < n → w.cell? ⟨b, o + i, none⟩ = some (V i)

theorem Rd.below {w w' : World} {a : Option Addr} {n : Nat} {V : Nat → Value} (h : Rd w a n V) (hb : Below w.heap.size w w') : Rd w' a n V := by
  rcases h with h | ⟨b, o, ha, h⟩
  · exact Or.inl h
  · exact Or.inr ⟨b, o, ha, fun i hi => (hb.cell (World.block_lt_of_cell? w _ (h i hi))).trans (h i hi)⟩

theorem Rd.open {w : World} {a : Option Addr} {n : Nat} {V : Nat → Value} (h : Rd w a n V) {i : Nat} (hi : i < n) : ∃ b o, a = some ⟨b, o, none⟩ ∧ w.cell? ⟨b, o + i, none⟩ = some (V i) ∧ b < w.heap.size := by
  rcases h with h | ⟨b, o, ha, h⟩
  · omega
  · exact ⟨b, o, ha, h i hi, World.block_lt_of_cell? w _ (h i hi)⟩

theorem Try.info46 : (Try.prog.info? 46).map (fun i => (i.zero, i.size, i.bytes)) = some (some (.agg #[.int .u32 0, .int .u32 0, .int .u32 0, .int .u32 0, .int .u32 0, .int .u32 0, .bool false, .bool false]), 8, 28) := by kernel_rfl

def made46 (n : Nat) : Array Value := madeCells #[.int .u32 0, .int .u32 0, .int .u32 0, .int .u32 0, .int .u32 0, .int .u32 0, .bool false, .bool false] (n * 8)

theorem make46 (n : Nat) (hn : n ≤ 1048576) (w : World) : (Instr.makeSlice 34 (.int .i64 n) (.int .i64 n)).run Try.prog w = .ok (.slice (some ⟨w.heap.size, 0, none⟩) n n) (w.alloc (.cells (made46 n) 46)) := by
  obtain ⟨i0, hi, hz, hs, hb⟩ := info_parts Try.info46
  have h := run_make (P := Try.prog) w 34 46 i0 _ Try.underlying34 hi hz .i64 .i64 n n (by omega) (by omega) (by rw [hb]; omega) (by omega)
  rw [hs] at h
  simpa [made46, Value.cells] using h

def Ent.cells (e : Ent) : List Value := [.int .u32 e.at', .int .u32 e.nl, .int .u32 e.vl, .int .u32 e.fl, .int .u32 1, .int .u32 0, .bool e.whole, .bool e.sp]

/-- The first k entries lie in block E. -/
structure EntsTo (w : World) (E n k : Nat) (ent : Nat → Ent) : Prop where
  lt : E < w.heap.size
  there : ∀ o, o < n * 8 → (w.cell? ⟨E, o, none⟩).isSome = true
  fro : ∀ o, w.frozen? ⟨E, o, none⟩ = false
  e : ∀ j, j < k → ∀ c v, (ent j).cells[c]? = some v → w.cell? ⟨E, j * 8 + c, none⟩ = some v

theorem size_setCells (E : Nat) : ∀ (vs : List Value) (o : Nat) (x : World), (x.setCells E o vs).heap.size = x.heap.size
  | [], _, _ => rfl
  | v :: r, o, x => by rw [World.setCells, size_setCells E r (o + 1)]; simp [World.setCell]

theorem EntsTo.step {w : World} {E n k : Nat} {ent : Nat → Ent} (h : EntsTo w E n k ent) (hk : k < n) : EntsTo (w.setCells E (k * 8) (ent k).cells) E n (k + 1) ent := by
  have h8 : (ent k).cells.length = 8 := rfl
  have hin := World.cell?_setCells_in E (ent k).cells (k * 8) w (fun j hj => h.there _ (by omega))
  refine ⟨by rw [size_setCells]; exact h.lt, fun o ho => ?_, fun o => by rw [World.frozen?_setCells]; exact h.fro o, fun j hj c v hv => ?_⟩
  · by_cases hr : k * 8 ≤ o ∧ o < k * 8 + 8
    · have := hin (o - k * 8) (by omega)
      rw [show k * 8 + (o - k * 8) = o by omega] at this
      rw [this]; rfl
    · rw [World.cell?_setCells_out E _ _ _ _ (fun _ _ => by simp only [h8]; omega)]
      exact h.there o ho
  · have hc : c < 8 := by
      have := (List.getElem?_eq_some_iff.1 hv).1
      exact this
    by_cases e : j = k
    · subst e
      rw [hin c (by omega)]
      rw [List.getElem?_eq_getElem (by omega)] at hv
      exact hv
    · rw [World.cell?_setCells_out E _ _ _ _ (fun _ _ => by simp only [h8]; omega)]
      exact h.e j (by omega) c v hv

theorem EntsTo.drew {w : World} {E n k : Nat} {ent : Nat → Ent} (h : EntsTo w E n k ent) : EntsTo w.drew E n k ent := ⟨h.lt, h.there, h.fro, h.e⟩

theorem below_setCells {B : Nat} {a : World} (E : Nat) (hE : B ≤ E) : ∀ (vs : List Value) (o : Nat) (x : World), Below B a x → Below B a (x.setCells E o vs)
  | [], _, _, h => h
  | v :: r, o, _, h => below_setCells E hE r (o + 1) _ (h.setCell (p := ⟨E, o, none⟩) hE v)

theorem EntsTo.below {w w' : World} {E n k B : Nat} {ent : Nat → Ent} (h : EntsTo w E n k ent) (hb : Below B w w') (hE : E < B) : EntsTo w' E n k ent := by
  have hc : ∀ o, w'.cell? ⟨E, o, none⟩ = w.cell? ⟨E, o, none⟩ := fun o => hb.cell (p := ⟨E, o, none⟩) hE
  have hf : ∀ o, w'.frozen? ⟨E, o, none⟩ = w.frozen? ⟨E, o, none⟩ := fun o => hb.frozen (p := ⟨E, o, none⟩) hE
  exact ⟨Nat.lt_of_lt_of_le h.lt hb.size, fun o ho => by rw [hc]; exact h.there o ho, fun o => by rw [hf]; exact h.fro o, fun j hj c v hv => by rw [hc]; exact h.e j hj c v hv⟩

theorem EntsTo.setCell {w : World} {E n k : Nat} {ent : Nat → Ent} (h : EntsTo w E n k ent) {a : Addr} (ha : a.block ≠ E) (v : Value) : EntsTo (w.setCell a v) E n k ent := by
  have hc : ∀ o, (w.setCell a v).cell? ⟨E, o, none⟩ = w.cell? ⟨E, o, none⟩ := fun o => World.cell?_setCell_other _ _ _ _ (fun e => ha (by rw [e]))
  have hf : ∀ o, (w.setCell a v).frozen? ⟨E, o, none⟩ = w.frozen? ⟨E, o, none⟩ := fun o => World.frozen?_setCell _ _ _ _
  exact ⟨by simpa [World.setCell] using h.lt, fun o ho => by rw [hc]; exact h.there o ho, fun o => by rw [hf]; exact h.fro o, fun j hj c v hv => by rw [hc]; exact h.e j hj c v hv⟩

theorem EntsTo.made (w : World) (n : Nat) (ent : Nat → Ent) : EntsTo (w.alloc (.cells (made46 n) 46)) w.heap.size n 0 ent := by
  refine ⟨by simp, fun o ho => ?_, fun o => ?_, fun j hj => absurd hj (Nat.not_lt_zero _)⟩
  · have hs : (made46 n).size = n * 8 := size_madeCells _ _
    have : (w.alloc (.cells (made46 n) 46)).heap[w.heap.size]? = some (.cells (made46 n) 46) := (MapKept.heap_alloc w _).1
    simp only [World.cell?, this]
    simp [hs, ho]
  · rw [frozen?_alloc_cells]
    simp [World.frozen?]

theorem entries_any (n : Nat) (ent : Nat → Ent) (a1 a2 a3 a4 a5 a6 : Option Addr) (c1 c2 c3 c4 c5 c6 : Nat) (w : World) (hn : n ≤ 1048576)
    (r1 : Rd w a1 n fun i => .int .u32 (ent i).at') (r2 : Rd w a2 n fun i => .int .u32 (ent i).nl) (r3 : Rd w a3 n fun i => .int .u32 (ent i).vl) (r4 : Rd w a4 n fun i => .int .u32 (ent i).fl)
    (r5 : Rd w a5 n fun i => .bool (ent i).whole) (r6 : Rd w a6 n fun i => .bool (ent i).sp) :
    Calls Try.prog 14 #[.slice a1 n c1, .slice a2 n c2, .slice a3 n c3, .slice a4 n c4, .slice a5 n c5, .slice a6 n c6] w
      fun r w' => r = .returned (.slice (some ⟨w.heap.size, 0, none⟩) n n) ∧ EntsTo w' w.heap.size n n ent ∧ Below w.heap.size w w' := by
  have hmk := make46 n hn
  go_enter Try.func14, Try.ntmps14
  go_wp2
  go_loopw [14, 20] (fun _ a wr => ∃ k : Nat, a = .int .i64 k ∧ k ≤ n ∧ Below w.heap.size w wr ∧ EntsTo wr w.heap.size n k ent) (fun _ a _ => (n - intOf a).toNat)
  case atStart => exact ⟨0, rfl, Nat.zero_le _, (Below.refl _ _).alloc (Nat.le_refl _) _, EntsTo.made w n ent⟩
  case round =>
    obtain ⟨k, rfl, hk, hb, hE⟩ := hrel
    have hfro := hE.fro
    have hsome := hE.there
    by_cases hlt : k < n
    · have hltI : (k : Int) < (n : Int) := by omega
      obtain ⟨b1, o1, rfl, d1, l1⟩ := r1.open hlt
      obtain ⟨b2, o2, rfl, d2, l2⟩ := r2.open hlt
      obtain ⟨b3, o3, rfl, d3, l3⟩ := r3.open hlt
      obtain ⟨b4, o4, rfl, d4, l4⟩ := r4.open hlt
      obtain ⟨b5, o5, rfl, d5, l5⟩ := r5.open hlt
      obtain ⟨b6, o6, rfl, d6, l6⟩ := r6.open hlt
      replace d1 := (hb.cell (p := ⟨b1, o1 + k, none⟩) l1).trans d1
      replace d2 := (hb.cell (p := ⟨b2, o2 + k, none⟩) l2).trans d2
      replace d3 := (hb.cell (p := ⟨b3, o3 + k, none⟩) l3).trans d3
      replace d4 := (hb.cell (p := ⟨b4, o4 + k, none⟩) l4).trans d4
      replace d5 := (hb.cell (p := ⟨b5, o5 + k, none⟩) l5).trans d5
      replace d6 := (hb.cell (p := ⟨b6, o6 + k, none⟩) l6).trans d6
      have n1 : ¬ w.heap.size = b1 := by omega
      have n2 : ¬ w.heap.size = b2 := by omega
      have n3 : ¬ w.heap.size = b3 := by omega
      have n4 : ¬ w.heap.size = b4 := by omega
      have n5 : ¬ w.heap.size = b5 := by omega
      have n6 : ¬ w.heap.size = b6 := by omega
      obtain ⟨v0, q0⟩ := Option.isSome_iff_exists.1 (hsome (k * 8) (by omega))
      obtain ⟨v1, q1⟩ := Option.isSome_iff_exists.1 (hsome (k * 8 + 1) (by omega))
      obtain ⟨v2, q2⟩ := Option.isSome_iff_exists.1 (hsome (k * 8 + 2) (by omega))
      obtain ⟨v3, q3⟩ := Option.isSome_iff_exists.1 (hsome (k * 8 + 3) (by omega))
      obtain ⟨v4, q4⟩ := Option.isSome_iff_exists.1 (hsome (k * 8 + 4) (by omega))
      obtain ⟨v5, q5⟩ := Option.isSome_iff_exists.1 (hsome (k * 8 + 5) (by omega))
      obtain ⟨v6, q6⟩ := Option.isSome_iff_exists.1 (hsome (k * 8 + 6) (by omega))
      obtain ⟨v7, q7⟩ := Option.isSome_iff_exists.1 (hsome (k * 8 + 7) (by omega))
      have HE := hid hE
      clear hsome hE l1 l2 l3 l4 l5 l6 r1 r2 r3 r4 r5 r6 hmk
      go_wp2
      go_region_held3 (fun w' => w'.cell? ⟨b1, o1 + k, none⟩ = some (.int .u32 (ent k).at') ∧ w'.cell? ⟨b2, o2 + k, none⟩ = some (.int .u32 (ent k).nl) ∧ w'.cell? ⟨b3, o3 + k, none⟩ = some (.int .u32 (ent k).vl) ∧ w'.cell? ⟨b4, o4 + k, none⟩ = some (.int .u32 (ent k).fl) ∧ w'.cell? ⟨b5, o5 + k, none⟩ = some (.bool (ent k).whole) ∧ w'.cell? ⟨b6, o6 + k, none⟩ = some (.bool (ent k).sp))
        (simp [World.cell?_setCell_other, *])
        (fail)
      go_wp2
      go_roundw
      case rel =>
        have hst := (HE.out.step hlt).drew
        exact ⟨k + 1, by go_num, by omega, (below_setCells w.heap.size (Nat.le_refl _) (ent k).cells (k * 8) wr hb).drew, hst⟩
      case measure => simp [intOf]; omega
    · obtain rfl : k = n := by omega
      go_wp2
      go_ret
      exact ⟨rfl, hE, hb⟩
end Go.Proofs.Qxb6616256a
