import Derived.Test.Qxb6616256aValidLen
import Derived.Laws.CopyOwn
import Derived.Deep.DeepCutAuto
import Derived.Deep.RegionHeld3
namespace Go.Proofs.Qxb6616256a
open Go.RowKit
set_option maxHeartbeats 2000000
set_option maxRecDepth 100000

theorem Try.info32 : (Try.prog.info? 32).map (fun i => (i.zero, i.size, i.bytes)) = some (some (.int .u32 0), 1, 4) := by kernel_rfl
theorem Try.info4 : (Try.prog.info? 4).map (fun i => (i.zero, i.size, i.bytes)) = some (some (.bool false), 1, 1) := by kernel_rfl

def made32 (n : Nat) : Array Value := madeCells #[.int .u32 0] n
def made4 (n : Nat) : Array Value := madeCells #[.bool false] n

theorem make22 (n : Nat) (hn : n ≤ 1048576) (w : World) : (Instr.makeSlice 22 (.int .i64 n) (.int .i64 n)).run Try.prog w = .ok (.slice (some ⟨w.heap.size, 0, none⟩) n n) (w.alloc (.cells (made32 n) 32)) := by
  obtain ⟨i0, hi, hz, hs, hb⟩ := info_parts Try.info32
  have h := run_make (P := Try.prog) w 22 32 i0 _ Try.underlying22 hi hz .i64 .i64 n n (by omega) (by omega) (by rw [hb]; omega) (by omega)
  rw [hs] at h
  simpa [made32, Value.cells] using h
theorem make23 (n : Nat) (hn : n ≤ 1048576) (w : World) : (Instr.makeSlice 23 (.int .i64 n) (.int .i64 n)).run Try.prog w = .ok (.slice (some ⟨w.heap.size, 0, none⟩) n n) (w.alloc (.cells (made4 n) 4)) := by
  obtain ⟨i0, hi, hz, hs, hb⟩ := info_parts Try.info4
  have h := run_make (P := Try.prog) w 23 4 i0 _ Try.underlying23 hi hz .i64 .i64 n n (by omega) (by omega) (by rw [hb]; omega) (by omega)
  rw [hs] at h
  simpa [made4, Value.cells] using h

/-- A slice that came in. -/
def Arg (w : World) (a : Option Addr) (n : Nat) (V : Nat → Value) : Prop := (a = none ∧ n = 0) ∨ ∃ ad, a = some ad ∧ ∀ i, i < n → w.cell? (ad.add i) = some (V i)

theorem Arg.below {w w' : World} {a : Option Addr} {n : Nat} {V : Nat → Value} (h : Arg w a n V) (hb : Below w.heap.size w w') : Arg w' a n V := by
  rcases h with h | ⟨ad, ha, h⟩
  · exact Or.inl h
  · exact Or.inr ⟨ad, ha, fun i hi => (hb.cell (World.block_lt_of_cell? w _ (h i hi))).trans (h i hi)⟩

theorem copied (wx : World) (T E n cap : Nat) (hu : Try.prog.underlying T = some (.slice E)) (hs : (Try.prog.info? E).map (·.size) = some 1) (ad : Addr) (V : Nat → Value) (hV : ∀ i, (V i).oneCell' = true) (cur : Array Value) (hcur : cur.size = n) (hc : ∀ i, i < n → wx.cell? (ad.add i) = some (V i)) :
    ∃ w2, (∀ ty, (Builtin.copy_ #[T, T] ty #[.slice (some ⟨wx.heap.size, 0, none⟩) n n, .slice (some ad) n cap]).run Try.prog (wx.alloc (.cells cur E)) = .ok (.int .i64 n) w2) ∧ Rd w2 (some ⟨wx.heap.size, 0, none⟩) n V ∧ Below wx.heap.size wx w2 := by
  have hb : Below wx.heap.size wx (wx.alloc (.cells cur E)) := (Below.refl _ _).alloc (Nat.le_refl _) _
  by_cases h0 : n = 0
  · subst h0
    exact ⟨_, fun ty => run_copy_none (P := Try.prog) _ T T ty E _ _ 0 0 0 cap hu hs rfl, Or.inl rfl, hb⟩
  · have hg : (wx.alloc (.cells cur E)).heap[wx.heap.size]? = some (.cells cur E) := (MapKept.heap_alloc wx _).1
    have hl : ((List.range n).map V).length = n := by simp
    have hr := fun ty => run_copy_row Try.prog (wx.alloc (.cells cur E)) T T ty E wx.heap.size 0 n n ad n cap cur E ((List.range n).map V) hu hs hg (by simp) (fun j v hj => by
      have hjn : j < n := by have := (List.getElem?_eq_some_iff.1 hj).1; simpa using this
      have hv : V j = v := by
        rw [List.getElem?_map, List.getElem?_range hjn] at hj
        simpa using hj
      rw [← hv, ← hc j hjn]
      exact hb.cell (World.block_lt_of_cell? wx _ (hc j hjn))) (by simp [hcur]) (fun v hv => by
        obtain ⟨i, _, rfl⟩ := List.mem_map.1 hv
        exact hV i)
    rw [hl] at hr
    refine ⟨_, fun ty => hr ty, Or.inr ⟨wx.heap.size, 0, rfl, fun i hi => ?_⟩, below_setRow hb (Nat.le_refl _) _⟩
    have h2 := setRow_heap (wx.alloc (.cells cur E)) wx.heap.size cur (List.take 0 cur.toList ++ (List.range n).map V ++ List.drop (0 + n) cur.toList).toArray E _ hg
    simp only [World.cell?, h2]
    have hd : List.drop n cur.toList = [] := List.drop_eq_nil_of_le (by simp [hcur])
    simp [hd, hi]

end Go.Proofs.Qxb6616256a
