import Derived.Test.Qxb6616256aCompare
import Derived.Deep.RegionHeld3
namespace Go.Proofs.Qxb6616256a
open Go.RowKit
set_option maxHeartbeats 1000000

/-- What the closure reads. -/
structure Src (w : World) (B E : Nat) (t : ByteArray) (n : Nat) (ent : Nat → Ent) (f : ByteArray) (wh : Bool) (nm : ByteArray) : Prop where
  s0 : w.cell? ⟨B, 0, none⟩ = some (.string t)
  s1 : w.cell? ⟨B, 1, none⟩ = some (.slice (some ⟨E, 0, none⟩) n n)
  sf : w.cell? ⟨B + 1, 0, none⟩ = some (.string f)
  sw : w.cell? ⟨B + 2, 0, none⟩ = some (.bool wh)
  sn : w.cell? ⟨B + 3, 0, none⟩ = some (.string nm)
  e0 : ∀ i, i < n → w.cell? ⟨E, i * 8, none⟩ = some (.int .u32 (ent i).at')
  e1 : ∀ i, i < n → w.cell? ⟨E, i * 8 + 1, none⟩ = some (.int .u32 (ent i).nl)
  e2 : ∀ i, i < n → w.cell? ⟨E, i * 8 + 2, none⟩ = some (.int .u32 (ent i).vl)
  e3 : ∀ i, i < n → w.cell? ⟨E, i * 8 + 3, none⟩ = some (.int .u32 (ent i).fl)
  e4 : ∀ i, i < n → w.cell? ⟨E, i * 8 + 4, none⟩ = some (.int .u32 1)
  e5 : ∀ i, i < n → w.cell? ⟨E, i * 8 + 5, none⟩ = some (.int .u32 0)
  e6 : ∀ i, i < n → w.cell? ⟨E, i * 8 + 6, none⟩ = some (.bool (ent i).whole)
  e7 : ∀ i, i < n → w.cell? ⟨E, i * 8 + 7, none⟩ = some (.bool (ent i).sp)

theorem closure_any (t : ByteArray) (n : Nat) (ent : Nat → Ent) (f : ByteArray) (wh : Bool) (nm : ByteArray) (B E : Nat) (i : Nat) (w : World) (hS : Src w B E t n ent f wh nm) (hi : i < n) (_hn : n ≤ 1048576) (hfit : (ent i).Fits t) :
    Calls Try.prog 16 #[.int .i64 i, .pointer (some ⟨B, 0, none⟩), .pointer (some ⟨B + 1, 0, none⟩), .pointer (some ⟨B + 2, 0, none⟩), .pointer (some ⟨B + 3, 0, none⟩)] w
      fun r w' => r = .returned (.bool (decide (0 ≤ Pl.kc (mkKey ((ent i).form t) (ent i).whole ((ent i).name t)) (mkKey f wh nm)))) ∧ Below w.heap.size w w' := by
  obtain ⟨s0, s1, sf, sw, sn, e0, e1, e2, e3, e4, e5, e6, e7⟩ := hS
  replace e0 := e0 i hi
  replace e1 := e1 i hi
  replace e2 := e2 i hi
  replace e3 := e3 i hi
  replace e4 := e4 i hi
  replace e5 := e5 i hi
  replace e6 := e6 i hi
  replace e7 := e7 i hi
  have hiI : (i : Int) < (n : Int) := by omega
  have lB : B < w.heap.size := World.block_lt_of_cell? w _ s0
  have lB1 : B + 1 < w.heap.size := World.block_lt_of_cell? w _ sf
  have lB2 : B + 2 < w.heap.size := World.block_lt_of_cell? w _ sw
  have lB3 : B + 3 < w.heap.size := World.block_lt_of_cell? w _ sn
  have lE : E < w.heap.size := World.block_lt_of_cell? w _ e0
  go_enter Try.func16, Try.ntmps16
  go_wp2
  go_region_held3 (fun w' => w'.cell? ⟨B, 0, none⟩ = some (.string t) ∧ w'.cell? ⟨B, 1, none⟩ = some (.slice (some ⟨E, 0, none⟩) n n) ∧ w'.cell? ⟨B + 1, 0, none⟩ = some (.string f) ∧ w'.cell? ⟨B + 2, 0, none⟩ = some (.bool wh) ∧ w'.cell? ⟨B + 3, 0, none⟩ = some (.string nm) ∧
      w'.cell? ⟨E, i * 8, none⟩ = some (.int .u32 (ent i).at') ∧ w'.cell? ⟨E, i * 8 + 1, none⟩ = some (.int .u32 (ent i).nl) ∧ w'.cell? ⟨E, i * 8 + 2, none⟩ = some (.int .u32 (ent i).vl) ∧ w'.cell? ⟨E, i * 8 + 3, none⟩ = some (.int .u32 (ent i).fl) ∧
      w'.cell? ⟨E, i * 8 + 4, none⟩ = some (.int .u32 1) ∧ w'.cell? ⟨E, i * 8 + 5, none⟩ = some (.int .u32 0) ∧ w'.cell? ⟨E, i * 8 + 6, none⟩ = some (.bool (ent i).whole) ∧ w'.cell? ⟨E, i * 8 + 7, none⟩ = some (.bool (ent i).sp))
    (simp [*])
    (first | (go_at_call 17; refine (compareE_any t (ent i) f wh nm _ hfit).mono ?_; rintro r w1 ⟨rfl, hb0⟩; have hb : Below w.heap.size w w1 := ((Below.refl w.heap.size w).drew).trans hb0; clear hb0; have hc : ∀ b o, b < w.heap.size → w1.cell? ⟨b, o, none⟩ = w.cell? ⟨b, o, none⟩ := bcell hb))
  go_wp2
  go_ret
  exact ⟨rfl, hb⟩

theorem Src.below {w w' : World} {B E : Nat} {t : ByteArray} {n : Nat} {ent : Nat → Ent} {f : ByteArray} {wh : Bool} {nm : ByteArray} (hS : Src w B E t n ent f wh nm) (hb : Below w.heap.size w w') : Src w' B E t n ent f wh nm := by
  have up : ∀ {a : Addr} {v : Value}, w.cell? a = some v → w'.cell? a = some v := fun {a v} h => (hb.cell (World.block_lt_of_cell? w a h)).trans h
  exact ⟨up hS.s0, up hS.s1, up hS.sf, up hS.sw, up hS.sn, fun i hi => up (hS.e0 i hi), fun i hi => up (hS.e1 i hi), fun i hi => up (hS.e2 i hi), fun i hi => up (hS.e3 i hi), fun i hi => up (hS.e4 i hi), fun i hi => up (hS.e5 i hi), fun i hi => up (hS.e6 i hi), fun i hi => up (hS.e7 i hi)⟩

def keyAt (ent : Nat → Ent) (t : ByteArray) (i : Nat) : Pl.Key := mkKey ((ent i).form t) (ent i).whole ((ent i).name t)

/-- What the search has found out so far. -/
def Nar (K : Nat → Pl.Key) (n : Nat) (q : Pl.Key) (i j : Nat) : Prop := i ≤ j ∧ j ≤ n ∧ (∀ k, k < i → Pl.kc (K k) q < 0) ∧ (∀ k, j ≤ k → k < n → 0 ≤ Pl.kc (K k) q)

theorem Nar.up {K : Nat → Pl.Key} {n : Nat} {q : Pl.Key} {i j : Nat} (hs : Pl.Sorted K n) (h : Nar K n q i j) (hij : i < j) (hd : ¬ 0 ≤ Pl.kc (K ((i + j) / 2)) q) : Nar K n q ((i + j) / 2 + 1) j := by
  obtain ⟨a, b, c, d⟩ := h
  refine ⟨by omega, b, fun k hk => ?_, d⟩
  by_cases e : 0 ≤ Pl.kc (K k) q
  · exact absurd (Pl.sorted_mono hs q k ((i + j) / 2) (by omega) (by omega) e) hd
  · omega

theorem Nar.down {K : Nat → Pl.Key} {n : Nat} {q : Pl.Key} {i j : Nat} (hs : Pl.Sorted K n) (h : Nar K n q i j) (hij : i < j) (hd : 0 ≤ Pl.kc (K ((i + j) / 2)) q) : Nar K n q i ((i + j) / 2) := by
  obtain ⟨a, b, c, d⟩ := h
  exact ⟨by omega, by omega, c, fun k hk hk2 => Pl.sorted_mono hs q _ k hk hk2 hd⟩

theorem Nar.done {K : Nat → Pl.Key} {n : Nat} {q : Pl.Key} {i j : Nat} (h : Nar K n q i j) (hij : ¬ i < j) : Pl.Found K n q i := by
  obtain ⟨a, b, c, d⟩ := h
  obtain rfl : i = j := by omega
  exact ⟨b, c, d⟩

theorem search_any (t : ByteArray) (n : Nat) (ent : Nat → Ent) (f : ByteArray) (wh : Bool) (nm : ByteArray) (B E : Nat) (w : World) (hS : Src w B E t n ent f wh nm) (hn : n ≤ 1048576) (hfit : ∀ i, i < n → (ent i).Fits t) (hsort : Pl.Sorted (keyAt ent t) n) :
    Calls Try.prog 15 #[.int .i64 n, .func (.func 16) #[] #[.pointer (some ⟨B, 0, none⟩), .pointer (some ⟨B + 1, 0, none⟩), .pointer (some ⟨B + 2, 0, none⟩), .pointer (some ⟨B + 3, 0, none⟩)]] w
      fun r w' => ∃ i : Nat, r = .returned (.int .i64 i) ∧ Pl.Found (keyAt ent t) n (mkKey f wh nm) i ∧ Below w.heap.size w w' := by
  have Hf := hid hfit
  clear hfit
  go_enter Try.func15, Try.ntmps15
  go_wp2_with fail
  go_loopw [5, 6] (fun a b wr => ∃ i j : Nat, a = .int .i64 i ∧ b = .int .i64 j ∧ Nar (keyAt ent t) n (mkKey f wh nm) i j ∧ Below w.heap.size w wr) (fun a b _ => (intOf b - intOf a).toNat)
  case atStart => exact ⟨0, n, rfl, rfl, ⟨Nat.zero_le _, Nat.le_refl _, fun k hk => absurd hk (Nat.not_lt_zero _), fun k h1 h2 => absurd h2 (by omega)⟩, Below.refl _ _⟩
  case round =>
    obtain ⟨i, j, rfl, rfl, hN, hbr⟩ := hrel
    by_cases hij : i < j
    · have hjn : j ≤ n := hN.2.1
      have hSr := hS.below hbr
      have hfi := Hf.out ((i + j) / 2) (by omega)
      go_wp2_with fail
      have hm : (i + j) / 2 < n := by omega
      have eh : ((i : Int) + (j : Int)) / 2 = (((i + j) / 2 : Nat) : Int) := by omega
      rw [eh]
      clear eh
      have hup := fun h => hN.up hsort hij h
      have hdn := fun h => hN.down hsort hij h
      have m1 : i ≤ (i + j) / 2 := by omega
      have m2 : (i + j) / 2 < j := by omega
      generalize (i + j) / 2 = h at *
      clear hN
      refine (closure_any t n ent f wh nm B E h wr hSr hm hn hfi).mono ?_
      rintro r w1 ⟨rfl, hb1⟩
      have hbx := hbr.trans (hb1.mono hbr.size)
      clear hb1 hSr hbr hfi
      by_cases hc : 0 ≤ Pl.kc (mkKey ((ent h).form t) (ent h).whole ((ent h).name t)) (mkKey f wh nm)
      · have hq := hid (hdn hc)
        clear hup hdn
        go_wp2_with fail
        go_roundw
        case rel => exact ⟨i, h, rfl, rfl, hq.out, hbx⟩
        case measure => simp [intOf]; omega
      · have hq := hid (hup hc)
        have hcb : decide (0 ≤ Pl.kc (mkKey ((ent h).form t) (ent h).whole ((ent h).name t)) (mkKey f wh nm)) = false := decide_eq_false hc
        clear hup hdn hc
        go_wp2_with fail
        go_roundw
        case rel => exact ⟨h + 1, j, by go_num, rfl, hq.out, hbx⟩
        case measure => simp [intOf]; omega
    · have hd := hN.done hij
      go_wp2_with fail
      go_ret
      exact ⟨i, rfl, hd, hbr⟩

end Go.Proofs.Qxb6616256a
