import Derived.Test.Qxb6616256aRows
import Derived.Test.Qxb6616256aPlain
import Derived.WalkKit
import Derived.WalkSpells
import Derived.WalkLawsBesides
import Derived.ProofKit
import Derived.Lib.Bytealg
import Derived.Deep.QuietTactic
import Derived.BigQuiet
namespace Go.Proofs.Qxb6616256a
open Go.RowKit
set_option maxHeartbeats 400000

theorem hid {p : Prop} (h : p) : Hid p := h

theorem cmpString_any (a b : ByteArray) (w : World) :
    Calls Try.prog 21 #[.string a, .string b] w fun e w' => e = .returned (.int .i64 (Lib.compareBytes a.data.toList b.data.toList)) ∧ w' = w := by
  go_enter Try.func21, Try.ntmps21
  go_wp2
  rw [run_callFunc_extern Try.func22 (by kernel_rfl) (by kernel_rfl) (by kernel_rfl) (e := Extern.BytealgCompare.compare) (by kernel_rfl), Lib.run_compareString]
  simp only [Result.andThen]
  rw [Oper.upon_value]
  go_wp2
  go_ret
  exact ⟨rfl, rfl⟩

theorem compare_any (a b : ByteArray) (w : World) :
    Calls Try.prog 18 #[.string a, .string b] w fun e w' => e = .returned (.int .i64 (Lib.compareBytes a.data.toList b.data.toList)) ∧ w' = w := by
  go_enter Try.func18, Try.ntmps18
  go_wp2_with (go_at_call 21; refine (cmpString_any _ _ _).mono ?_; rintro e w' ⟨rfl, rfl⟩)
  go_ret
  exact ⟨rfl, rfl⟩

/-! ### a string's pieces -/
/-- One entry: where its name starts, the three lengths, and the two flags. -/
structure Ent where
  at' : Nat
  nl : Nat
  vl : Nat
  fl : Nat
  whole : Bool
  sp : Bool

def Ent.start (e : Ent) : Nat := if e.sp then e.at' + e.nl + e.vl else e.at'
def Ent.form (e : Ent) (t : ByteArray) : ByteArray := t.extract e.start (e.start + e.fl)
def Ent.name (e : Ent) (t : ByteArray) : ByteArray := t.extract e.at' (e.at' + e.nl)
def Ent.key (e : Ent) (t : ByteArray) : Pl.Key := ⟨(e.form t).data.toList, e.whole, (e.name t).data.toList⟩
def mkKey (f : ByteArray) (w : Bool) (n : ByteArray) : Pl.Key := ⟨f.data.toList, w, n.data.toList⟩

structure Ent.Fits (e : Ent) (t : ByteArray) : Prop where
  a : e.at' ≤ 1048576
  n : e.nl ≤ 1048576
  v : e.vl ≤ 1048576
  f : e.fl ≤ 1048576
  en : e.at' + e.nl + e.vl ≤ t.size
  fo : e.start + e.fl ≤ t.size

theorem name_any (t : ByteArray) (e : Ent) (w : World) (h : e.Fits t) :
    Calls Try.prog 11 #[.string t, .int .u32 e.at', .int .u32 e.nl] w fun r w' => r = .returned (.string (e.name t)) ∧ w' = w := by
  obtain ⟨h1, h2, _, _, h3, _⟩ := h
  have h4 : e.at' + e.nl ≤ t.size := by omega
  go_enter Try.func11, Try.ntmps11
  go_wp2
  go_ret
  exact ⟨rfl, rfl⟩

theorem form_any (t : ByteArray) (e : Ent) (w : World) (h : e.Fits t) :
    Calls Try.prog 10 #[.string t, .int .u32 e.at', .int .u32 e.nl, .int .u32 e.vl, .int .u32 e.fl, .bool e.sp] w fun r w' => r = .returned (.string (e.form t)) ∧ w' = w := by
  obtain ⟨at', nl, vl, fl, wh, sp⟩ := e
  obtain ⟨h1, h2, h4, h5, _, h3⟩ := h
  unfold Ent.form
  unfold Ent.start at h3 ⊢
  simp only at h1 h2 h3 h4 h5 ⊢
  cases sp
  · simp only [Bool.false_eq_true, if_false] at h3 ⊢
    go_enter Try.func10, Try.ntmps10
    go_wp2
    go_ret
    exact ⟨rfl, rfl⟩
  · simp only [if_true] at h3 ⊢
    go_enter Try.func10, Try.ntmps10
    go_wp2
    go_ret
    exact ⟨by rw [Nat.add_assoc at' nl vl]; rfl, rfl⟩

theorem toList_eq (a : ByteArray) : a.toList = a.data.toList := ByteArray.toList_eq a

theorem less_cb : ∀ a b : List UInt8, Op.bytesLess a b = decide (Lib.compareBytes a b < 0)
  | [], [] => rfl
  | [], _ :: _ => rfl
  | _ :: _, [] => rfl
  | a :: x, b :: y => by
    rw [Pl.cb_cons, Op.bytesLess, less_cb x y]
    rcases Pl.u8_tri a b with h | h | h
    · rw [if_pos h]; simp [h]
    · subst h; simp [UInt8.lt_irrefl]
    · rw [if_neg (UInt8.lt_asymm h), if_pos h]
      have hn : (a == b) = false := by rw [beq_eq_false_iff_ne]; intro e; subst e; exact UInt8.lt_irrefl _ h
      simp [UInt8.lt_asymm h, hn]

theorem eq_cb (a b : List UInt8) : (a == b) = decide (Lib.compareBytes a b = 0) := by
  rw [Bool.eq_iff_iff, beq_iff_eq, decide_eq_true_eq]
  exact ⟨fun e => by rw [e]; exact Pl.cb_refl b, Pl.cb_eq a b⟩

theorem ret_int {k : IntKind} {a b : Int} (h : a = b) : Ending.returned (.int k a) = .returned (.int k b) := by rw [h]

theorem ne_cb {a b : ByteArray} (h : (!a.toList == b.toList) = true) : Lib.compareBytes a.data.toList b.data.toList ≠ 0 := by
  rw [toList_eq, toList_eq, eq_cb] at h; simpa using h
theorem e_cb {a b : ByteArray} (h : (!a.toList == b.toList) = false) : Lib.compareBytes a.data.toList b.data.toList = 0 := by
  rw [toList_eq, toList_eq, eq_cb] at h; simpa using h
theorem lt_cb {a b : ByteArray} (h : Op.bytesLess a.toList b.toList = true) : Lib.compareBytes a.data.toList b.data.toList = -1 := by
  rw [toList_eq, toList_eq, less_cb] at h
  have := Pl.cb_range a.data.toList b.data.toList
  have h2 := of_decide_eq_true h
  omega
theorem nlt_cb {a b : ByteArray} (h : Op.bytesLess a.toList b.toList = false) : 0 ≤ Lib.compareBytes a.data.toList b.data.toList := by
  rw [toList_eq, toList_eq, less_cb] at h
  have h2 := of_decide_eq_false h
  omega

theorem kc_mk (fa fb na nb : ByteArray) (wa wb : Bool) : Pl.kc (mkKey fa wa na) (mkKey fb wb nb) = if Lib.compareBytes fa.data.toList fb.data.toList = 0 then (if Pl.bc wa wb = 0 then Lib.compareBytes na.data.toList nb.data.toList else Pl.bc wa wb) else Lib.compareBytes fa.data.toList fb.data.toList := rfl

theorem kc_1 {fa fb na nb : ByteArray} {wa wb : Bool} (h1 : (!fa.toList == fb.toList) = true) (h2 : Op.bytesLess fa.toList fb.toList = true) : Pl.kc (mkKey fa wa na) (mkKey fb wb nb) = -1 := by
  rw [kc_mk]
  rw [if_neg (ne_cb h1)]; exact lt_cb h2
theorem kc_2 {fa fb na nb : ByteArray} {wa wb : Bool} (h1 : (!fa.toList == fb.toList) = true) (h2 : Op.bytesLess fa.toList fb.toList = false) : Pl.kc (mkKey fa wa na) (mkKey fb wb nb) = 1 := by
  have a := ne_cb h1
  have b := nlt_cb h2
  have c := Pl.cb_range fa.data.toList fb.data.toList
  rw [kc_mk]
  rw [if_neg a]; show Lib.compareBytes fa.data.toList fb.data.toList = 1; omega
theorem kc_3 {fa fb na nb : ByteArray} {wa wb : Bool} (h1 : (!fa.toList == fb.toList) = false) (h2 : (!wa == wb) = true) (h3 : wa = true) : Pl.kc (mkKey fa wa na) (mkKey fb wb nb) = -1 := by
  rw [kc_mk]
  rw [if_pos (e_cb h1)]; subst h3; cases wb
  · rfl
  · cases h2
theorem kc_4 {fa fb na nb : ByteArray} {wa wb : Bool} (h1 : (!fa.toList == fb.toList) = false) (h2 : (!wa == wb) = true) (h3 : wa = false) : Pl.kc (mkKey fa wa na) (mkKey fb wb nb) = 1 := by
  rw [kc_mk]
  rw [if_pos (e_cb h1)]; subst h3; cases wb
  · cases h2
  · rfl
theorem bc_0 {wa wb : Bool} (h2 : (!wa == wb) = false) : Pl.bc wa wb = 0 := by revert h2; cases wa <;> cases wb <;> decide
theorem kc_5 {fa fb na nb : ByteArray} {wa wb : Bool} (h1 : (!fa.toList == fb.toList) = false) (h2 : (!wa == wb) = false) (h3 : Op.bytesLess na.toList nb.toList = true) : Pl.kc (mkKey fa wa na) (mkKey fb wb nb) = -1 := by
  rw [kc_mk]
  rw [if_pos (e_cb h1), if_pos (bc_0 h2)]; exact lt_cb h3
theorem kc_6 {fa fb na nb : ByteArray} {wa wb : Bool} (h1 : (!fa.toList == fb.toList) = false) (h2 : (!wa == wb) = false) (h3 : Op.bytesLess na.toList nb.toList = false) (h4 : (!na.toList == nb.toList) = true) : Pl.kc (mkKey fa wa na) (mkKey fb wb nb) = 1 := by
  have a := ne_cb h4
  have b := nlt_cb h3
  have c := Pl.cb_range na.data.toList nb.data.toList
  rw [kc_mk]
  rw [if_pos (e_cb h1), if_pos (bc_0 h2)]; show Lib.compareBytes na.data.toList nb.data.toList = 1; omega
theorem kc_7 {fa fb na nb : ByteArray} {wa wb : Bool} (h1 : (!fa.toList == fb.toList) = false) (h2 : (!wa == wb) = false) (h4 : (!na.toList == nb.toList) = false) : Pl.kc (mkKey fa wa na) (mkKey fb wb nb) = 0 := by
  rw [kc_mk]
  rw [if_pos (e_cb h1), if_pos (bc_0 h2)]; exact e_cb h4

theorem keyCmp_any (fa : ByteArray) (wa : Bool) (na fb : ByteArray) (wb : Bool) (nb : ByteArray) (w : World) :
    Calls Try.prog 9 #[.string fa, .bool wa, .string na, .string fb, .bool wb, .string nb] w fun e w' => e = .returned (.int .i64 (Pl.kc (mkKey fa wa na) (mkKey fb wb nb))) ∧ w' = w := by
  cases h1 : (!fa.toList == fb.toList)
  · cases h2 : (!wa == wb)
    · cases h3 : Op.bytesLess na.toList nb.toList
      · cases h4 : (!na.toList == nb.toList)
        · rw [kc_7 h1 h2 h4]
          go_enter Try.func9, Try.ntmps9
          go_wp2
          go_ret
          exact ⟨rfl, rfl⟩
        · rw [kc_6 h1 h2 h3 h4]
          go_enter Try.func9, Try.ntmps9
          go_wp2
          go_ret
          exact ⟨rfl, rfl⟩
      · rw [kc_5 h1 h2 h3]
        go_enter Try.func9, Try.ntmps9
        go_wp2
        go_ret
        exact ⟨rfl, rfl⟩
    · cases wa <;> cases wb
      · cases h2
      · rw [kc_4 h1 h2 rfl]
        clear h2
        go_enter Try.func9, Try.ntmps9
        go_wp2
        go_ret
        exact ⟨rfl, rfl⟩
      · rw [kc_3 h1 h2 rfl]
        clear h2
        go_enter Try.func9, Try.ntmps9
        go_wp2
        go_ret
        exact ⟨rfl, rfl⟩
      · cases h2
  · cases h2 : Op.bytesLess fa.toList fb.toList
    · rw [kc_2 h1 h2]
      go_enter Try.func9, Try.ntmps9
      go_wp2
      go_ret
      exact ⟨rfl, rfl⟩
    · rw [kc_1 h1 h2]
      go_enter Try.func9, Try.ntmps9
      go_wp2
      go_ret
      exact ⟨rfl, rfl⟩

/-! ### the methods of entry: the receiver is boxed -/
def Ent.agg (e : Ent) : Value := .agg #[.int .u32 e.at', .int .u32 e.nl, .int .u32 e.vl, .int .u32 e.fl, .int .u32 1, .int .u32 0, .bool e.whole, .bool e.sp]

theorem eform_any (t : ByteArray) (e : Ent) (w : World) (h : e.Fits t) :
    Calls Try.prog 19 #[.agg #[.int .u32 e.at', .int .u32 e.nl, .int .u32 e.vl, .int .u32 e.fl, .int .u32 1, .int .u32 0, .bool e.whole, .bool e.sp], .string t] w fun r w' => r = .returned (.string (e.form t)) ∧ Below w.heap.size w w' := by
  obtain ⟨at', nl, vl, fl, wh, sp⟩ := e
  obtain ⟨h1, h2, h4, h5, _, h3⟩ := h
  unfold Ent.form
  unfold Ent.start at h3 ⊢
  simp only at h1 h2 h3 h4 h5 ⊢
  cases sp
  · simp only [Bool.false_eq_true, if_false] at h3 ⊢
    go_enter Try.func19, Try.ntmps19
    go_wp2
    go_ret
    exact ⟨rfl, (Below.refl _ _).alloc (Nat.le_refl _) _⟩
  · simp only [if_true] at h3 ⊢
    go_enter Try.func19, Try.ntmps19
    go_wp2
    go_ret
    exact ⟨by rw [Nat.add_assoc at' nl vl]; rfl, (Below.refl _ _).alloc (Nat.le_refl _) _⟩

theorem ename_any (t : ByteArray) (e : Ent) (w : World) (h : e.Fits t) :
    Calls Try.prog 20 #[.agg #[.int .u32 e.at', .int .u32 e.nl, .int .u32 e.vl, .int .u32 e.fl, .int .u32 1, .int .u32 0, .bool e.whole, .bool e.sp], .string t] w fun r w' => r = .returned (.string (e.name t)) ∧ Below w.heap.size w w' := by
  obtain ⟨h1, h2, _, _, h3, _⟩ := h
  have h4 : e.at' + e.nl ≤ t.size := by omega
  go_enter Try.func20, Try.ntmps20
  go_wp2
  go_ret
  exact ⟨rfl, (Below.refl _ _).alloc (Nat.le_refl _) _⟩

end Go.Proofs.Qxb6616256a
