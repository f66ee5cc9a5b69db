import Derived.Test.Qxb6616314aRows
import Derived.WalkKit
import Derived.WalkSpells
import Derived.WalkLawsBesides
import Derived.ProofKit
namespace Go.Proofs.Qxb6616314a
open Go.RowKit
set_option maxHeartbeats 1000000

theorem hid {p : Prop} (h : p) : Hid p := h

/-- The key of a name. -/
def keyOf (s : ByteArray) : ByteArray := { data := #[116, 114, 97, 110, 115, 105, 116, 105, 111, 110, 115, 46] } ++ s ++ { data := #[46, 116, 111] }

theorem keyOf_list (s : ByteArray) : (keyOf s).toList = [116, 114, 97, 110, 115, 105, 116, 105, 111, 110, 115, 46] ++ (s.toList ++ [46, 116, 111]) := by
  rw [ByteArray.toList_eq, ByteArray.toList_eq]
  unfold keyOf
  simp

theorem keyOf_size (s : ByteArray) : (keyOf s).size = s.size + 15 := by
  unfold keyOf
  rw [ByteArray.size_append, ByteArray.size_append]
  show 12 + s.size + 3 = _
  omega

theorem size_list (s : ByteArray) : s.toList.length = s.size := by rw [ByteArray.toList_eq]; rfl

theorem key_eq (a b : ByteArray) : ((keyOf a).toList == (keyOf b).toList) = (a.toList == b.toList) := by
  rw [keyOf_list, keyOf_list, Bool.eq_iff_iff, beq_iff_eq, beq_iff_eq]
  constructor
  · intro h
    exact List.append_cancel_right (List.append_cancel_left h)
  · intro h; rw [h]

theorem less_head (x : UInt8) (l r : List UInt8) : Op.bytesLess (x :: l) (x :: r) = Op.bytesLess l r := by
  rw [Op.bytesLess]; simp [UInt8.lt_irrefl]

theorem less_pre : ∀ (p l r : List UInt8), Op.bytesLess (p ++ l) (p ++ r) = Op.bytesLess l r
  | [], _, _ => rfl
  | x :: p, l, r => by rw [List.cons_append, List.cons_append, less_head]; exact less_pre p l r

theorem less_self : ∀ l : List UInt8, Op.bytesLess l l = false
  | [] => rfl
  | x :: l => by rw [less_head]; exact less_self l

theorem less_suf (q : List UInt8) : ∀ l r : List UInt8, l.length = r.length → Op.bytesLess (l ++ q) (r ++ q) = Op.bytesLess l r
  | [], [], _ => less_self q
  | [], _ :: _, h => by simp at h
  | _ :: _, [], h => by simp at h
  | x :: l, y :: r, h => by
    rw [List.cons_append, List.cons_append, Op.bytesLess, Op.bytesLess, less_suf q l r (by simpa using h)]

theorem key_less (a b : ByteArray) (h : a.size = b.size) : Op.bytesLess (keyOf a).toList (keyOf b).toList = Op.bytesLess a.toList b.toList := by
  rw [keyOf_list, keyOf_list, less_pre, less_suf _ _ _ (by rw [size_list, size_list]; exact h)]

theorem toKey_any (s : ByteArray) (b : Nat) (w : World) (hc : w.cell? ⟨b, 0, none⟩ = some (.string s)) (hs : s.size ≤ 1048576) :
    Calls Try.prog 24 #[.pointer (some ⟨b, 0, none⟩)] w fun e w' => e = .returned (.string (keyOf s)) ∧ w' = w := by
  go_enter Try.func24, Try.ntmps24
  go_wp2
  go_ret
  exact ⟨rfl, rfl⟩

theorem zzKey_any (s : ByteArray) (w : World) (hs : s.size ≤ 1048576) :
    Calls Try.prog 17 #[.string s] w fun e w' => e = .returned (.string (keyOf s)) ∧ Grown w w' := by
  go_enter Try.func17, Try.ntmps17
  go_wp2_with fail
  refine (toKey_any s w.heap.size _ (by simp [go_sem]) hs).mono ?_
  rintro e w1 ⟨rfl, rfl⟩
  go_wp2_with fail
  go_ret
  exact ⟨rfl, (Grown.refl _).alloc _ _⟩

def BytesPost (w : World) (a b : ByteArray) (e : Ending) (w' : World) : Prop := ∃ r, e = .returned (.bool r) ∧ w' = w ∧ (r = true → a.size ≤ 1048576 ∧ b.size ≤ 1048576)
theorem BytesPost.no (w : World) (a b : ByteArray) : BytesPost w a b (.returned (.bool false)) w := ⟨false, rfl, rfl, fun h => by cases h⟩
theorem bytes_any (a b : ByteArray) (w : World) (ha : a.size ≤ maxLen) (hb : b.size ≤ maxLen) : Calls Try.prog 16 #[.string a, .string b] w (BytesPost w a b) := by
  unfold maxLen at ha hb
  go_enter Try.func16, Try.ntmps16
  go_wp2
  all_goals
    go_ret
    first
    | exact BytesPost.no ..
    | exact ⟨true, rfl, rfl, fun _ => by omega⟩

theorem grown_and {a b c : World} (h : Grown a b) (k : Grown b c) : Grown a c :=
  ⟨World.keptBut_trans h.1 k.1, fun x => (k.2.1 x).trans (h.2.1 x), Nat.le_trans h.2.2 k.2.2⟩

theorem law_any (a b : ByteArray) (w : World) (ha : a.size ≤ maxLen) (hb : b.size ≤ maxLen) :
    Calls Try.prog 5 #[.string a, .string b] w fun e w' => e = .returned (.bool true) ∧ Grown w w' := by
  have C16 := hid (bytes_any a b w ha hb)
  clear ha hb
  go_enter Try.func5, Try.ntmps5
  go_wp2_with fail
  refine (C16.out).mono ?_
  rintro e w0 ⟨r, rfl, rfl, hr⟩
  cases r
  · clear hr
    go_wp2_with fail
    go_ret
    exact ⟨rfl, Grown.refl _⟩
  obtain ⟨ha, hb⟩ := hr rfl
  have za := keyOf_size a
  have zb := keyOf_size b
  have hI := key_eq a b
  have hO := key_less a b
  have C17a := hid (fun w => zzKey_any a w ha)
  have C17b := hid (fun w => zzKey_any b w hb)
  clear C16 hr
  generalize keyOf a = ka at *
  generalize keyOf b = kb at *
  go_wp2_with fail
  refine (C17a.out _).mono ?_
  rintro e w1 ⟨rfl, g1⟩
  go_wp2_with fail
  refine (C17b.out _).mono ?_
  rintro e w2 ⟨rfl, g2⟩
  have g := grown_and g1 g2
  clear C17a C17b g1 g2
  by_cases hl : a.size = b.size
  · have hO' := hO hl
    have hlb : ((a.size : Int) == (b.size : Int)) = true := beq_iff_eq.2 (by omega)
    clear hO hl
    go_wp2_with fail
    go_ret
    exact ⟨rfl, g⟩
  · have hlb : ((a.size : Int) == (b.size : Int)) = false := beq_eq_false_iff_ne.2 (by omega)
    clear hO hl
    go_wp2_with fail
    go_ret
    exact ⟨rfl, g⟩
end Go.Proofs.Qxb6616314a
