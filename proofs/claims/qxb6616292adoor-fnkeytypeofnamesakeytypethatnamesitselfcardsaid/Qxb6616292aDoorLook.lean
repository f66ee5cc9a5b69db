import Derived.Test.Qxb6616292aDoorRows
import Derived.WalkKit
import Derived.WalkSpells
import Derived.WalkLawsBesides
import Derived.ProofKit
namespace Go.Proofs.Qxb6616292aDoor
open Go.RowKit
set_option maxHeartbeats 1000000

theorem hid {p : Prop} (h : p) : Hid p := h

/-- KeyTypeOf, the look-up known. -/
theorem keyTypeOf_any (s kt : ByteArray) (h : Int) (ok : Bool) (bm : Nat) (w : World) (hc : w.cell? ⟨0, 0, none⟩ = some (.map (some bm)))
    (hl : (Instr.lookup 31 (.map (some bm)) (.string s) true).run Tryd.prog w = .ok (.tuple #[.agg #[.string kt, .int .u64 h], .bool ok]) w) :
    Calls Tryd.prog 5 #[.string s] w fun e w' => e = .returned (.tuple #[.string kt, .bool ok]) ∧ Below w.heap.size w w' := by
  go_enter Tryd.func5, Tryd.ntmps5
  go_wp2
  go_ret2
  exact ⟨rfl, (Below.refl _ _).alloc (Nat.le_refl _) _⟩

def BytesPost (w : World) (e : Ending) (w' : World) : Prop := (∃ b, e = .returned (.bool b)) ∧ w' = w
theorem bytes_any (s : ByteArray) (w : World) (hs : s.size ≤ maxLen) : Calls Tryd.prog 4 #[.string s] w (BytesPost w) := by
  unfold maxLen at hs
  go_enter Tryd.func4, Tryd.ntmps4
  go_wp2
  all_goals
    go_ret
    exact ⟨⟨_, rfl⟩, rfl⟩


theorem law_sha256 (s kt : ByteArray) (w : World) (hs : s.size ≤ maxLen) (hS : s.toList = [114, 115, 97, 45, 115, 104, 97, 50, 45, 50, 53, 54]) (hK : kt.toList = [115, 115, 104, 45, 114, 115, 97])
    (C1 : Hid (Calls Tryd.prog 5 #[.string s] w fun e w' => e = .returned (.tuple #[.string kt, .bool true]) ∧ Below w.heap.size w w'))
    (C2 : Hid (∀ w', Below w.heap.size w w' → Calls Tryd.prog 5 #[.string kt] w' fun e w'' => e = .returned (.tuple #[.string kt, .bool true]) ∧ Below w'.heap.size w' w'')) :
    Calls Tryd.prog 3 #[.string s] w fun e w' => e = .returned (.bool true) ∧ Below w.heap.size w w' := by
  have C4 := hid (fun w => bytes_any s w hs)
  unfold maxLen at hs
  go_enter Tryd.func3, Tryd.ntmps3
  go_wp2_with fail
  refine (C4.out _).mono ?_
  rintro e w1 ⟨⟨b, rfl⟩, rfl⟩
  cases b
  · go_wp2_with fail
    go_ret
    exact ⟨rfl, Below.refl _ _⟩
  by_cases hl : s.size ≤ 65536
  · go_wp2_with fail
    refine (C1.out).mono ?_
    rintro e w2 ⟨rfl, hb⟩
    go_wp2_with fail
    refine (C2.out _ hb).mono ?_
    rintro e w3 ⟨rfl, hb3⟩
    go_wp2_with fail
    go_ret
    exact ⟨rfl, hb.trans (hb3.mono hb.size)⟩
  · go_wp2_with fail
    go_ret
    exact ⟨rfl, Below.refl _ _⟩

theorem law_sha512 (s kt : ByteArray) (w : World) (hs : s.size ≤ maxLen) (hS : s.toList = [114, 115, 97, 45, 115, 104, 97, 50, 45, 53, 49, 50]) (hK : kt.toList = [115, 115, 104, 45, 114, 115, 97])
    (C1 : Hid (Calls Tryd.prog 5 #[.string s] w fun e w' => e = .returned (.tuple #[.string kt, .bool true]) ∧ Below w.heap.size w w'))
    (C2 : Hid (∀ w', Below w.heap.size w w' → Calls Tryd.prog 5 #[.string kt] w' fun e w'' => e = .returned (.tuple #[.string kt, .bool true]) ∧ Below w'.heap.size w' w'')) :
    Calls Tryd.prog 3 #[.string s] w fun e w' => e = .returned (.bool true) ∧ Below w.heap.size w w' := by
  have C4 := hid (fun w => bytes_any s w hs)
  unfold maxLen at hs
  go_enter Tryd.func3, Tryd.ntmps3
  go_wp2_with fail
  refine (C4.out _).mono ?_
  rintro e w1 ⟨⟨b, rfl⟩, rfl⟩
  cases b
  · go_wp2_with fail
    go_ret
    exact ⟨rfl, Below.refl _ _⟩
  by_cases hl : s.size ≤ 65536
  · go_wp2_with fail
    refine (C1.out).mono ?_
    rintro e w2 ⟨rfl, hb⟩
    go_wp2_with fail
    refine (C2.out _ hb).mono ?_
    rintro e w3 ⟨rfl, hb3⟩
    go_wp2_with fail
    go_ret
    exact ⟨rfl, hb.trans (hb3.mono hb.size)⟩
  · go_wp2_with fail
    go_ret
    exact ⟨rfl, Below.refl _ _⟩

theorem law_dsa (s kt : ByteArray) (w : World) (hs : s.size ≤ maxLen) (hS : s.toList = [115, 115, 104, 45, 100, 115, 115]) (hK : kt.toList = [115, 115, 104, 45, 100, 115, 115])
    (C1 : Hid (Calls Tryd.prog 5 #[.string s] w fun e w' => e = .returned (.tuple #[.string kt, .bool true]) ∧ Below w.heap.size w w'))
    (C2 : Hid (∀ w', Below w.heap.size w w' → Calls Tryd.prog 5 #[.string kt] w' fun e w'' => e = .returned (.tuple #[.string kt, .bool true]) ∧ Below w'.heap.size w' w'')) :
    Calls Tryd.prog 3 #[.string s] w fun e w' => e = .returned (.bool true) ∧ Below w.heap.size w w' := by
  have C4 := hid (fun w => bytes_any s w hs)
  unfold maxLen at hs
  go_enter Tryd.func3, Tryd.ntmps3
  go_wp2_with fail
  refine (C4.out _).mono ?_
  rintro e w1 ⟨⟨b, rfl⟩, rfl⟩
  cases b
  · go_wp2_with fail
    go_ret
    exact ⟨rfl, Below.refl _ _⟩
  by_cases hl : s.size ≤ 65536
  · go_wp2_with fail
    refine (C1.out).mono ?_
    rintro e w2 ⟨rfl, hb⟩
    go_wp2_with fail
    refine (C2.out _ hb).mono ?_
    rintro e w3 ⟨rfl, hb3⟩
    go_wp2_with fail
    go_ret
    exact ⟨rfl, hb.trans (hb3.mono hb.size)⟩
  · go_wp2_with fail
    go_ret
    exact ⟨rfl, Below.refl _ _⟩

theorem law_ed (s kt : ByteArray) (w : World) (hs : s.size ≤ maxLen) (hS : s.toList = [115, 115, 104, 45, 101, 100, 50, 53, 53, 49, 57]) (hK : kt.toList = [115, 115, 104, 45, 101, 100, 50, 53, 53, 49, 57])
    (C1 : Hid (Calls Tryd.prog 5 #[.string s] w fun e w' => e = .returned (.tuple #[.string kt, .bool true]) ∧ Below w.heap.size w w'))
    (C2 : Hid (∀ w', Below w.heap.size w w' → Calls Tryd.prog 5 #[.string kt] w' fun e w'' => e = .returned (.tuple #[.string kt, .bool true]) ∧ Below w'.heap.size w' w'')) :
    Calls Tryd.prog 3 #[.string s] w fun e w' => e = .returned (.bool true) ∧ Below w.heap.size w w' := by
  have C4 := hid (fun w => bytes_any s w hs)
  unfold maxLen at hs
  go_enter Tryd.func3, Tryd.ntmps3
  go_wp2_with fail
  refine (C4.out _).mono ?_
  rintro e w1 ⟨⟨b, rfl⟩, rfl⟩
  cases b
  · go_wp2_with fail
    go_ret
    exact ⟨rfl, Below.refl _ _⟩
  by_cases hl : s.size ≤ 65536
  · go_wp2_with fail
    refine (C1.out).mono ?_
    rintro e w2 ⟨rfl, hb⟩
    go_wp2_with fail
    refine (C2.out _ hb).mono ?_
    rintro e w3 ⟨rfl, hb3⟩
    go_wp2_with fail
    go_ret
    exact ⟨rfl, hb.trans (hb3.mono hb.size)⟩
  · go_wp2_with fail
    go_ret
    exact ⟨rfl, Below.refl _ _⟩

theorem law_rsa (s kt : ByteArray) (w : World) (hs : s.size ≤ maxLen) (hS : s.toList = [115, 115, 104, 45, 114, 115, 97]) (hK : kt.toList = [115, 115, 104, 45, 114, 115, 97])
    (C1 : Hid (Calls Tryd.prog 5 #[.string s] w fun e w' => e = .returned (.tuple #[.string kt, .bool true]) ∧ Below w.heap.size w w'))
    (C2 : Hid (∀ w', Below w.heap.size w w' → Calls Tryd.prog 5 #[.string kt] w' fun e w'' => e = .returned (.tuple #[.string kt, .bool true]) ∧ Below w'.heap.size w' w'')) :
    Calls Tryd.prog 3 #[.string s] w fun e w' => e = .returned (.bool true) ∧ Below w.heap.size w w' := by
  have C4 := hid (fun w => bytes_any s w hs)
  unfold maxLen at hs
  go_enter Tryd.func3, Tryd.ntmps3
  go_wp2_with fail
  refine (C4.out _).mono ?_
  rintro e w1 ⟨⟨b, rfl⟩, rfl⟩
  cases b
  · go_wp2_with fail
    go_ret
    exact ⟨rfl, Below.refl _ _⟩
  by_cases hl : s.size ≤ 65536
  · go_wp2_with fail
    refine (C1.out).mono ?_
    rintro e w2 ⟨rfl, hb⟩
    go_wp2_with fail
    refine (C2.out _ hb).mono ?_
    rintro e w3 ⟨rfl, hb3⟩
    go_wp2_with fail
    go_ret
    exact ⟨rfl, hb.trans (hb3.mono hb.size)⟩
  · go_wp2_with fail
    go_ret
    exact ⟨rfl, Below.refl _ _⟩

theorem law_none (s : ByteArray) (w : World) (hs : s.size ≤ maxLen) (h1 : ¬ s.toList = [115, 115, 104, 45, 114, 115, 97]) (h2 : ¬ s.toList = [115, 115, 104, 45, 100, 115, 115]) (h3 : ¬ s.toList = [115, 115, 104, 45, 101, 100, 50, 53, 53, 49, 57])
    (C1 : Hid (Calls Tryd.prog 5 #[.string s] w fun e w' => e = .returned (.tuple #[.string ⟨#[]⟩, .bool false]) ∧ Below w.heap.size w w')) :
    Calls Tryd.prog 3 #[.string s] w fun e w' => e = .returned (.bool true) ∧ Below w.heap.size w w' := by
  have C4 := hid (fun w => bytes_any s w hs)
  unfold maxLen at hs
  have k1 : (s.toList == [115, 115, 104, 45, 114, 115, 97]) = false := beq_eq_false_iff_ne.2 h1
  have k2 : (s.toList == [115, 115, 104, 45, 100, 115, 115]) = false := beq_eq_false_iff_ne.2 h2
  have k3 : (s.toList == [115, 115, 104, 45, 101, 100, 50, 53, 53, 49, 57]) = false := beq_eq_false_iff_ne.2 h3
  go_enter Tryd.func3, Tryd.ntmps3
  go_wp2_with fail
  refine (C4.out _).mono ?_
  rintro e w1 ⟨⟨b, rfl⟩, rfl⟩
  cases b
  · go_wp2_with fail
    go_ret
    exact ⟨rfl, Below.refl _ _⟩
  by_cases hl : s.size ≤ 65536
  · go_wp2_with fail
    refine (C1.out).mono ?_
    rintro e w2 ⟨rfl, hb⟩
    go_wp2_with fail
    go_ret
    exact ⟨rfl, hb⟩
  · go_wp2_with fail
    go_ret
    exact ⟨rfl, Below.refl _ _⟩

end Go.Proofs.Qxb6616292aDoor
