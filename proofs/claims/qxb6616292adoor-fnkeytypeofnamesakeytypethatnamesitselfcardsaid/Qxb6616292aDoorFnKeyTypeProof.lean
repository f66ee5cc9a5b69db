/-
  The proof of 'Rows.FnKeyTypeOfNamesAKeyTypeThatNamesItselfCardSaid': after the guide's Mapy texts: the listed map is opened, each look-up is answered off the datum; the named variable reads behind the call as it did.
-/
import Derived.Test.Qxb6616292aDoorRows
import Derived.Test.Qxb6616292aDoorTie
import Derived.Test.Qxb6616292aDoorCards
import Derived.Test.Qxb6616292aDoorLook
import Derived.ProofKit
import Derived.LaidMore
import Derived.OpenShut
import Derived.OpenVars
import Derived.ShutString
import Derived.Stop.Joined
import Derived.SevenTiedAt
namespace Go.Proofs.Qxb6616292aDoor
open Go.ChangeShapes Go.WideShapes Go.ChangeAt Go.WideMaps Go.WideElems Go.RowKit
open Go.ChangeMaps (open_string shut_string)

theorem own : ownKnob Tryd.prog.godebug = none := by kernel_rfl
theorem laidOut : laidOutB Tryd.prog = true := by kernel_rfl
theorem gAlg : Tryd.prog.globalNamed (Rows.fnKeyTypeOfNamesAKeyTypeThatNamesItselfSpec.vars.headD "") = some 0 := by kernel_rfl
theorem tAlg : (Tryd.prog.globals[0]?).map (·.type) = some 31 := by kernel_rfl
theorem law : KeyLaw Tryd.prog 26 := string_law Tryd.underlying26

theorem door_met (os : Os) (args : Array Value) : laidMetH Tryd.prog Rows.fnKeyTypeOfNamesAKeyTypeThatNamesItselfRow.laid ((World.doorLaid Tryd.prog 400 os).forCall (fun _ _ => 0) ⟨#[], args, []⟩).memory :=
  laidMetH_of_parts3 (fuel := 8) (laidMet_of_run' 8 (by kernel_rfl) (by kernel_rfl)) (by kernel_rfl) (by kernel_rfl)

theorem cells29 : Tryd.prog.cellsOf 29 = 2 := by kernel_rfl
theorem cells23 : Tryd.prog.cellsOf 23 = 1 := by kernel_rfl
theorem cells28 : Tryd.prog.cellsOf 28 = 1 := by kernel_rfl

/-- An element of the map: a key type and a hash. -/
theorem elem29 {H : Type} {enc : TypeId × Value → H} {W : World} {sp : Nat → Bool} {held : Bool} {n : Nat} {v : Value} {y : DataW H × List MemPlace} (h : elemAt enc Tryd.prog W 0 sp held n 29 v = some y) :
    ∃ kt q, v = .agg #[.string kt, .int .u64 q] ∧ y.1 = .agg [.lit (.string kt.data.toList), .lit (.int .u64 q)] ∧ kt.size ≤ maxLen := by
  unfold elemAt at h
  split at h
  · rename_i hf
    cases v with
    | agg cs =>
      obtain ⟨y0, y1, m, rfl, hl, h0, h1⟩ := trod_struct2 Tryd.underlying29 h
      simp only [cells29, cells23, cells28, Value.cells] at hl h0 h1
      obtain ⟨l⟩ := cs
      match l, hl with
      | [c0, c1], _ =>
        obtain ⟨kt, e0, rfl, hk⟩ := DataW.trod_string Tryd.underlying23 h0
        obtain ⟨q, e1, rfl, _⟩ := DataW.trod_int Tryd.underlying28 h1
        simp at e0 e1
        subst e0 e1
        exact ⟨kt, q, rfl, rfl, hk⟩
    | _ => simp [Value.formed, Tryd.underlying29] at hf
  · cases h

/-- What a look-up answers, in whatever later world the map lies. -/
def Looks (bm : Nat) (es : Array MapEntry) (clock : Nat) : Prop :=
  ∀ (W' : World) (s : ByteArray), W'.heap[bm]? = some (.map es clock) → s.size ≤ maxLen →
    ((Instr.lookup 31 (.map (some bm)) (.string s) true).run Tryd.prog W' = .ok (.tuple #[.agg #[.string ⟨#[]⟩, .int .u64 0], .bool false]) W' ∧ (Rows.laid_example_com_mooring_mooring_internal_sshkey_algorithms (H := Unit)).atKey (.string s.data.toList) .nil = .nil) ∨
    ∃ kt q, (Instr.lookup 31 (.map (some bm)) (.string s) true).run Tryd.prog W' = .ok (.tuple #[.agg #[.string kt, .int .u64 q], .bool true]) W' ∧ (Rows.laid_example_com_mooring_mooring_internal_sshkey_algorithms (H := Unit)).atKey (.string s.data.toList) .nil = .agg [.lit (.string kt.data.toList), .lit (.int .u64 q)] ∧ kt.size ≤ maxLen

theorem of_laid {W : World} (h : laidMetH Tryd.prog Rows.fnKeyTypeOfNamesAKeyTypeThatNamesItselfRow.laid W) : ∃ bm es clock, W.cell? ⟨0, 0, none⟩ = some (.map (some bm)) ∧ W.heap[bm]? = some (.map es clock) ∧ Looks bm es clock := by
  rw [MakeChecks.laidMetH_plain _ _ _ (by kernel_rfl)] at h
  obtain ⟨ps, ⟨g0, t0, cs0, f0, p0, q0, hg0, ht0, hv0, hd0, _, _⟩, _, _⟩ := h
  obtain rfl := Option.some.inj (gAlg.symm.trans hg0)
  obtain rfl := Option.some.inj (tAlg.symm.trans ht0)
  rcases open_map Tryd.underlying31 hd0 with ⟨_, hx⟩ | ⟨bm, es, clock, m, rfl, hcs, hb, _, F, hx⟩
  · simp [Rows.laid_example_com_mooring_mooring_internal_sshkey_algorithms] at hx
  simp only [Prod.mk.injEq] at hx
  have hcell : W.cell? ⟨0, 0, none⟩ = some (.map (some bm)) := by
    have := World.var?_cell hg0 hv0 0
    rw [Array.eq_one_of_toList hcs] at this
    simpa using this
  refine ⟨bm, es, clock, hcell, hb, fun W' s hb' hs => ?_⟩
  have zero : (zeroValue 29).run Tryd.prog W' = .ok (.agg #[.string ⟨#[]⟩, .int .u64 0]) W' := by kernel_rfl
  rcases fit_lookup_ok (w := W') law Tryd.underlying31 zero hb' F (keyOf_string_mk (s := s) Tryd.underlying26 hs) with ⟨hrun, hat⟩ | ⟨v, y, hrun, hRv, hat, _⟩
  · have := hat .nil
    rw [← hx.1] at this
    exact Or.inl ⟨hrun, this⟩
  · obtain ⟨kt, q, rfl, hy, hk⟩ := elem29 hRv
    have := hat .nil
    rw [← hx.1, hy] at this
    exact Or.inr ⟨kt, q, hrun, this, hk⟩
theorem at_sha256 : (Rows.laid_example_com_mooring_mooring_internal_sshkey_algorithms (H := Unit)).atKey (.string [114, 115, 97, 45, 115, 104, 97, 50, 45, 50, 53, 54]) .nil = .agg [.lit (.string [115, 115, 104, 45, 114, 115, 97]), .lit (.int .u64 5)] := rfl
theorem at_sha512 : (Rows.laid_example_com_mooring_mooring_internal_sshkey_algorithms (H := Unit)).atKey (.string [114, 115, 97, 45, 115, 104, 97, 50, 45, 53, 49, 50]) .nil = .agg [.lit (.string [115, 115, 104, 45, 114, 115, 97]), .lit (.int .u64 7)] := rfl
theorem at_dsa : (Rows.laid_example_com_mooring_mooring_internal_sshkey_algorithms (H := Unit)).atKey (.string [115, 115, 104, 45, 100, 115, 115]) .nil = .agg [.lit (.string [115, 115, 104, 45, 100, 115, 115]), .lit (.int .u64 3)] := rfl
theorem at_ed : (Rows.laid_example_com_mooring_mooring_internal_sshkey_algorithms (H := Unit)).atKey (.string [115, 115, 104, 45, 101, 100, 50, 53, 53, 49, 57]) .nil = .agg [.lit (.string [115, 115, 104, 45, 101, 100, 50, 53, 53, 49, 57]), .lit (.int .u64 0)] := rfl
theorem at_rsa : (Rows.laid_example_com_mooring_mooring_internal_sshkey_algorithms (H := Unit)).atKey (.string [115, 115, 104, 45, 114, 115, 97]) .nil = .agg [.lit (.string [115, 115, 104, 45, 114, 115, 97]), .lit (.int .u64 3)] := rfl
theorem at_none (l : List UInt8) (h1 : l ≠ [114, 115, 97, 45, 115, 104, 97, 50, 45, 50, 53, 54]) (h2 : l ≠ [114, 115, 97, 45, 115, 104, 97, 50, 45, 53, 49, 50]) (h3 : l ≠ [115, 115, 104, 45, 100, 115, 115]) (h4 : l ≠ [115, 115, 104, 45, 101, 100, 50, 53, 53, 49, 57]) (h5 : l ≠ [115, 115, 104, 45, 114, 115, 97]) :
    (Rows.laid_example_com_mooring_mooring_internal_sshkey_algorithms (H := Unit)).atKey (.string l) .nil = .nil := by
  have b1 : ([114, 115, 97, 45, 115, 104, 97, 50, 45, 50, 53, 54] == l) = false := beq_eq_false_iff_ne.2 (Ne.symm h1)
  have b2 : ([114, 115, 97, 45, 115, 104, 97, 50, 45, 53, 49, 50] == l) = false := beq_eq_false_iff_ne.2 (Ne.symm h2)
  have b3 : ([115, 115, 104, 45, 100, 115, 115] == l) = false := beq_eq_false_iff_ne.2 (Ne.symm h3)
  have b4 : ([115, 115, 104, 45, 101, 100, 50, 53, 53, 49, 57] == l) = false := beq_eq_false_iff_ne.2 (Ne.symm h4)
  have b5 : ([115, 115, 104, 45, 114, 115, 97] == l) = false := beq_eq_false_iff_ne.2 (Ne.symm h5)
  simp only [DataW.atKey, Rows.laid_example_com_mooring_mooring_internal_sshkey_algorithms, List.find?, Lit.sameKey, b1, b2, b3, b4, b5]

/-- A known word: what KeyTypeOf answers. -/
theorem known {bm : Nat} {es : Array MapEntry} {clock : Nat} (hL : Looks bm es clock) {W : World} (hc : W.cell? ⟨0, 0, none⟩ = some (.map (some bm))) (hb : W.heap[bm]? = some (.map es clock)) (s : ByteArray) (hs : s.size ≤ maxLen) (K : List UInt8) (q : Int)
    (hat : (Rows.laid_example_com_mooring_mooring_internal_sshkey_algorithms (H := Unit)).atKey (.string s.data.toList) .nil = .agg [.lit (.string K), .lit (.int .u64 q)]) :
    ∃ kt : ByteArray, kt.data.toList = K ∧ kt.size ≤ maxLen ∧ Calls Tryd.prog 5 #[.string s] W fun e w' => e = .returned (.tuple #[.string kt, .bool true]) ∧ Below W.heap.size W w' := by
  rcases hL W s hb hs with ⟨_, h⟩ | ⟨kt, q', hrun, h, hk⟩
  · rw [hat] at h; cases h
  · rw [hat] at h
    simp only [DataW.agg.injEq, List.cons.injEq, DataW.lit.injEq, Lit.string.injEq] at h
    exact ⟨kt, h.1.symm, hk, keyTypeOf_any s kt q' true bm W hc hrun⟩

theorem same_bytes {a b : ByteArray} (h : a.data.toList = b.data.toList) : a = b := by
  obtain ⟨⟨x⟩⟩ := a
  obtain ⟨⟨y⟩⟩ := b
  simp at h
  rw [h]

/-- ... and again, of the key type itself, in a later world. -/
theorem again {bm : Nat} {es : Array MapEntry} {clock : Nat} (hL : Looks bm es clock) {W : World} (hc : W.cell? ⟨0, 0, none⟩ = some (.map (some bm))) (hb : W.heap[bm]? = some (.map es clock)) (kt : ByteArray) (hs : kt.size ≤ maxLen) (q : Int)
    (hat : (Rows.laid_example_com_mooring_mooring_internal_sshkey_algorithms (H := Unit)).atKey (.string kt.data.toList) .nil = .agg [.lit (.string kt.data.toList), .lit (.int .u64 q)]) (w' : World) (hw : Below W.heap.size W w') :
    Calls Tryd.prog 5 #[.string kt] w' fun e w'' => e = .returned (.tuple #[.string kt, .bool true]) ∧ Below w'.heap.size w' w'' := by
  have hc' : w'.cell? ⟨0, 0, none⟩ = some (.map (some bm)) := (hw.cell (World.block_lt_of_cell? W _ hc)).trans hc
  have hb' : w'.heap[bm]? = some (.map es clock) := (hw.block bm (Array.getElem?_eq_some_iff.1 hb).1).trans hb
  obtain ⟨kt2, e2, _, h⟩ := known hL hc' hb' kt hs kt.data.toList q hat
  rw [same_bytes e2] at h
  exact h

theorem walk (s : ByteArray) (hs : s.size ≤ maxLen) (W : World) (h : laidMetH Tryd.prog Rows.fnKeyTypeOfNamesAKeyTypeThatNamesItselfRow.laid W) :
    Calls Tryd.prog 3 #[.string s] W fun e w' => e = .returned (.bool true) ∧ Below W.heap.size W w' := by
  obtain ⟨bm, es, clock, hc, hb, hL⟩ := of_laid h
  by_cases e_sha256 : s.data.toList = [114, 115, 97, 45, 115, 104, 97, 50, 45, 50, 53, 54]
  · obtain ⟨kt, hk, hz, C1⟩ := known hL hc hb s hs [115, 115, 104, 45, 114, 115, 97] 5 (by rw [e_sha256]; exact at_sha256)
    exact law_sha256 s kt W hs (by rw [ByteArray.toList_eq]; exact e_sha256) (by rw [ByteArray.toList_eq]; exact hk) (hid C1) (hid (again hL hc hb kt hz 3 (by rw [hk]; exact at_rsa)))
  by_cases e_sha512 : s.data.toList = [114, 115, 97, 45, 115, 104, 97, 50, 45, 53, 49, 50]
  · obtain ⟨kt, hk, hz, C1⟩ := known hL hc hb s hs [115, 115, 104, 45, 114, 115, 97] 7 (by rw [e_sha512]; exact at_sha512)
    exact law_sha512 s kt W hs (by rw [ByteArray.toList_eq]; exact e_sha512) (by rw [ByteArray.toList_eq]; exact hk) (hid C1) (hid (again hL hc hb kt hz 3 (by rw [hk]; exact at_rsa)))
  by_cases e_dsa : s.data.toList = [115, 115, 104, 45, 100, 115, 115]
  · obtain ⟨kt, hk, hz, C1⟩ := known hL hc hb s hs [115, 115, 104, 45, 100, 115, 115] 3 (by rw [e_dsa]; exact at_dsa)
    exact law_dsa s kt W hs (by rw [ByteArray.toList_eq]; exact e_dsa) (by rw [ByteArray.toList_eq]; exact hk) (hid C1) (hid (again hL hc hb kt hz 3 (by rw [hk]; exact at_dsa)))
  by_cases e_ed : s.data.toList = [115, 115, 104, 45, 101, 100, 50, 53, 53, 49, 57]
  · obtain ⟨kt, hk, hz, C1⟩ := known hL hc hb s hs [115, 115, 104, 45, 101, 100, 50, 53, 53, 49, 57] 0 (by rw [e_ed]; exact at_ed)
    exact law_ed s kt W hs (by rw [ByteArray.toList_eq]; exact e_ed) (by rw [ByteArray.toList_eq]; exact hk) (hid C1) (hid (again hL hc hb kt hz 0 (by rw [hk]; exact at_ed)))
  by_cases e_rsa : s.data.toList = [115, 115, 104, 45, 114, 115, 97]
  · obtain ⟨kt, hk, hz, C1⟩ := known hL hc hb s hs [115, 115, 104, 45, 114, 115, 97] 3 (by rw [e_rsa]; exact at_rsa)
    exact law_rsa s kt W hs (by rw [ByteArray.toList_eq]; exact e_rsa) (by rw [ByteArray.toList_eq]; exact hk) (hid C1) (hid (again hL hc hb kt hz 3 (by rw [hk]; exact at_rsa)))
  rcases hL W s hb hs with ⟨hrun, _⟩ | ⟨kt, q', _, h', _⟩
  · exact law_none s W hs (by rw [ByteArray.toList_eq]; exact e_rsa) (by rw [ByteArray.toList_eq]; exact e_dsa) (by rw [ByteArray.toList_eq]; exact e_ed) (hid (keyTypeOf_any s _ _ _ bm W hc hrun))
  · rw [at_none _ e_sha256 e_sha512 e_dsa e_ed e_rsa] at h'; cases h'

set_option maxRecDepth 100000 in
theorem lifted (os : Os) (started : os.Started) (H : Type) (enc : TypeId × Value → H) :
    ReturnsInHanded {} Tryd.checked os 3 .any (fun w args => (Rows.fnKeyTypeOfNamesAKeyTypeThatNamesItselfSpec.pre enc Tryd.prog Tryd.f3 [] false w args ∧ laidMetH Tryd.prog Rows.fnKeyTypeOfNamesAKeyTypeThatNamesItselfRow.laid w) ∧ sizedMet enc Tryd.prog Tryd.f3 (OpenSpec.ofChange Rows.fnKeyTypeOfNamesAKeyTypeThatNamesItselfSpec) false w args)
      (Rows.fnKeyTypeOfNamesAKeyTypeThatNamesItselfSpec.post enc Tryd.prog Tryd.f3 false true false false) := by
  refine returnsInHanded_of_change_and (C := Tryd.checked) (X := fun w _ => laidMetH Tryd.prog Rows.fnKeyTypeOfNamesAKeyTypeThatNamesItselfRow.laid w) (fun _ _ _ hh h => h.of_heap hh) own started (by kernel_rfl) Tryd.func3
    (ChangeSpec.witness_shaped (enc := enc) (C := Tryd.checked) (os := os) (X := fun w _ => laidMetH Tryd.prog Rows.fnKeyTypeOfNamesAKeyTypeThatNamesItselfRow.laid w) false (World.doorLaid Tryd.prog 400 os) #[.string ByteArray.empty] 8 rfl (World.shaped_of_RefB (by kernel_rfl) (by kernel_rfl)) (by kernel_rfl) (by kernel_rfl) (by kernel_rfl) (door_met os _)) ?_
  intro W base args ds gs before hval0 hW _ _ hL _
  have hval : ∀ (j : Nat) t v, Tryd.f3.params[j]? = some t → args[j]? = some v → Value.okWide Tryd.prog W .any base t v := hval0
  have hW' := hW
  obtain ⟨p, q, hA0, hV, rfl, hfz, hnd⟩ := hW
  have hA : DataW.TrodAll enc Tryd.prog W 0 (fun _ => true) true Tryd.f3.params.toList args.toList ds p := hA0
  rw [Tryd.params3] at hA hval
  obtain ⟨v0, d0, rfl, rfl, h0⟩ := trodAll_one hA
  obtain ⟨a0, rfl, rfl, rfl, w0⟩ := open_string Tryd.underlying9 (hval 0 9 v0 rfl rfl) h0
  clear hA0 hval0
  refine (walk a0 w0 W hL).mono fun e W' ⟨he, bel⟩ => ?_
  subst he
  have hv : DataW.TrodVars enc Tryd.prog W' (fun b => decide (b < W.heap.size)) Rows.fnKeyTypeOfNamesAKeyTypeThatNamesItselfSpec.vars gs q := Below.trodVars laidOut bel (by kernel_rfl) hV
  match gs, hV, hv, hW' with
  | [], hV, _, _ => exact hV.elim
  | [g1], _, hv, hW' =>
    exact ⟨_, rfl, _, _, _, [], [], q, hW', trodAll_mk1 (shut_bool Tryd.underlying4 _), trodAll_mk1 (shut_string Tryd.underlying9 w0), hv, bel.frame _, fun h => by cases h⟩
  | _ :: _ :: _, hV, _, _ =>
    obtain ⟨_, _, _, _, _, _, _, _, _, _, hs, _⟩ := hV
    exact hs.elim


theorem row_holds : Rows.FnKeyTypeOfNamesAKeyTypeThatNamesItselfSaid :=
  OpenClaim.holds_of_wide 3 Tryd.f3 rfl rfl rfl rfl rfl rfl rfl ⟨rfl, rfl, rfl, rfl, rfl⟩ rfl rfl rfl rfl rfl (by kernel_rfl) Tryd.func3 (by kernel_rfl)
    (of_decide_eq_true (by kernel_rfl)) (by unfold Func.isWrapper; first | (rw [if_pos (by decide +kernel)]; kernel_rfl) | (rw [if_neg (by decide +kernel)]; exact ⟨rfl, rfl⟩))
    (fun os started H enc _ => lifted os started H enc)

/-- THE STATEMENT: the tied card. -/
theorem proved : Rows.FnKeyTypeOfNamesAKeyTypeThatNamesItselfCardSaid :=
  Claim7.holds_tied_plain_at .later [] [.mapped] true (true, "c334659b27d54930f50c1a4c9504c2c21785b9ddf644d0feaeba1d7bf1d56c4c") false
    row_holds (fun _ h => by cases h) (by kernel_rfl) (fun _ h => by cases h) fnKeyTypeOfNamesAKeyTypeThatNamesItself_row_tie rfl ⟨rfl, rfl⟩ (by kernel_rfl) rfl
    (fun f fn hf hfn => by
      obtain rfl : f = 3 := Option.some.inj ((show Tryd.prog.funcNamed Rows.fnKeyTypeOfNamesAKeyTypeThatNamesItselfRow.func = some 3 by kernel_rfl).symm.trans hf) |>.symm
      obtain rfl : fn = Tryd.f3 := (Option.some.inj (Tryd.func3.symm.trans hfn)).symm
      exact ⟨by kernel_rfl, fun j t ht => by
        rw [Tryd.params3] at ht
        have hm : t ∈ [9] := by simpa using Array.mem_of_getElem? ht
        have hall : ([9].all fun u => !Tryd.prog.wantsStandIn u) = true := by kernel_rfl
        exact (show Tryd.prog.wantsStandIn t = false by simpa using List.all_eq_true.1 hall t hm)⟩)
    (by kernel_rfl)
#print axioms proved
end Go.Proofs.Qxb6616292aDoor
