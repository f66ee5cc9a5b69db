import Derived.Test.Qxb6616256aValidLen
import Derived.Deep.RegionHeld3
namespace Go.Proofs.Qxb6616256a
open Go.RowKit
set_option maxHeartbeats 4000000
set_option maxRecDepth 1000000

/-- What follows the first k statements. -/
def spine : Nat → Code → Code
  | 0, c => c
  | k + 1, .seq _ b => spine k b
  | _, c => c
/-- The first of them. -/
def stmtOf : Code → Code
  | .seq a _ => a
  | c => c
def inLoop : Code → Code
  | .seq _ (.block _ (.loop c)) => c
  | c => c
def inBody : Code → Code
  | .seq _ (.seq (.block _ c) _) => c
  | c => c

/-- What the loop has checked. -/
structure Ok (t : ByteArray) (ent : Nat → Ent) (k : Nat) : Prop where
  fit : ∀ i, i < k → (ent i).Fits t
  ord : Pl.Sorted (keyAt ent t) k

theorem quiet_same2 {P : Program} {f : FuncId} {args : Array Value} {w : World} {q n : Nat} {v : Value}
    (h : Calls P f args (w.drewN (q + n)) fun e w' => e = .returned v ∧ w' = w.drewN (q + n)) : Calls P f args (w.drewN (q + n)) fun e w'' => e = .returned v ∧ ∃ m, w'' = w.drewN (q + m) :=
  h.mono fun _ _ ⟨he, hm⟩ => ⟨he, n, hm⟩

theorem Ok.zero (t : ByteArray) (ent : Nat → Ent) : Ok t ent 0 := ⟨fun i hi => absurd hi (Nat.not_lt_zero _), fun j hj => absurd hj (by omega)⟩
theorem Ok.one {t : ByteArray} {ent : Nat → Ent} (h : (ent 0).Fits t) : Ok t ent 1 := ⟨fun i hi => by rw [show i = 0 by omega]; exact h, fun j hj => absurd hj (by omega)⟩
theorem Ok.next {t : ByteArray} {ent : Nat → Ent} {m : Nat} (h : Ok t ent (m + 1)) (hf : (ent (m + 1)).Fits t) (hc : ¬ 0 < Pl.kc (keyAt ent t m) (keyAt ent t (m + 1))) : Ok t ent (m + 2) := by
  refine ⟨fun i hi => ?_, fun j hj => ?_⟩
  · by_cases e : i = m + 1
    · rw [e]; exact hf
    · exact h.fit i (by omega)
  · by_cases e : j = m
    · rw [e]; omega
    · exact h.ord j (by omega)

/-- The six cells at place k. -/
structure At6 (w : World) (b1 o1 b2 o2 b3 o3 b4 o4 b5 o5 b6 o6 k : Nat) (e : Ent) : Prop where
  d1 : w.cell? ⟨b1, o1 + k, none⟩ = some (.int .u32 e.at')
  d2 : w.cell? ⟨b2, o2 + k, none⟩ = some (.int .u32 e.nl)
  d3 : w.cell? ⟨b3, o3 + k, none⟩ = some (.int .u32 e.vl)
  d4 : w.cell? ⟨b4, o4 + k, none⟩ = some (.int .u32 e.fl)
  d5 : w.cell? ⟨b5, o5 + k, none⟩ = some (.bool e.whole)
  d6 : w.cell? ⟨b6, o6 + k, none⟩ = some (.bool e.sp)

/-- The way out that answers false. -/
def RetOk (Q : Exit → Act → World → Prop) (w : World) : Prop := ∀ (a : Act) (w' : World), a.tmps.getD 16 undef = .bool false → a.defers = [] → Below w.heap.size w w' → Q .ret a w'

/-- What is owed to the code r at this frame. -/
def At (r : Code) (Q : Exit → Act → World → Prop) (t : ByteArray) (n c1 c2 c3 c4 c5 c6 b1 o1 b2 o2 b3 o3 b4 o4 b5 o5 b6 o6 : Nat) (k : Nat) (w : World) : Prop := ∀ (u8 u9 u10 u11 u12 u13 u14 u15 u16 u19 u20 u21 u22 u23 u24 u25 u26 u27 u28 u29 u30 u31 u32 u33 u34 u35 u36 u37 u38 u39 u40 u41 u42 u43 u44 u45 u46 u47 u48 u49 u50 u51 u52 u53 u54 u55 u56 u57 u58 u59 u60 u61 u62 u63 u64 u65 u66 u67 u68 u69 u70 u71 u72 u73 u74 u75 u76 u77 u78 u79 u80 u81 u82 u83 u84 u85 u86 u87 u88 u89 u90 u91 u92 u93 u94 u95 u96 u97 u98 u99 u100 u101 u102 u103 u104 u105 u106 u107 u108 u109 u110 u111 u112 u113 u114 u115 u116 u117 u118 u119 u120 u121 u122 u123 u124 u125 u126 u127 u128 u129 u130 u131 u132 u133 u134 u135 u136 u137 u138 u139 u140 u141 u142 u143 u144 u145 u146 u147 u148 u149 u150 u151 u152 u153 u154 u155 u156 u157 u158 u159 u160 u161 u162 u163 u164 u165 u166 u167 u168 u169 u170 u171 u172 u173 u174 u175 u176 u177 u178 u179 u180 u181 u182 u183 u184 u185 u186 u187 u188 u189 u190 u191 u192 u193 u194 u195 u196 u197 u198 u199 u200 u201 u202 u203 u204 u205 u206 u207 u208 u209 u210 u211 u212 u213 u214 u215 : Value), Code.wp Try.prog r Q ⟨List.toArray (.string t :: .slice (some ⟨b1, o1, none⟩) n c1 :: .slice (some ⟨b2, o2, none⟩) n c2 :: .slice (some ⟨b3, o3, none⟩) n c3 :: .slice (some ⟨b4, o4, none⟩) n c4 :: .slice (some ⟨b5, o5, none⟩) n c5 :: .slice (some ⟨b6, o6, none⟩) n c6 :: .bool false :: u8 :: u9 :: u10 :: u11 :: u12 :: u13 :: u14 :: u15 :: u16 :: .int .i64 (n : Int) :: .int .i64 (k : Int) :: u19 :: u20 :: u21 :: u22 :: u23 :: u24 :: u25 :: u26 :: u27 :: u28 :: u29 :: u30 :: u31 :: u32 :: u33 :: u34 :: u35 :: u36 :: u37 :: u38 :: u39 :: u40 :: u41 :: u42 :: u43 :: u44 :: u45 :: u46 :: u47 :: u48 :: u49 :: u50 :: u51 :: u52 :: u53 :: u54 :: u55 :: u56 :: u57 :: u58 :: u59 :: u60 :: u61 :: u62 :: u63 :: u64 :: u65 :: u66 :: u67 :: u68 :: u69 :: u70 :: u71 :: u72 :: u73 :: u74 :: u75 :: u76 :: u77 :: u78 :: u79 :: u80 :: u81 :: u82 :: u83 :: u84 :: u85 :: u86 :: u87 :: u88 :: u89 :: u90 :: u91 :: u92 :: u93 :: u94 :: u95 :: u96 :: u97 :: u98 :: u99 :: u100 :: u101 :: u102 :: u103 :: u104 :: u105 :: u106 :: u107 :: u108 :: u109 :: u110 :: u111 :: u112 :: u113 :: u114 :: u115 :: u116 :: u117 :: u118 :: u119 :: u120 :: u121 :: u122 :: u123 :: u124 :: u125 :: u126 :: u127 :: u128 :: u129 :: u130 :: u131 :: u132 :: u133 :: u134 :: u135 :: u136 :: u137 :: u138 :: u139 :: u140 :: u141 :: u142 :: u143 :: u144 :: u145 :: u146 :: u147 :: u148 :: u149 :: u150 :: u151 :: u152 :: u153 :: u154 :: u155 :: u156 :: u157 :: u158 :: u159 :: u160 :: u161 :: u162 :: u163 :: u164 :: u165 :: u166 :: u167 :: u168 :: u169 :: u170 :: u171 :: u172 :: u173 :: u174 :: u175 :: u176 :: u177 :: u178 :: u179 :: u180 :: u181 :: u182 :: u183 :: u184 :: u185 :: u186 :: u187 :: u188 :: u189 :: u190 :: u191 :: u192 :: u193 :: u194 :: u195 :: u196 :: u197 :: u198 :: u199 :: u200 :: u201 :: u202 :: u203 :: u204 :: u205 :: u206 :: u207 :: u208 :: u209 :: u210 :: u211 :: u212 :: u213 :: u214 :: u215 :: []), []⟩ w
def At19 (r : Code) (Q : Exit → Act → World → Prop) (t : ByteArray) (n c1 c2 c3 c4 c5 c6 b1 o1 b2 o2 b3 o3 b4 o4 b5 o5 b6 o6 : Nat) (k : Nat) (e : Ent) (w : World) : Prop := ∀ (u8 u9 u10 u11 u12 u13 u14 u15 u16 u20 u21 u22 u23 u24 u25 u26 u27 u28 u29 u30 u31 u32 u33 u34 u35 u36 u37 u38 u39 u40 u41 u42 u43 u44 u45 u46 u47 u48 u49 u50 u51 u52 u53 u54 u55 u56 u57 u58 u59 u60 u61 u62 u63 u64 u65 u66 u67 u68 u69 u70 u71 u72 u73 u74 u75 u76 u77 u78 u79 u80 u81 u82 u83 u84 u85 u86 u87 u88 u89 u90 u91 u92 u93 u94 u95 u96 u97 u98 u99 u100 u101 u102 u103 u104 u105 u106 u107 u108 u109 u110 u111 u112 u113 u114 u115 u116 u117 u118 u119 u120 u121 u122 u123 u124 u125 u126 u127 u128 u129 u130 u131 u132 u133 u134 u135 u136 u137 u138 u139 u140 u141 u142 u143 u144 u145 u146 u147 u148 u149 u150 u151 u152 u153 u154 u155 u156 u157 u158 u159 u160 u161 u162 u163 u164 u165 u166 u167 u168 u169 u170 u171 u172 u173 u174 u175 u176 u177 u178 u179 u180 u181 u182 u183 u184 u185 u186 u187 u188 u189 u190 u191 u192 u193 u194 u195 u196 u197 u198 u199 u200 u201 u202 u203 u204 u205 u206 u207 u208 u209 u210 u211 u212 u213 u214 u215 : Value), Code.wp Try.prog r Q ⟨List.toArray (.string t :: .slice (some ⟨b1, o1, none⟩) n c1 :: .slice (some ⟨b2, o2, none⟩) n c2 :: .slice (some ⟨b3, o3, none⟩) n c3 :: .slice (some ⟨b4, o4, none⟩) n c4 :: .slice (some ⟨b5, o5, none⟩) n c5 :: .slice (some ⟨b6, o6, none⟩) n c6 :: .bool false :: u8 :: u9 :: u10 :: u11 :: u12 :: u13 :: u14 :: u15 :: u16 :: .int .i64 (n : Int) :: .int .i64 (k : Int) :: .int .i64 ((e.at' : Int) + e.nl + e.vl) :: u20 :: u21 :: u22 :: u23 :: u24 :: u25 :: u26 :: u27 :: u28 :: u29 :: u30 :: u31 :: u32 :: u33 :: u34 :: u35 :: u36 :: u37 :: u38 :: u39 :: u40 :: u41 :: u42 :: u43 :: u44 :: u45 :: u46 :: u47 :: u48 :: u49 :: u50 :: u51 :: u52 :: u53 :: u54 :: u55 :: u56 :: u57 :: u58 :: u59 :: u60 :: u61 :: u62 :: u63 :: u64 :: u65 :: u66 :: u67 :: u68 :: u69 :: u70 :: u71 :: u72 :: u73 :: u74 :: u75 :: u76 :: u77 :: u78 :: u79 :: u80 :: u81 :: u82 :: u83 :: u84 :: u85 :: u86 :: u87 :: u88 :: u89 :: u90 :: u91 :: u92 :: u93 :: u94 :: u95 :: u96 :: u97 :: u98 :: u99 :: u100 :: u101 :: u102 :: u103 :: u104 :: u105 :: u106 :: u107 :: u108 :: u109 :: u110 :: u111 :: u112 :: u113 :: u114 :: u115 :: u116 :: u117 :: u118 :: u119 :: u120 :: u121 :: u122 :: u123 :: u124 :: u125 :: u126 :: u127 :: u128 :: u129 :: u130 :: u131 :: u132 :: u133 :: u134 :: u135 :: u136 :: u137 :: u138 :: u139 :: u140 :: u141 :: u142 :: u143 :: u144 :: u145 :: u146 :: u147 :: u148 :: u149 :: u150 :: u151 :: u152 :: u153 :: u154 :: u155 :: u156 :: u157 :: u158 :: u159 :: u160 :: u161 :: u162 :: u163 :: u164 :: u165 :: u166 :: u167 :: u168 :: u169 :: u170 :: u171 :: u172 :: u173 :: u174 :: u175 :: u176 :: u177 :: u178 :: u179 :: u180 :: u181 :: u182 :: u183 :: u184 :: u185 :: u186 :: u187 :: u188 :: u189 :: u190 :: u191 :: u192 :: u193 :: u194 :: u195 :: u196 :: u197 :: u198 :: u199 :: u200 :: u201 :: u202 :: u203 :: u204 :: u205 :: u206 :: u207 :: u208 :: u209 :: u210 :: u211 :: u212 :: u213 :: u214 :: u215 :: []), []⟩ w
/-- What is owed at the round's end. -/
def End (Q : Exit → Act → World → Prop) (t : ByteArray) (n c1 c2 c3 c4 c5 c6 b1 o1 b2 o2 b3 o3 b4 o4 b5 o5 b6 o6 : Nat) (k : Nat) (w : World) : Prop := ∀ (u8 u9 u10 u11 u12 u13 u14 u15 u16 u19 u20 u21 u22 u23 u24 u25 u26 u27 u28 u29 u30 u31 u32 u33 u34 u35 u36 u37 u38 u39 u40 u41 u42 u43 u44 u45 u46 u47 u48 u49 u50 u51 u52 u53 u54 u55 u56 u57 u58 u59 u60 u61 u62 u63 u64 u65 u66 u67 u68 u69 u70 u71 u72 u73 u74 u75 u76 u77 u78 u79 u80 u81 u82 u83 u84 u85 u86 u87 u88 u89 u90 u91 u92 u93 u94 u95 u96 u97 u98 u99 u100 u101 u102 u103 u104 u105 u106 u107 u108 u109 u110 u111 u112 u113 u114 u115 u116 u117 u118 u119 u120 u121 u122 u123 u124 u125 u126 u127 u128 u129 u130 u131 u132 u133 u134 u135 u136 u137 u138 u139 u140 u141 u142 u143 u144 u145 u146 u147 u148 u149 u150 u151 u152 u153 u154 u155 u156 u157 u158 u159 u160 u161 u162 u163 u164 u165 u166 u167 u168 u169 u170 u171 u172 u173 u174 u175 u176 u177 u178 u179 u180 u181 u182 u183 u184 u185 u186 u187 u188 u189 u190 u191 u192 u193 u194 u195 u196 u197 u198 u199 u200 u201 u202 u203 u204 u205 u206 u207 u208 u209 u210 u211 u212 u213 u214 u215 : Value), Q .normal ⟨List.toArray (.string t :: .slice (some ⟨b1, o1, none⟩) n c1 :: .slice (some ⟨b2, o2, none⟩) n c2 :: .slice (some ⟨b3, o3, none⟩) n c3 :: .slice (some ⟨b4, o4, none⟩) n c4 :: .slice (some ⟨b5, o5, none⟩) n c5 :: .slice (some ⟨b6, o6, none⟩) n c6 :: .bool false :: u8 :: u9 :: u10 :: u11 :: u12 :: u13 :: u14 :: u15 :: u16 :: .int .i64 (n : Int) :: .int .i64 (k : Int) :: u19 :: u20 :: u21 :: u22 :: u23 :: u24 :: u25 :: u26 :: u27 :: u28 :: u29 :: u30 :: u31 :: u32 :: u33 :: u34 :: u35 :: u36 :: u37 :: u38 :: u39 :: u40 :: u41 :: u42 :: u43 :: u44 :: u45 :: u46 :: u47 :: u48 :: u49 :: u50 :: u51 :: u52 :: u53 :: u54 :: u55 :: u56 :: u57 :: u58 :: u59 :: u60 :: u61 :: u62 :: u63 :: u64 :: u65 :: u66 :: u67 :: u68 :: u69 :: u70 :: u71 :: u72 :: u73 :: u74 :: u75 :: u76 :: u77 :: u78 :: u79 :: u80 :: u81 :: u82 :: u83 :: u84 :: u85 :: u86 :: u87 :: u88 :: u89 :: u90 :: u91 :: u92 :: u93 :: u94 :: u95 :: u96 :: u97 :: u98 :: u99 :: u100 :: u101 :: u102 :: u103 :: u104 :: u105 :: u106 :: u107 :: u108 :: u109 :: u110 :: u111 :: u112 :: u113 :: u114 :: u115 :: u116 :: u117 :: u118 :: u119 :: u120 :: u121 :: u122 :: u123 :: u124 :: u125 :: u126 :: u127 :: u128 :: u129 :: u130 :: u131 :: u132 :: u133 :: u134 :: u135 :: u136 :: u137 :: u138 :: u139 :: u140 :: u141 :: u142 :: u143 :: u144 :: u145 :: u146 :: u147 :: u148 :: u149 :: u150 :: u151 :: u152 :: u153 :: u154 :: u155 :: u156 :: u157 :: u158 :: u159 :: u160 :: u161 :: u162 :: u163 :: u164 :: u165 :: u166 :: u167 :: u168 :: u169 :: u170 :: u171 :: u172 :: u173 :: u174 :: u175 :: u176 :: u177 :: u178 :: u179 :: u180 :: u181 :: u182 :: u183 :: u184 :: u185 :: u186 :: u187 :: u188 :: u189 :: u190 :: u191 :: u192 :: u193 :: u194 :: u195 :: u196 :: u197 :: u198 :: u199 :: u200 :: u201 :: u202 :: u203 :: u204 :: u205 :: u206 :: u207 :: u208 :: u209 :: u210 :: u211 :: u212 :: u213 :: u214 :: u215 :: []), []⟩ w

theorem T0 (r : Code) (Q : Exit → Act → World → Prop) (t : ByteArray) (n c1 c2 c3 c4 c5 c6 b1 o1 b2 o2 b3 o3 b4 o4 b5 o5 b6 o6 : Nat) (k : Nat) (e : Ent) (w : World) (hlt : k < n) (_hn : n ≤ 1048576) (hA : At6 w b1 o1 b2 o2 b3 o3 b4 o4 b5 o5 b6 o6 k e) (hret : RetOk Q w)
    (hr : e.at' ≤ 1048576 → e.nl ≤ 1048576 → e.vl ≤ 1048576 → e.fl ≤ 1048576 → At r Q t n c1 c2 c3 c4 c5 c6 b1 o1 b2 o2 b3 o3 b4 o4 b5 o5 b6 o6 k w) : At (.seq (stmtOf (spine 0 (inBody (inLoop (stmtOf (spine 3 (Try.f7.body.getD .skip))))))) r) Q t n c1 c2 c3 c4 c5 c6 b1 o1 b2 o2 b3 o3 b4 o4 b5 o5 b6 o6 k w := by
  intro u8 u9 u10 u11 u12 u13 u14 u15 u16 u19 u20 u21 u22 u23 u24 u25 u26 u27 u28 u29 u30 u31 u32 u33 u34 u35 u36 u37 u38 u39 u40 u41 u42 u43 u44 u45 u46 u47 u48 u49 u50 u51 u52 u53 u54 u55 u56 u57 u58 u59 u60 u61 u62 u63 u64 u65 u66 u67 u68 u69 u70 u71 u72 u73 u74 u75 u76 u77 u78 u79 u80 u81 u82 u83 u84 u85 u86 u87 u88 u89 u90 u91 u92 u93 u94 u95 u96 u97 u98 u99 u100 u101 u102 u103 u104 u105 u106 u107 u108 u109 u110 u111 u112 u113 u114 u115 u116 u117 u118 u119 u120 u121 u122 u123 u124 u125 u126 u127 u128 u129 u130 u131 u132 u133 u134 u135 u136 u137 u138 u139 u140 u141 u142 u143 u144 u145 u146 u147 u148 u149 u150 u151 u152 u153 u154 u155 u156 u157 u158 u159 u160 u161 u162 u163 u164 u165 u166 u167 u168 u169 u170 u171 u172 u173 u174 u175 u176 u177 u178 u179 u180 u181 u182 u183 u184 u185 u186 u187 u188 u189 u190 u191 u192 u193 u194 u195 u196 u197 u198 u199 u200 u201 u202 u203 u204 u205 u206 u207 u208 u209 u210 u211 u212 u213 u214 u215
  conv => arg 2; arg 1; whnf
  have hltI : (k : Int) < (n : Int) := by omega
  obtain ⟨d1, d2, d3, d4, d5, d6⟩ := hA
  have HR := hid hr
  clear hr
  obtain ⟨at', nl, vl, fl, wh, sp⟩ := e
  simp only at d1 d2 d3 d4 d5 d6 HR
  by_cases f1 : at' ≤ 1048576
  · by_cases f2 : nl ≤ 1048576
    · by_cases f3 : vl ≤ 1048576
      · by_cases f4 : fl ≤ 1048576
        · have hr := HR.out f1 f2 f3 f4
          clear HR
          go_wp2_with fail
          exact hr _ _ _ _ _ _ _ _ _ _ _ _ _ _ _ _ _ _ _ _ _ _ _ _ _ _ _ _ _ _ _ _ _ _ _ _ _ _ _ _ _ _ _ _ _ _ _ _ _ _ _ _ _ _ _ _ _ _ _ _ _ _ _ _ _ _ _ _ _ _ _ _ _ _ _ _ _ _ _ _ _ _ _ _ _ _ _ _ _ _ _ _ _ _ _ _ _ _ _ _ _ _ _ _ _ _ _ _ _ _ _ _ _ _ _ _ _ _ _ _ _ _ _ _ _ _ _ _ _ _ _ _ _ _ _ _ _ _ _ _ _ _ _ _ _ _ _ _ _ _ _ _ _ _ _ _ _ _ _ _ _ _ _ _ _ _ _ _ _ _ _ _ _ _ _ _ _ _ _ _ _ _ _ _ _ _ _ _ _ _ _ _ _ _ _ _ _ _ _ _ _ _ _ _ _ _
        · clear HR
          go_wp2_with fail
          exact hret _ _ rfl rfl (Below.refl _ _)
      · clear HR
        go_wp2_with fail
        exact hret _ _ rfl rfl (Below.refl _ _)
    · clear HR
      go_wp2_with fail
      exact hret _ _ rfl rfl (Below.refl _ _)
  · clear HR
    go_wp2_with fail
    exact hret _ _ rfl rfl (Below.refl _ _)

theorem T1 (r : Code) (Q : Exit → Act → World → Prop) (t : ByteArray) (n c1 c2 c3 c4 c5 c6 b1 o1 b2 o2 b3 o3 b4 o4 b5 o5 b6 o6 : Nat) (k : Nat) (e : Ent) (w : World) (hlt : k < n) (_hn : n ≤ 1048576) (hA : At6 w b1 o1 b2 o2 b3 o3 b4 o4 b5 o5 b6 o6 k e) (hret : RetOk Q w)
    (f1 : e.at' ≤ 1048576) (f2 : e.nl ≤ 1048576) (f3 : e.vl ≤ 1048576) (ht : t.size ≤ 1048576)
    (hr : e.at' + e.nl + e.vl ≤ t.size → ∀ q, At19 r Q t n c1 c2 c3 c4 c5 c6 b1 o1 b2 o2 b3 o3 b4 o4 b5 o5 b6 o6 k e (w.drewN q)) : At (.seq (stmtOf (spine 1 (inBody (inLoop (stmtOf (spine 3 (Try.f7.body.getD .skip))))))) (.seq (stmtOf (spine 2 (inBody (inLoop (stmtOf (spine 3 (Try.f7.body.getD .skip))))))) r)) Q t n c1 c2 c3 c4 c5 c6 b1 o1 b2 o2 b3 o3 b4 o4 b5 o5 b6 o6 k w := by
  intro u8 u9 u10 u11 u12 u13 u14 u15 u16 u19 u20 u21 u22 u23 u24 u25 u26 u27 u28 u29 u30 u31 u32 u33 u34 u35 u36 u37 u38 u39 u40 u41 u42 u43 u44 u45 u46 u47 u48 u49 u50 u51 u52 u53 u54 u55 u56 u57 u58 u59 u60 u61 u62 u63 u64 u65 u66 u67 u68 u69 u70 u71 u72 u73 u74 u75 u76 u77 u78 u79 u80 u81 u82 u83 u84 u85 u86 u87 u88 u89 u90 u91 u92 u93 u94 u95 u96 u97 u98 u99 u100 u101 u102 u103 u104 u105 u106 u107 u108 u109 u110 u111 u112 u113 u114 u115 u116 u117 u118 u119 u120 u121 u122 u123 u124 u125 u126 u127 u128 u129 u130 u131 u132 u133 u134 u135 u136 u137 u138 u139 u140 u141 u142 u143 u144 u145 u146 u147 u148 u149 u150 u151 u152 u153 u154 u155 u156 u157 u158 u159 u160 u161 u162 u163 u164 u165 u166 u167 u168 u169 u170 u171 u172 u173 u174 u175 u176 u177 u178 u179 u180 u181 u182 u183 u184 u185 u186 u187 u188 u189 u190 u191 u192 u193 u194 u195 u196 u197 u198 u199 u200 u201 u202 u203 u204 u205 u206 u207 u208 u209 u210 u211 u212 u213 u214 u215
  conv => arg 2; arg 1; whnf
  conv => arg 2; arg 2; arg 1; whnf
  have hltI : (k : Int) < (n : Int) := by omega
  obtain ⟨d1, d2, d3, d4, d5, d6⟩ := hA
  have HR := hid hr
  clear hr
  by_cases f5 : e.at' + e.nl + e.vl ≤ t.size
  · have hr := HR.out f5
    clear HR
    go_wp2_with fail
    go_quiet (fail)
    go_wp2_with fail
    exact hr _ _ _ _ _ _ _ _ _ _ _ _ _ _ _ _ _ _ _ _ _ _ _ _ _ _ _ _ _ _ _ _ _ _ _ _ _ _ _ _ _ _ _ _ _ _ _ _ _ _ _ _ _ _ _ _ _ _ _ _ _ _ _ _ _ _ _ _ _ _ _ _ _ _ _ _ _ _ _ _ _ _ _ _ _ _ _ _ _ _ _ _ _ _ _ _ _ _ _ _ _ _ _ _ _ _ _ _ _ _ _ _ _ _ _ _ _ _ _ _ _ _ _ _ _ _ _ _ _ _ _ _ _ _ _ _ _ _ _ _ _ _ _ _ _ _ _ _ _ _ _ _ _ _ _ _ _ _ _ _ _ _ _ _ _ _ _ _ _ _ _ _ _ _ _ _ _ _ _ _ _ _ _ _ _ _ _ _ _ _ _ _ _ _ _ _ _ _ _ _ _ _ _ _ _ _
  · clear HR
    go_wp2_with fail
    go_quiet (fail)
    go_wp2_with fail
    exact hret _ _ rfl rfl (below_drewN (Below.refl _ _) _)

theorem T2 (r : Code) (Q : Exit → Act → World → Prop) (t : ByteArray) (n c1 c2 c3 c4 c5 c6 b1 o1 b2 o2 b3 o3 b4 o4 b5 o5 b6 o6 : Nat) (k : Nat) (e : Ent) (w : World) (hlt : k < n) (_hn : n ≤ 1048576) (hA : At6 w b1 o1 b2 o2 b3 o3 b4 o4 b5 o5 b6 o6 k e) (hret : RetOk Q w)
    (f1 : e.at' ≤ 1048576) (f2 : e.nl ≤ 1048576) (f3 : e.vl ≤ 1048576) (f4 : e.fl ≤ 1048576) (ht : t.size ≤ 1048576)
    (hr : e.start + e.fl ≤ t.size → At r Q t n c1 c2 c3 c4 c5 c6 b1 o1 b2 o2 b3 o3 b4 o4 b5 o5 b6 o6 k w) : At19 (.seq (stmtOf (spine 3 (inBody (inLoop (stmtOf (spine 3 (Try.f7.body.getD .skip))))))) (.seq (stmtOf (spine 4 (inBody (inLoop (stmtOf (spine 3 (Try.f7.body.getD .skip))))))) (.seq (stmtOf (spine 5 (inBody (inLoop (stmtOf (spine 3 (Try.f7.body.getD .skip))))))) r))) Q t n c1 c2 c3 c4 c5 c6 b1 o1 b2 o2 b3 o3 b4 o4 b5 o5 b6 o6 k e w := by
  intro u8 u9 u10 u11 u12 u13 u14 u15 u16 u20 u21 u22 u23 u24 u25 u26 u27 u28 u29 u30 u31 u32 u33 u34 u35 u36 u37 u38 u39 u40 u41 u42 u43 u44 u45 u46 u47 u48 u49 u50 u51 u52 u53 u54 u55 u56 u57 u58 u59 u60 u61 u62 u63 u64 u65 u66 u67 u68 u69 u70 u71 u72 u73 u74 u75 u76 u77 u78 u79 u80 u81 u82 u83 u84 u85 u86 u87 u88 u89 u90 u91 u92 u93 u94 u95 u96 u97 u98 u99 u100 u101 u102 u103 u104 u105 u106 u107 u108 u109 u110 u111 u112 u113 u114 u115 u116 u117 u118 u119 u120 u121 u122 u123 u124 u125 u126 u127 u128 u129 u130 u131 u132 u133 u134 u135 u136 u137 u138 u139 u140 u141 u142 u143 u144 u145 u146 u147 u148 u149 u150 u151 u152 u153 u154 u155 u156 u157 u158 u159 u160 u161 u162 u163 u164 u165 u166 u167 u168 u169 u170 u171 u172 u173 u174 u175 u176 u177 u178 u179 u180 u181 u182 u183 u184 u185 u186 u187 u188 u189 u190 u191 u192 u193 u194 u195 u196 u197 u198 u199 u200 u201 u202 u203 u204 u205 u206 u207 u208 u209 u210 u211 u212 u213 u214 u215
  conv => arg 2; arg 1; whnf
  conv => arg 2; arg 2; arg 1; whnf
  conv => arg 2; arg 2; arg 2; arg 1; whnf
  have hltI : (k : Int) < (n : Int) := by omega
  obtain ⟨d1, d2, d3, d4, d5, d6⟩ := hA
  have HR := hid hr
  clear hr
  obtain ⟨at', nl, vl, fl, wh, sp⟩ := e
  unfold Ent.start at HR
  simp only at d1 d2 d3 d4 d5 d6 HR f1 f2 f3 f4 ⊢
  cases sp
  · simp only [Bool.false_eq_true, if_false] at HR
    by_cases f6 : at' + fl ≤ t.size
    · have hr := HR.out f6
      clear HR
      go_wp2_with fail
      exact hr _ _ _ _ _ _ _ _ _ _ _ _ _ _ _ _ _ _ _ _ _ _ _ _ _ _ _ _ _ _ _ _ _ _ _ _ _ _ _ _ _ _ _ _ _ _ _ _ _ _ _ _ _ _ _ _ _ _ _ _ _ _ _ _ _ _ _ _ _ _ _ _ _ _ _ _ _ _ _ _ _ _ _ _ _ _ _ _ _ _ _ _ _ _ _ _ _ _ _ _ _ _ _ _ _ _ _ _ _ _ _ _ _ _ _ _ _ _ _ _ _ _ _ _ _ _ _ _ _ _ _ _ _ _ _ _ _ _ _ _ _ _ _ _ _ _ _ _ _ _ _ _ _ _ _ _ _ _ _ _ _ _ _ _ _ _ _ _ _ _ _ _ _ _ _ _ _ _ _ _ _ _ _ _ _ _ _ _ _ _ _ _ _ _ _ _ _ _ _ _ _ _ _ _ _ _
    · clear HR
      go_wp2_with fail
      exact hret _ _ rfl rfl (Below.refl _ _)
  · simp only [if_true] at HR
    by_cases f6 : at' + nl + vl + fl ≤ t.size
    · have hr := HR.out f6
      clear HR
      go_wp2_with fail
      exact hr _ _ _ _ _ _ _ _ _ _ _ _ _ _ _ _ _ _ _ _ _ _ _ _ _ _ _ _ _ _ _ _ _ _ _ _ _ _ _ _ _ _ _ _ _ _ _ _ _ _ _ _ _ _ _ _ _ _ _ _ _ _ _ _ _ _ _ _ _ _ _ _ _ _ _ _ _ _ _ _ _ _ _ _ _ _ _ _ _ _ _ _ _ _ _ _ _ _ _ _ _ _ _ _ _ _ _ _ _ _ _ _ _ _ _ _ _ _ _ _ _ _ _ _ _ _ _ _ _ _ _ _ _ _ _ _ _ _ _ _ _ _ _ _ _ _ _ _ _ _ _ _ _ _ _ _ _ _ _ _ _ _ _ _ _ _ _ _ _ _ _ _ _ _ _ _ _ _ _ _ _ _ _ _ _ _ _ _ _ _ _ _ _ _ _ _ _ _ _ _ _ _ _ _ _ _
    · clear HR
      go_wp2_with fail
      exact hret _ _ rfl rfl (Below.refl _ _)

/-- The first entry: nothing to compare with. -/
theorem T3zero (Q : Exit → Act → World → Prop) (t : ByteArray) (n c1 c2 c3 c4 c5 c6 b1 o1 b2 o2 b3 o3 b4 o4 b5 o5 b6 o6 : Nat) (k : Nat) (w : World) (hk : ¬ 0 < k) (hend : End Q t n c1 c2 c3 c4 c5 c6 b1 o1 b2 o2 b3 o3 b4 o4 b5 o5 b6 o6 k w) : At (spine 6 (inBody (inLoop (stmtOf (spine 3 (Try.f7.body.getD .skip)))))) Q t n c1 c2 c3 c4 c5 c6 b1 o1 b2 o2 b3 o3 b4 o4 b5 o5 b6 o6 k w := by
  intro u8 u9 u10 u11 u12 u13 u14 u15 u16 u19 u20 u21 u22 u23 u24 u25 u26 u27 u28 u29 u30 u31 u32 u33 u34 u35 u36 u37 u38 u39 u40 u41 u42 u43 u44 u45 u46 u47 u48 u49 u50 u51 u52 u53 u54 u55 u56 u57 u58 u59 u60 u61 u62 u63 u64 u65 u66 u67 u68 u69 u70 u71 u72 u73 u74 u75 u76 u77 u78 u79 u80 u81 u82 u83 u84 u85 u86 u87 u88 u89 u90 u91 u92 u93 u94 u95 u96 u97 u98 u99 u100 u101 u102 u103 u104 u105 u106 u107 u108 u109 u110 u111 u112 u113 u114 u115 u116 u117 u118 u119 u120 u121 u122 u123 u124 u125 u126 u127 u128 u129 u130 u131 u132 u133 u134 u135 u136 u137 u138 u139 u140 u141 u142 u143 u144 u145 u146 u147 u148 u149 u150 u151 u152 u153 u154 u155 u156 u157 u158 u159 u160 u161 u162 u163 u164 u165 u166 u167 u168 u169 u170 u171 u172 u173 u174 u175 u176 u177 u178 u179 u180 u181 u182 u183 u184 u185 u186 u187 u188 u189 u190 u191 u192 u193 u194 u195 u196 u197 u198 u199 u200 u201 u202 u203 u204 u205 u206 u207 u208 u209 u210 u211 u212 u213 u214 u215
  conv => arg 2; whnf
  go_wp2_with fail
  exact hend _ _ _ _ _ _ _ _ _ _ _ _ _ _ _ _ _ _ _ _ _ _ _ _ _ _ _ _ _ _ _ _ _ _ _ _ _ _ _ _ _ _ _ _ _ _ _ _ _ _ _ _ _ _ _ _ _ _ _ _ _ _ _ _ _ _ _ _ _ _ _ _ _ _ _ _ _ _ _ _ _ _ _ _ _ _ _ _ _ _ _ _ _ _ _ _ _ _ _ _ _ _ _ _ _ _ _ _ _ _ _ _ _ _ _ _ _ _ _ _ _ _ _ _ _ _ _ _ _ _ _ _ _ _ _ _ _ _ _ _ _ _ _ _ _ _ _ _ _ _ _ _ _ _ _ _ _ _ _ _ _ _ _ _ _ _ _ _ _ _ _ _ _ _ _ _ _ _ _ _ _ _ _ _ _ _ _ _ _ _ _ _ _ _ _ _ _ _ _ _ _ _ _ _ _ _

end Go.Proofs.Qxb6616256a
